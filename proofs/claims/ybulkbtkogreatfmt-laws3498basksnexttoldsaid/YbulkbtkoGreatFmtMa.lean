import Derived.Test.YbulkbtkoGreatFmtFx
import Derived.Test.YbulkbtkoGreatFmtEq
namespace Go.Proofs.YbulkbtkoGreatFmt
open Go.RowKit
set_option linter.unusedVariables false
set_option linter.unusedSimpArgs false

/-- What is left of the law behind its k-th statement. -/
noncomputable def mtail7 : Code := sndSeq (sndSeq (sndSeq (sndSeq (sndSeq (sndSeq (sndSeq (Ybaz.f4.body.getD .skip)))))))
noncomputable def mtail8 : Code := sndSeq (sndSeq (sndSeq (sndSeq (sndSeq (sndSeq (sndSeq (sndSeq (Ybaz.f4.body.getD .skip))))))))
noncomputable def mtail9 : Code := sndSeq (sndSeq (sndSeq (sndSeq (sndSeq (sndSeq (sndSeq (sndSeq (sndSeq (Ybaz.f4.body.getD .skip)))))))))
noncomputable def mtail10 : Code := sndSeq (sndSeq (sndSeq (sndSeq (sndSeq (sndSeq (sndSeq (sndSeq (sndSeq (sndSeq (Ybaz.f4.body.getD .skip))))))))))

theorem log_at : ∀ (L : List LogE) (i : Nat) (e : LogE), L[i]? = some e → ∀ q u, e.cells[q]? = some u → (logL L)[i * 16 + q]? = some u
  | [], i, e, h, q, u, hq => by simp at h
  | a :: L, 0, e, h, q, u, hq => by
    have e1 : a = e := by simpa using h
    subst e1
    have hl : q < a.cells.length := by
      rcases Nat.lt_or_ge q a.cells.length with c | c
      · exact c
      · rw [List.getElem?_eq_none c] at hq; cases hq
    simp only [logL, List.flatMap_cons]
    rw [Nat.zero_mul, Nat.zero_add, List.getElem?_append_left hl]
    exact hq
  | a :: L, i + 1, e, h, q, u, hq => by
    have h' : L[i]? = some e := by simpa using h
    have ih := log_at L i e h' q u hq
    have e3 : a.cells.length = 16 := rfl
    simp only [logL, List.flatMap_cons] at ih ⊢
    rw [List.getElem?_append_right (by rw [e3]; omega), e3, show (i + 1) * 16 + q - 16 = i * 16 + q by omega]
    exact ih
theorem info71z : (Ybaz.prog.info? 71).map (·.size) = some 16 := by kernel_rfl
theorem own_max {w : World} {e k n : Nat} {v : Value} {xs : List Value} (h : w.ownsRow 0 e k v n xs) : n ≤ maxLen := by
  rcases h.2 with ⟨_, rfl⟩ | ⟨g, cap, cur, rfl, _, _, h1, h2, _⟩
  · exact Nat.zero_le _
  · exact Nat.le_trans h1 h2
set_option maxHeartbeats 4000000 in
set_option maxRecDepth 100000 in
theorem m_t10 {w wZ : World} {wsb lgb : Nat} {X : Cx} {Y : Ex} {T : Nat → Int} {C : Nat → Nat} {ed : Int} {F rr : Nat → Value} {askS awS : Int → Bool} {na nw m : Nat} {L : List LogE} {lv : Value} (halt : ∀ e ∈ L, (e.k = 10 ∨ e.k = 11) ∧ e.h = ((X.s : Nat) : Int)) (hF : FY w wZ wsb lgb X Y T C ed F rr askS awS na nw m L lv) {q0 q1 q2 q3 q4 q5 q6 q7 q8 q9 q10 q11 q12 q13 q14 q19 q20 q21 q22 q23 q24 q25 q26 q27 q28 q29 q30 q31 q32 q33 q34 q35 q36 q37 q38 q39 q40 q41 q42 q43 q44 q45 q46 q47 q48 q49 q50 q51 q52 q53 q54 q55 q56 q57 q58 q59 q60 q61 q62 q63 q64 q65 q66 q67 q68 q69 q70 q71 q72 q73 q74 q75 q76 q77 q78 q79 q80 q81 q82 q83 q84 q85 q86 q87 q88 q89 q90 q91 q92 q93 q94 q95 q96 q97 q98 q99 q100 q101 q102 q103 q104 q105 q106 q107 q108 q109 q110 q111 q112 q113 q114 q115 q116 q117 q118 q119 q120 q121 q122 q123 q124 q125 q126 q127 q128 q129 q130 q131 q132 q133 q134 q135 q136 q137 q138 q139 q140 q141 q142 q143 q144 q145 q146 q147 q148 q149 q150 q151 q152 q153 q154 q155 q156 q157 q158 q159 q160 q161 q162 q163 q164 q165 q166 q167 q168 q169 q170 q171 q172 q173 q174 q175 q176 q177 q178 q179 q180 q181 q182 q183 q184 q185 q186 q187 q188 q189 q190 q191 q192 q193 : Value} :
    Code.wp Ybaz.prog mtail10 (bodyPost Ybaz.prog Ybaz.f4 fun e w' => e = .returned (.bool true) ∧ Below w.heap.size w w') ⟨#[q0, q1, q2, q3, q4, q5, q6, q7, q8, q9, q10, q11, q12, q13, q14, .pointer (some ⟨wsb, 0, none⟩), .pointer (some ⟨X.nb, 0, none⟩), .pointer (some ⟨X.jb, 0, none⟩), .pointer (some ⟨lgb, 0, none⟩), q19, q20, q21, q22, q23, q24, q25, q26, q27, q28, q29, q30, q31, q32, q33, q34, q35, q36, q37, q38, q39, q40, q41, q42, q43, q44, q45, q46, q47, q48, q49, q50, q51, q52, q53, q54, q55, q56, q57, q58, q59, q60, q61, q62, q63, q64, q65, q66, q67, q68, q69, q70, q71, q72, q73, q74, q75, q76, q77, q78, q79, q80, q81, q82, q83, q84, q85, q86, q87, q88, q89, q90, q91, q92, q93, q94, q95, q96, q97, q98, q99, q100, q101, q102, q103, q104, q105, q106, q107, q108, q109, q110, q111, q112, q113, q114, q115, q116, q117, q118, q119, q120, q121, q122, q123, q124, q125, q126, q127, q128, q129, q130, q131, q132, q133, q134, q135, q136, q137, q138, q139, q140, q141, q142, q143, q144, q145, q146, q147, q148, q149, q150, q151, q152, q153, q154, q155, q156, q157, q158, q159, q160, q161, q162, q163, q164, q165, q166, q167, q168, q169, q170, q171, q172, q173, q174, q175, q176, q177, q178, q179, q180, q181, q182, q183, q184, q185, q186, q187, q188, q189, q190, q191, q192, q193], []⟩ wZ := by
  have hmx := own_max hF.log.own
  have hmx' : L.length ≤ 9223372036854775807 := hmx
  obtain ⟨la, lc, hle, hls⟩ := own_shape hF.log.own
  have c18 : wZ.cell? ⟨lgb, 0, none⟩ = some (.slice la L.length lc) := (hF.log.row.cell (show 0 < 1 by omega)).trans (by rw [hle])
  have Hle := hide hle
  have Halt := hide halt
  clear hle hls hmx halt
  have HF := hide hF
  clear hF
  conv => arg 2; simp only [mtail10, Ybaz.f4, Option.getD_some, sndSeq]
  dsimp only
  go_upto_block 2 with fail
  go_cut [] (fun wq => Below w.heap.size w wq)
  case first =>
    go_wp2_with fail
    go_loopw [169] (fun iv wq => ∃ k : Nat, k ≤ L.length ∧ iv = .int .i64 (k : Int) ∧ Hid (FY w wq wsb lgb X Y T C ed F rr askS awS na nw m L lv)) (fun iv _ => L.length - (intOf iv).toNat)
    case atStart => exact ⟨0, by omega, rfl, HF⟩
    case round =>
      obtain ⟨k, hk, rfl, hQ⟩ := hrel
      rename World => wq
      by_cases hkl : k < L.length
      · obtain ⟨g, cap, hge, _, hgc⟩ := own_cells (unhide hQ).log.own (by omega)
        obtain ⟨e, he⟩ : ∃ e, L[k]? = some e := ⟨_, List.getElem?_eq_getElem hkl⟩
        have hrg : wq.rangeAt g (k * 16) e.cells := fun q u hq => hgc _ _ (log_at L k e he q u hq)
        have hae := unhide Halt e (List.mem_of_getElem? he)
        have hsl : la = some ⟨g, 0, none⟩ := by
          rw [unhide Hle] at hge
          simp only [Value.slice.injEq] at hge
          exact hge.1
        subst hsl
        have k0 : (0 : Int) ≤ (k : Int) := by omega
        have k1 : (k : Int) < (L.length : Int) := by omega
        obtain ⟨ed0, ek, eh, ea, ena, enn, enc⟩ := e
        clear hgc hge he
        go_upto_region 25 with (first
          | (guard_target = wpList _ _ _ (⟨_, Op.load 71 _, _, _, _, _⟩ :: _) _ _; go_must (refine wpList_load_mid rfl 71 _ rfl g (k * 16) rfl [.int .i64 ed0, .int .u8 ek, .int .u64 0, .int .i64 0, .int .i64 eh, .int .i64 ea, .int .i64 0, .int .i64 0, .int .u64 0, .slice ena enn enc, .slice none 0 0, .bool false, .bool false, .bool false, .bool false, .bool false] _ hrg Ybaz.underlying71 rfl info71z ?_; try simp only [Act.put, List.setIfInBounds_toArray, List.set_cons_zero, List.set_cons_succ]))
          | go_in)
        obtain ⟨wX, hwX⟩ : ∃ wX, wX = wq.alloc (.cells #[.int .i64 ed0, .int .u8 ek, .int .u64 0, .int .i64 0, .int .i64 eh, .int .i64 ea, .int .i64 0, .int .i64 0, .int .u64 0, .slice ena enn enc, .slice none 0 0, .bool false, .bool false, .bool false, .bool false, .bool false] 71) := ⟨_, rfl⟩
        have x1 : wX.cell? ⟨wq.heap.size, 1, none⟩ = some (.int .u8 ek) := by rw [hwX]; go_simp
        have x4 : wX.cell? ⟨wq.heap.size, 4, none⟩ = some (.int .i64 eh) := by rw [hwX]; go_simp
        have hbX : Below wq.heap.size wq wX := by rw [hwX]; exact (Below.refl _ _).alloc (Nat.le_refl _) _
        have hQX := hide ((unhide hQ).same hbX)
        rw [← hwX]
        clear hwX hbX hrg hQ
        have c4 := (unhide hQX).c4
        obtain ⟨hk2, hh2⟩ := hae
        have hh3 : eh = ((X.s : Nat) : Int) := hh2
        subst hh3
        go_cut [192] (fun s192 wz => s192 = .bool false ∧ Same wX wz)
        case first =>
          rcases hk2 with h | h
          · have h' : ek = 10 := h
            subst h'
            clear h hh2
            go_big_quiet (fail)
            go_wp2_with fail
            go_meet
            exact ⟨rfl, (Same.refl _).drewN _⟩
          · have h' : ek = 11 := h
            subst h'
            clear h hh2
            go_big_quiet (fail)
            go_wp2_with fail
            go_meet
            exact ⟨rfl, (Same.refl _).drewN _⟩
        case rest =>
          obtain ⟨rfl, hSz⟩ := hcut
          rename World => wz
          have hQz := hide ((unhide hQX).same (hSz.below _))
          clear x1 x4 c4 hQX hSz hk2 hh2
          go_wp2_with fail
          exact ⟨⟨k + 1, by omega, rfl, hQz⟩, by simp [intOf]; omega⟩
      · obtain rfl : k = L.length := by omega
        go_wp2_with fail
        go_meet
        exact (unhide hQ).bel
  case rest =>
    go_wp2_with fail
    go_ret
    exact ⟨rfl, hcut⟩


end Go.Proofs.YbulkbtkoGreatFmt
