import Derived.Test.YbulkbtkoGreatFmtLog
namespace Go.Proofs.YbulkbtkoGreatFmt
open Go.RowKit
set_option linter.unusedVariables false
set_option linter.unusedSimpArgs false

/-- The log as it grows. -/
def LS (w wr : World) (lgb : Nat) (lv0 : Value) (L : List LogE) : Prop := ∃ lv, LogAt wr lgb L lv ∧ Fr w wr (lgb :: ob lv0) ∧ ∀ g ∈ ob lv, g ∈ ob lv0 ∨ w.heap.size ≤ g
theorem LS.fr {w wr : World} {lgb : Nat} {lv0 : Value} {L : List LogE} (h : LS w wr lgb lv0 L) : Fr w wr (lgb :: ob lv0) := by
  obtain ⟨lv, _, h, _⟩ := h
  exact h
theorem LS.keep {w wr w' : World} {lgb : Nat} {lv0 : Value} {L : List LogE} (h : LS w wr lgb lv0 L) (hf : Fr wr w' []) : LS w w' lgb lv0 L := by
  obtain ⟨lv, h1, h2, h3⟩ := h
  exact ⟨lv, h1.fr hf (by simp) (by simp), h2.wide hf (by simp), h3⟩
theorem LS.send {w wr : World} {lgb : Nat} {lv0 : Value} {L : List LogE} (h : LS w wr lgb lv0 L) (hn : L.length ≤ 5000) (e : LogE) :
    Calls Ybaz.prog 10 #[.int .i64 e.dest, .agg (msgC e.k e.h e.a e.na e.nn e.nc), .pointer (some ⟨lgb, 0, none⟩)] wr fun r w' => r = .returned (.tuple #[]) ∧ LS w w' lgb lv0 (L ++ [e]) := by
  obtain ⟨lv, h1, h2, h3⟩ := h
  refine (send_any h1 hn e).mono ?_
  rintro r w' ⟨hr, lv', g1, g2, g3⟩
  have hsz := h2.size
  refine ⟨hr, lv', g1, h2.wide g2 (fun x hx => ?_), fun g hg => ?_⟩
  · rcases List.mem_cons.1 hx with e1 | e1
    · exact .inl (by simp [e1])
    · rcases h3 x e1 with e2 | e2
      · exact .inl (by simp [e2])
      · exact .inr e2
  · rcases g3 g hg with e1 | e1
    · exact h3 g e1
    · exact .inr (by omega)

theorem buildTell (k h : Int) (w : World) : (Instr.build 37 #[(0, .int .u8 k), (3, .int .i64 h)]).run Ybaz.prog w = .ok (.agg (msgC k h 0 none 0 0)) w := by
  refine run_build w 37 _ _ ?_
  kernel_rfl

theorem idx3 (A : Array Value) (i : Nat) (v : Value) (h : A[i]? = some v) (w : World) : (part 3 A i).run Ybaz.prog w = .ok v w := by
  unfold part
  simp only [Sem.run_bind]
  have : (isAgg 3).run Ybaz.prog w = .ok false w := by go_simp
  rw [this]
  simp [h]
theorem index44 (A : Array Value) (d : Nat) (v : Value) (hd : d < 16) (h : A[d]? = some v) (w : World) : (Instr.index 44 (.agg A) (.int .i64 (d : Int))).run Ybaz.prog w = .ok v w := by
  have hs : (sizeOf 3).run Ybaz.prog w = .ok 1 w := by go_simp
  have h0 : (0 : Int) ≤ (d : Int) := by omega
  have h1 : (d : Int) < 16 := by omega
  simp [Instr.index, run_underlying Ybaz.underlying44, asIntOf, hs, h0, h1, idx3 A d v h, Result.andThen]
  intro h2
  omega

def rowT (T : Nat → Int) (i : Nat) : List Value := (List.range 16).map fun d => .int .i64 (T (16 * i + d))
theorem rowT_len (T : Nat → Int) (i : Nat) : (rowT T i).length = 16 := by simp [rowT]

set_option maxHeartbeats 4000000 in
set_option maxRecDepth 100000 in
theorem tell_any {w : World} {nb jb ib vb N s lgb : Nat} {T : Nat → Int} {C : Nat → Nat} {ed : Int} {r : Nat → Value} {jf : Nat → Value} {lv0 : Value} (hNode : NodeIs w nb ib vb N s T C ed r) (hjr : w.rowIs jb 47 267 jf) (hst : ∀ p, p < 256 → ∃ x, jf (4 + p) = .int .i64 x)
    (hL : LS w w lgb lv0 []) (h1 : nb ∉ lgb :: ob lv0) (h2 : jb ∉ lgb :: ob lv0) :
    Calls Ybaz.prog 24 #[.pointer (some ⟨nb, 0, none⟩), .pointer (some ⟨jb, 4, none⟩), .int .i64 (-1), .func (.func 10) #[] #[.pointer (some ⟨lgb, 0, none⟩)]] w fun e w' => e = .returned (.tuple #[]) ∧ ∃ L, LS w w' lgb lv0 L ∧ ∀ e ∈ L, (e.k = 10 ∨ e.k = 11) ∧ e.h = (s : Int) := by
  have HNode := hide hNode
  have Hjr := hide hjr
  have HL := hide hL
  clear hNode hjr hL
  go_enter Ybaz.func24, Ybaz.ntmps24
  go_wp2_with fail
  go_loopw [12] (fun iv wr => ∃ i : Nat, i ≤ 16 ∧ iv = .int .i64 (i : Int) ∧ ∃ L, Hid (LS w wr lgb lv0 L ∧ L.length ≤ 32 * i ∧ ∀ e ∈ L, (e.k = 10 ∨ e.k = 11) ∧ e.h = (s : Int))) (fun iv _ => 16 - (intOf iv).toNat)
  case atStart => exact ⟨0, by omega, rfl, [], unhide HL, by simp, by simp⟩
  case round =>
    obtain ⟨i, hi, rfl, L, hI⟩ := hrel
    by_cases hlt : i < 16
    · have v0 : (0 : Int) ≤ (i : Int) := by omega
      have v1 : (i : Int) < 16 := by omega
      rename World => wO
      have hrange : wO.rangeAt nb (3 + i * 16) (rowT T i) := by
        intro d u hd
        unfold rowT at hd
        rw [List.getElem?_map] at hd
        by_cases hdl : d < 16
        · rw [List.getElem?_range hdl] at hd
          simp only [Option.map_some, Option.some.injEq] at hd
          refine (unhide hI).1.fr.cell ?_ h1
          rw [(unhide HNode).row.cell (by omega), show 3 + i * 16 + d = 3 + (16 * i + d) by omega, ndF_t (by omega), hd]
        · rw [List.getElem?_eq_none (by simp; omega)] at hd
          cases hd
      go_upto_block 2 with (first
        | (guard_target = wpList _ _ _ (⟨_, Op.load 44 _, _, _, _, _⟩ :: _) _ _; go_must (refine wpList_load_mid rfl 44 _ rfl nb (3 + i * 16) rfl _ _ hrange Ybaz.underlying44 rfl (by rw [rowT_len]; kernel_rfl) ?_; try simp only [Act.put, List.setIfInBounds_toArray, List.set_cons_zero, List.set_cons_succ]))
        | go_in)
      go_wp2_with fail
      go_loopw [21] (fun dv wr => ∃ d : Nat, d ≤ 16 ∧ dv = .int .i64 (d : Int) ∧ ∃ L, Hid (LS w wr lgb lv0 L ∧ L.length ≤ 32 * i + 2 * d ∧ ∀ e ∈ L, (e.k = 10 ∨ e.k = 11) ∧ e.h = (s : Int))) (fun dv _ => 16 - (intOf dv).toNat)
      case atStart => exact ⟨0, by omega, rfl, L, (unhide hI).1, by have := (unhide hI).2.1; omega, (unhide hI).2.2⟩
      case round =>
        obtain ⟨d, hd, rfl, L2, hI2⟩ := hrel
        by_cases hdl : d < 16
        · have d0 : (0 : Int) ≤ (d : Int) := by omega
          have d1 : (d : Int) < 16 := by omega
          rename World => wI
          have hri : (rowT T i).toArray[d]? = some (.int .i64 (T (16 * i + d))) := by
            rw [List.getElem?_toArray]
            unfold rowT
            rw [List.getElem?_map, List.getElem?_range hdl]
            rfl
          obtain ⟨x, hx⟩ := hst (16 * i + d) (by omega)
          have m1 : wI.cell? ⟨jb, 4 + i * 16 + d, none⟩ = some (.int .i64 x) := by
            refine (unhide hI2).1.fr.cell ?_ h2
            rw [(unhide Hjr).cell (by omega), show 4 + i * 16 + d = 4 + (16 * i + d) by omega, hx]
          have c0 : wI.cell? ⟨nb, 0, none⟩ = some (.int .i64 (s : Int)) := (unhide hI2).1.fr.cell (((unhide HNode).row.cell (by omega)).trans (by simp [ndF, (unhide HNode).r0])) h1
          have hix := fun w' => index44 (rowT T i).toArray d _ hdl hri w'
          clear hx hri
          go_upto_region 7 with fail
          clear hix m1
          have hlen := (unhide hI2).2.1
          have hall := hide (unhide hI2).2.2
          have hLS := hide (unhide hI2).1
          obtain ⟨t, ht⟩ : ∃ t, T (16 * i + d) = t := ⟨_, rfl⟩
          rw [ht]
          clear ht
          by_cases e1 : t = x
          · have u1 : (t != x) = false := by simp [e1]
            subst e1
            go_wp2_with fail
            exact ⟨⟨d + 1, by omega, rfl, L2, unhide hLS, by omega, unhide hall⟩, by simp [intOf]; omega⟩
          · have u1 : (t != x) = true := by simp [e1]
            by_cases e2 : x = -1
            · have u2 : (x != -1) = false := by simp [e2]
              have e3 : ¬ t = -1 := fun h => e1 (h.trans e2.symm)
              have u3 : (t != -1) = true := by simp [e3]
              subst e2
              go_wp2_with (first
              | (guard_target = wpList _ _ _ (⟨_, Op.build 37 _, _, _, _, _⟩ :: _) _ _; go_must (refine wpList_build2 rfl 37 0 3 _ _ rfl (.int .u8 10) (.int .i64 (s : Int)) rfl rfl _ (buildTell 10 (s : Int) _) ?_; try simp only [Act.put, List.setIfInBounds_toArray, List.set_cons_zero, List.set_cons_succ]))
              | (go_at_call 10; refine ((unhide hLS).send (by omega) ⟨t, 10, (s : Int), 0, none, 0, 0⟩).mono ?_; rintro e w1 ⟨rfl, hS1'⟩; have hS1 := hide hS1'; clear hS1'))
              refine ⟨⟨d + 1, by omega, rfl, _, unhide hS1, by simp; omega, fun e he => ?_⟩, by simp [intOf]; omega⟩
              rcases List.mem_append.1 he with h | h
              · exact unhide hall e h
              · simp at h; subst h; exact ⟨.inl rfl, rfl⟩
            · have u2 : (x != -1) = true := by simp [e2]
              go_upto_region 10 with (first
              | (guard_target = wpList _ _ _ (⟨_, Op.build 37 _, _, _, _, _⟩ :: _) _ _; go_must (refine wpList_build2 rfl 37 0 3 _ _ rfl (.int .u8 11) (.int .i64 (s : Int)) rfl rfl _ (buildTell 11 (s : Int) _) ?_; try simp only [Act.put, List.setIfInBounds_toArray, List.set_cons_zero, List.set_cons_succ]))
              | (go_at_call 10; refine ((unhide hLS).send (by omega) ⟨x, 11, (s : Int), 0, none, 0, 0⟩).mono ?_; rintro e w1 ⟨rfl, hS1'⟩; have hS1 := hide hS1'; clear hS1'))
              have hS1all : Hid (∀ e ∈ L2 ++ [(⟨x, 11, (s : Int), 0, none, 0, 0⟩ : LogE)], (e.k = 10 ∨ e.k = 11) ∧ e.h = (s : Int)) := fun e he => by
                rcases List.mem_append.1 he with h | h
                · exact unhide hall e h
                · simp at h; subst h; exact ⟨.inr rfl, rfl⟩
              have c0' : w1.cell? ⟨nb, 0, none⟩ = some (.int .i64 (s : Int)) := (unhide hS1).fr.cell (((unhide HNode).row.cell (by omega)).trans (by simp [ndF, (unhide HNode).r0])) h1
              clear c0
              by_cases e3 : t = -1
              · have u3 : (t != -1) = false := by simp [e3]
                subst e3
                go_wp2_with fail
                exact ⟨⟨d + 1, by omega, rfl, _, unhide hS1, by simp; omega, unhide hS1all⟩, by simp [intOf]; omega⟩
              · have u3 : (t != -1) = true := by simp [e3]
                go_wp2_with (first
              | (guard_target = wpList _ _ _ (⟨_, Op.build 37 _, _, _, _, _⟩ :: _) _ _; go_must (refine wpList_build2 rfl 37 0 3 _ _ rfl (.int .u8 10) (.int .i64 (s : Int)) rfl rfl _ (buildTell 10 (s : Int) _) ?_; try simp only [Act.put, List.setIfInBounds_toArray, List.set_cons_zero, List.set_cons_succ]))
              | (go_at_call 10; refine ((unhide hS1).send (by simp; omega) ⟨t, 10, (s : Int), 0, none, 0, 0⟩).mono ?_; rintro e w2 ⟨rfl, hS2'⟩; have hS2 := hide hS2'; clear hS2'))
                refine ⟨⟨d + 1, by omega, rfl, _, unhide hS2, by simp; omega, fun e he => ?_⟩, by simp [intOf]; omega⟩
                rcases List.mem_append.1 he with h | h
                · exact unhide hS1all e h
                · simp at h; subst h; exact ⟨.inl rfl, rfl⟩
        · obtain rfl : d = 16 := by omega
          go_wp2_with fail
          exact ⟨⟨i + 1, by omega, rfl, L2, (unhide hI2).1, by have := (unhide hI2).2.1; omega, (unhide hI2).2.2⟩, by simp [intOf]; omega⟩
    · obtain rfl : i = 16 := by omega
      go_wp2_with fail
      go_end0
      exact ⟨rfl, L, (unhide hI).1, (unhide hI).2.2⟩

end Go.Proofs.YbulkbtkoGreatFmt
