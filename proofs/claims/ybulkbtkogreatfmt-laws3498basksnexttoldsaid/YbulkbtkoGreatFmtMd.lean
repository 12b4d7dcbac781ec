import Derived.Test.YbulkbtkoGreatFmtMc
namespace Go.Proofs.YbulkbtkoGreatFmt
open Go.RowKit
set_option linter.unusedVariables false
set_option linter.unusedSimpArgs false

set_option maxHeartbeats 4000000 in
set_option maxRecDepth 100000 in
theorem law4_good {w : World} {N sdc slf mm mmc : Nat} {sd mx : Nat → Nat} {pn prc mn mgc snr bn bpc : Nat} {pv mv xn : Nat → Nat} {yc : Nat → Int} {sda mma pra mga bpa : Option Addr} (hN : N ≤ 300) (hN0 : 0 < N) (hsd : U8 w sda N sd) (hsx : ∀ i, sd i < 256) (hslf : slf < 256) (hmm : mm ≤ 300) (hma : U8 w mma mm mx) (hmx : ∀ i, mx i < 256) (hpn : pn ≤ 300) (hpr : U8 w pra pn pv) (hpv : ∀ i, pv i < 256)
    (hmn : mn ≤ 300) (hsnr : snr < 256) (hmg : U8 w mga mn mv) (hmv : ∀ i, mv i < 256) (hbn : bn ≤ 300) (hbp : Bps w bpa bn xn yc) (hxn : ∀ i, xn i < 256) (hyc : ∀ i, -128 ≤ yc i ∧ yc i ≤ 127) :
    Calls Ybaz.prog 4 #[.slice sda N sdc, .int .u8 ((slf : Nat) : Int), .slice mma mm mmc, .slice pra pn prc, .slice mga mn mgc, .int .u8 ((snr : Nat) : Int), .slice bpa bn bpc] w fun e w' => e = .returned (.bool true) ∧ Below w.heap.size w w' := by
  have Hsd := hide hsd
  have Hma := hide hma
  have Hpr := hide hpr
  have Hmg := hide hmg
  have Hbp := hide hbp
  clear hsd hma hpr hmg hbp
  have t0 : ¬ N = 0 := by omega
  have t1 : ¬ ((300 : Int) < (N : Int)) := by omega
  have t2 : ¬ ((300 : Int) < (mm : Int)) := by omega
  have t3 : ¬ ((300 : Int) < (pn : Int)) := by omega
  have t4 : ¬ ((300 : Int) < (mn : Int)) := by omega
  have t5 : ¬ ((300 : Int) < (bn : Int)) := by omega
  have u0 : ((N : Int) == 0) = false := by simp; omega
  have u1 : decide ((300 : Int) < (N : Int)) = false := by simp; omega
  have u2 : decide ((300 : Int) < (mm : Int)) = false := by simp; omega
  have u3 : decide ((300 : Int) < (pn : Int)) = false := by simp; omega
  have u4 : decide ((300 : Int) < (mn : Int)) = false := by simp; omega
  have u5 : decide ((300 : Int) < (bn : Int)) = false := by simp; omega
  go_enter Ybaz.func4, Ybaz.ntmps4
  go_upto_region 4 with (go_at_call 5; refine (build_any hN hN0 (unhide Hsd) hsx hslf hmm (unhide Hma) hmx hpn (unhide Hpr) hpv hmn hsnr (unhide Hmg) hmv hbn (unhide Hbp) hxn hyc).mono ?_; rintro e wb ⟨wsb, X, Y, fv, rfl, hW'⟩; have hW := hide hW'; clear hW')
  clear t0 t1 t2 t3 t4 t5 u0 u1 u2 u3 u4 u5
  have c0 := (unhide hW).c0
  have c1 := (unhide hW).c1
  go_cut [16, 17] (fun s16 s17 wq => s16 = .pointer (some ⟨X.nb, 0, none⟩) ∧ s17 = .pointer (some ⟨X.jb, 0, none⟩) ∧ Same wb wq)
  case first =>
    go_big_quiet (fail)
    go_wp2_with fail
    go_meet
    exact ⟨rfl, rfl, (Same.refl _).drewN _⟩
  case rest =>
    obtain ⟨rfl, rfl, hSm⟩ := hcut
    rename World => wq
    have hSd : Same wb wq.drew := hSm.drew
    have hK := (unhide hW).bk
    have st := hK.st
    have h0 : E0 X wb Y.ab Y.nsb Y.ncap Y.bb Y.nn Y.bn Y.m0 Y.m1 Y.nf Y.bf Y.bw Y.bx Y.seen0 Y.l Y.ed Y.mc Y.ba Y.bcap := hK.e0
    have hsnd := h0.eb.hsnd
    have hXN := h0.eb.hN
    have hzf := st.far Y.zb (by simp)
    have hzZ := (st.low Y.zb (by simp)).2
    have hwz : wsb ≠ Y.zb := by have := (unhide hW).ge; omega
    have hjz : X.jb ≠ Y.zb := fun e => hzf.a (by simp [← e])
    have g263 : wq.drew.cell? ⟨X.jb, 263, none⟩ = some (.map (some Y.zb)) := (hSd.cell _).trans ((h0.jrow.cell (by omega)).trans (by rw [st.j263]))
    have c5 : wq.drew.cell? ⟨wsb, 5, none⟩ = some (.int .i64 ((X.snd : Nat) : Int)) := (hSd.cell _).trans (unhide hW).c5
    have hz0 := hK.zset.of_block (hSd.block _)
    obtain ⟨w2, hput, hset2, hmo2⟩ := hz0.put (j := ((X.snd : Nat) : Int)) (iwf (by omega) (by omega)) (by decide)
    have hset2' : Hid (SetAt w2 Y.zb 1 (fun k => decide (k = ((X.snd : Nat) : Int)) || false) 1) := hset2
    have g263' : w2.cell? ⟨X.jb, 263, none⟩ = some (.map (some Y.zb)) := (World.cell?_of_block (a := ⟨X.jb, 263, none⟩) (hmo2.block hjz)).trans g263
    have c5' : w2.cell? ⟨wsb, 5, none⟩ = some (.int .i64 ((X.snd : Nat) : Int)) := (World.cell?_of_block (a := ⟨wsb, 5, none⟩) (hmo2.block hwz)).trans c5
    have f3 : Fr wb w2 [Y.zb] := (Fr.of_same hSd).trans (.of_map hmo2 (by simp))
    have F3 := hide f3
    have sz3 : Hid (w2.heap.size = wb.heap.size) := by show w2.heap.size = wb.heap.size; rw [hmo2.size, hSd.heap]
    have hmcs : Y.mc.size = 15 := h0.mcs
    have hrange3 : w2.rangeAt wsb 12 Y.mc.toList := fun j v hj => f3.cell ((unhide hW).cm j v hj) (by show wsb ∉ [Y.zb]; simp; exact hwz)
    clear hSm hSd hK st h0 hsnd hXN hzf hzZ hz0 hset2 hmo2 f3 c0 c1
    go_upto_region 5 with fail
    go_region_held3 (fun w' => w'.cell? ⟨X.jb, 263, none⟩ = some (.map (some Y.zb)) ∧ w'.cell? ⟨wsb, 5, none⟩ = some (.int .i64 ((X.snd : Nat) : Int)))
      ((first | exact ⟨g263, c5⟩ | exact ⟨g263', c5'⟩)) (fail)
    go_upto_region 7 with fail
    obtain ⟨w4, hw4⟩ : ∃ w4, w4 = w2.alloc (.cells #[.slice none 0 0] 69) := ⟨_, rfl⟩
    have hlog : Hid (LogAt w4 w2.heap.size [] (.slice none 0 0)) := by
      rw [hw4]
      exact ⟨(row_new w2 #[.slice none 0 0] 69 1 rfl).congr fun i hi => by rw [show i = 0 by omega]; rfl, ⟨rfl, .inl ⟨rfl, rfl⟩⟩, by intro h; cases h⟩
    have f34 : Fr w2 w4 [] := by rw [hw4]; exact (Fr.refl _ _).alloc _
    rw [← hw4]
    have hrange : w4.rangeAt wsb 12 Y.mc.toList := fun j v hj => f34.cell (hrange3 j v hj) (by simp)
    have hz4 : Hid (SetAt w4 Y.zb 1 (fun k => decide (k = ((X.snd : Nat) : Int)) || false) 1) := (unhide hset2').of_block (f34.block _ (unhide hset2').lt (by simp))
    have f4 : Hid (Fr wb w4 [Y.zb]) := (unhide F3).trans (f34.mono (by simp))
    have hge : wb.heap.size ≤ w2.heap.size := by have := unhide sz3; omega
    clear hw4 f34 hrange3 g263 c5 g263' c5' hput
    obtain ⟨lgb, hcb⟩ : ∃ lgb, w2.heap.size = lgb := ⟨_, rfl⟩
    rw [hcb] at hlog hge ⊢
    clear hcb sz3
    have hent := law_entries4 (unhide hW) (unhide f4) (unhide hz4) (unhide hlog) hge
    have Hent := hide hent
    clear hent
    go_cut [] (fun wz => Hid (∃ T C ed F rr askS awS na nw m L lv, FY w wz wsb lgb X Y T C ed F rr askS awS na nw m L lv))
    case first =>
      go_wp2_with (first
        | (guard_target = wpList _ _ _ (⟨_, Op.load 37 _, _, _, _, _⟩ :: _) _ _; go_must (refine wpList_load_mid rfl 37 _ rfl wsb 12 rfl _ _ hrange Ybaz.underlying37 rfl (by rw [Array.length_toList, hmcs]; kernel_rfl) ?_; try simp only [Act.put, List.setIfInBounds_toArray, List.set_cons_zero, List.set_cons_succ]))
        | (guard_target = wpList _ _ _ (⟨_, Op.makeFunc _ _ _, _, _, _, _⟩ :: _) _ _; go_must (refine wpList_makeFunc rfl _ _ _ rfl (.func (.func 10) #[] #[.pointer (some ⟨lgb, 0, none⟩)]) (by simp [Act.eval]; done) ?_; try simp only [Act.put, List.setIfInBounds_toArray, List.set_cons_zero, List.set_cons_succ]))
        | (go_at_call 6; refine (unhide Hent).mono ?_; rintro e wz ⟨rfl, hFz'⟩; have hFz := hide hFz'; clear hFz'))
      go_meet
      exact hFz
    case rest =>
      obtain ⟨T, C, ed, F, rr, askS, awS, na, nw, m, L, lv, hFz⟩ := unhide hcut
      exact (by assumption : ∀ (a : Act) (w0 : World), Code.wp Ybaz.prog mtail7 (bodyPost Ybaz.prog Ybaz.f4 fun e w' => e = .returned (.bool true) ∧ Below w.heap.size w w') a w0 → _) _ _ (m_t7 hFz)


end Go.Proofs.YbulkbtkoGreatFmt
