import Derived.Test.YbulkbtkoGreatFmtAn5
import Derived.Test.YbulkbtkoGreatFmtSo
namespace Go.Proofs.YbulkbtkoGreatFmt
open Go.RowKit
set_option linter.unusedVariables false
set_option linter.unusedSimpArgs false

theorem wpList_makeFn {P : Program} {w : World} {ops : Array Oper} {rest : List Oper} {o : Oper} {a : Act} {Q : Exit → Act → World → Prop} (hg : o.guard = Option.none) (fn : Fn) (first cap : Array Operand) (hop : o.op = Op.makeFunc fn first cap) (v : Value)
    (hv : Value.func fn (first.map a.eval) (cap.map a.eval) = v) (hK : wpList P ops Q rest (a.put o.dst v) w) : wpList P ops Q (o :: rest) a w := by
  refine wpList_plain hg fun K' hK' => ?_
  unfold Oper.wp execOp
  simp only [hop]
  subst hv
  exact hK' _ _ hK

set_option maxHeartbeats 4000000 in
set_option maxRecDepth 100000 in
theorem askNext_any {w0 w : World} {P : APar} {F rr : Nat → Value} {nl : List Nat} {askS0 : Int → Bool} {na m : Nat} {lv : Int} (h0 : AK w0 w0 P F rr nl askS0 (fun _ => false) na 0 m []) (lg : LogAt w0 P.lgb [] P.lv0) (hlv : P.lv0 = .slice none 0 0) (hF : FJ P F (-1) lv) (hnl : nl.Nodup) (h519 : rr 519 = .int .i64 0) (h518 : rr 518 = .pointer (some ⟨P.X.jb, 0, none⟩)) (hm : m ≤ 2100) (hw : w = w0.alloc (.cells #[.pointer (some ⟨P.X.nb, 0, none⟩)] 26)) :
    Calls Ybaz.prog 26 #[.pointer (some ⟨P.X.nb, 0, none⟩), .func (.func 10) #[] #[.pointer (some ⟨P.lgb, 0, none⟩)]] w0 fun e w' => e = .returned (.tuple #[]) ∧ AR w w' P askS0 := by
  have hf : Fr w0 w [] := by rw [hw]; exact (Fr.refl _ _).alloc _
  have hl0 : ob P.lv0 = [] := by rw [hlv]; rfl
  have hA0 := h0.keep hf
  have lgw := lg.fr hf (by simp) (by simp)
  have hA := hA0.rebase hlv lgw
  have cp : w.cell? ⟨w0.heap.size, 0, none⟩ = some (.pointer (some ⟨P.X.nb, 0, none⟩)) := by rw [hw]; go_simp
  have hpf : w0.heap.size ∉ P.X.nb :: P.X.jb :: P.ab :: P.zb :: P.lgb :: (ob P.v ++ ob P.lv0) := fun hm => by
    simp only [List.mem_cons, List.mem_append, hl0, List.not_mem_nil, or_false] at hm
    have st := h0.st
    rcases hm with h | h | h | h | h | h
    · have := st.lt P.X.nb (by simp); omega
    · have := st.lt P.X.jb (by simp); omega
    · have := st.lt P.ab (by simp); omega
    · have := st.lt P.zb (by simp); omega
    · have := st.lt P.lgb (by simp); omega
    · have := st.lv _ h; omega
  have c519 : w.cell? ⟨P.X.nb, 519, none⟩ = some (.int .i64 0) := (hA.node.row.cell (by omega)).trans (by simp [ndF, h519])
  have z519 := hA.node.row.frozen 519
  have hA1 := hA.setN (i := 519) (by omega) (by omega) (.int .i64 1)
  obtain ⟨w1, hw1⟩ : ∃ w1, w1 = w.setCell ⟨P.X.nb, 519, none⟩ (.int .i64 1) := ⟨_, rfl⟩
  rw [← hw1] at hA1
  have lg1 : LogAt w1 P.lgb [] P.lv0 := by rw [hw1]; exact lgw.fr ((Fr.refl _ [P.X.nb]).set (by simp) _ _) (by rw [List.mem_singleton]; exact Ne.symm h0.st.ne.2.2.2.2.2) (by rw [hl0]; simp)
  have cp1 := hA1.fr.cell cp hpf
  have c518 : w1.cell? ⟨P.X.nb, 518, none⟩ = some (.pointer (some ⟨P.X.jb, 0, none⟩)) := (hA1.node.row.cell (by omega)).trans (by simp [ndF, putF, h518])
  have c261 : w1.cell? ⟨P.X.jb, 261, none⟩ = some (.int .i64 (-1)) := (hA1.jrow.cell (by omega)).trans (by rw [hF.f261])
  have hlen := h0.len
  obtain ⟨va, vcap, hve, hvs⟩ := own_shape h0.own
  have hveq : Hid (P.v = .slice va nl.length vcap) := hve
  have HA0 := hide hA0
  have HA1 := hide hA1
  have HF := hide hF
  have Hlv := hide hlv
  have Hnl := hide hnl
  have Hcp := hide cp
  have Hlg1 := hide lg1
  have H518 := hide h518
  clear h0 hA0 hA hA1 lg lgw lg1 hlv hF hnl h518 h519 hve hvs hf
  go_enter Ybaz.func26, Ybaz.ntmps26
  go_upto_region 1 with fail
  rw [← hw]
  clear hw
  go_upto_region 2 with fail
  rw [← hw1]
  clear hw1 c519 z519 cp
  go_upto_if 28 with fail
  go_cut [] (fun wq => ∃ F' tp, -1 ≤ tp ∧ tp ≤ 16 ∧ Hid (FJ P F' tp tp) ∧ Hid (AK w wq P F' (putF rr 519 (.int .i64 1)) nl askS0 (fun _ => false) na 0 m []) ∧ Hid (LogAt wq P.lgb [] P.lv0))
  case first =>
    have c0 : w1.cell? ⟨P.X.jb, 0, none⟩ = some (.slice va nl.length vcap) := ((unhide HA1).jrow.cell (by omega)).trans (by rw [(unhide HF).f0, unhide hveq])
    go_wp2_with fail
    go_loopw [35] (fun iv wq => ∃ k : Nat, k ≤ nl.length ∧ iv = .int .i64 (k : Int) ∧ ∃ F' tp, -1 ≤ tp ∧ tp ≤ 16 ∧ Hid (FJ P F' tp lv) ∧ Hid (AK w wq P F' (putF rr 519 (.int .i64 1)) nl askS0 (fun _ => false) na 0 m []) ∧ Hid (LogAt wq P.lgb [] P.lv0)) (fun iv _ => nl.length - (intOf iv).toNat)
    case atStart => exact ⟨0, by omega, rfl, F, -1, by omega, by omega, HF, HA1, Hlg1⟩
    case round =>
      obtain ⟨k, hk, rfl, F', tp, ht1, ht2, hF', hA', hlg'⟩ := hrel
      rename World => wx
      by_cases hkl : k < nl.length
      · obtain ⟨g, cap, hge, _, hgc⟩ := own_cells (unhide hA').own (by omega)
        obtain ⟨j, hj⟩ : ∃ j, nl[k]? = some j := ⟨_, List.getElem?_eq_getElem hkl⟩
        have m0 := hgc (k * 3) (.int .i64 ((j : Nat) : Int)) (hd_at nl k j hj 0 _ rfl)
        have m1 := hgc (k * 3 + 1) (.float .f64 (P.X.cw j)) (hd_at nl k j hj 1 _ rfl)
        have m2 := hgc (k * 3 + 2) (.int .i64 ((shD (P.X.id P.X.s) (P.X.id j) : Nat) : Int)) (hd_at nl k j hj 2 _ rfl)
        have hshl := shD_le (P.X.id P.X.s) (P.X.id j)
        have hsl : Hid (va = some ⟨g, 0, none⟩) := by
          rw [unhide hveq] at hge
          simp only [Value.slice.injEq] at hge
          exact hge.1
        obtain rfl := unhide hsl
        have k0 : (0 : Int) ≤ (k : Int) := by omega
        have k1 : (k : Int) < (nl.length : Int) := by omega
        have hst := fun w' => run_store Ybaz.prog w' ⟨wx.heap.size, 1, none⟩ (.float .f64 (P.X.cw j)) .plain rfl
        clear hgc hge hj hsl
        go_upto_region 7 with fail
        obtain ⟨wX, hwX⟩ : ∃ wX, wX = wx.alloc (.cells #[.int .i64 ((j : Nat) : Int), .float .f64 (P.X.cw j), .int .i64 ((shD (P.X.id P.X.s) (P.X.id j) : Nat) : Int)] 65) := ⟨_, rfl⟩
        have x2 : wX.cell? ⟨wx.heap.size, 2, none⟩ = some (.int .i64 ((shD (P.X.id P.X.s) (P.X.id j) : Nat) : Int)) := by rw [hwX]; go_simp
        have hfX : Fr wx wX [] := by rw [hwX]; exact (Fr.refl _ _).alloc _
        have hAX := hide ((unhide hA').keep hfX)
        have hlgX := hide ((unhide hlg').fr hfX (by simp) (by simp))
        have hszX : wx.heap.size < wX.heap.size := by rw [hwX]; simp
        rw [← hwX]
        clear hwX hst m0 m1 m2 hfX
        obtain ⟨sh, hsh⟩ : ∃ sh, shD (P.X.id P.X.s) (P.X.id j) = sh := ⟨_, rfl⟩
        rw [hsh] at x2 hshl
        clear hsh
        have y261 : wX.cell? ⟨P.X.jb, 261, none⟩ = some (.int .i64 tp) := ((unhide hAX).jrow.cell (by omega)).trans (by rw [(unhide hF').f261])
        have z261 := (unhide hAX).jrow.frozen 261
        have hjx : P.X.jb ≠ wx.heap.size := by
          have h1 := (unhide hA').st.lt P.X.jb (by simp)
          have h2 := (unhide hA').fr.size
          omega
        have KS : ∀ u, (wX.drew.setCell ⟨P.X.jb, 261, none⟩ u).cell? ⟨wx.heap.size, 2, none⟩ = some (.int .i64 ((sh : Nat) : Int)) := fun u => (World.cell?_of_block (a := ⟨wx.heap.size, 2, none⟩) (Below.heap_setCell _ _ _ _ (Ne.symm hjx))).trans x2
        refine wp_region_held_drew (S := fun w' => w'.cell? ⟨wx.heap.size, 2, none⟩ = some (.int .i64 ((sh : Nat) : Int))) (by kernel_rfl) x2 (fun hHeld => ?_)
        refine wpAnyH_take (i := 0) (oi := { dst := some 39, op := Op.move (Operand.tmp 4), type := 27, pos := "join.go:134", after := _, guard := none }) (v := ?_) rfl (by kernel_rfl) (by kernel_rfl) (by kernel_rfl) (fun _ _ _ h => h) (Or.inl ⟨by rfl, ?_⟩) (by assumption) ?_
        rotate_left 1
        · (intro w hSw; (try dsimp only at hSw); go_simp <;> with_reducible rfl)
        try simp only [Act.put, List.setIfInBounds_toArray, List.set_cons_zero, List.set_cons_succ]
        refine wpAnyH_take (i := 1) (oi := { dst := some 40, op := Op.move (Operand.tmp 4), type := 27, pos := "join.go:134", after := _, guard := none }) (v := ?_) rfl (by kernel_rfl) (by kernel_rfl) (by kernel_rfl) (fun _ _ _ h => h) (Or.inl ⟨by rfl, ?_⟩) (by assumption) ?_
        rotate_left 1
        · (intro w hSw; (try dsimp only at hSw); go_simp <;> with_reducible rfl)
        try simp only [Act.put, List.setIfInBounds_toArray, List.set_cons_zero, List.set_cons_succ]
        refine wpAnyH_take (i := 2) (oi := { dst := some 41, op := Op.nilCheck (Operand.tmp 40), type := 0, pos := "join.go:134", after := _, guard := none }) (v := ?_) rfl (by kernel_rfl) (by kernel_rfl) (by kernel_rfl) (fun _ _ _ h => h) (Or.inl ⟨by rfl, ?_⟩) (by assumption) ?_
        rotate_left 1
        · (intro w hSw; (try dsimp only at hSw); go_simp <;> with_reducible rfl)
        try simp only [Act.put, List.setIfInBounds_toArray, List.set_cons_zero, List.set_cons_succ]
        refine wpAnyH_take (i := 3) (oi := { dst := some 42, op := Op.fieldAddr 47 (Operand.tmp 41) 4, type := 0, pos := "join.go:134", after := _, guard := none }) (v := ?_) rfl (by kernel_rfl) (by kernel_rfl) (by kernel_rfl) (fun _ _ _ h => h) (Or.inl ⟨by rfl, ?_⟩) (by assumption) ?_
        rotate_left 1
        · (intro w hSw; (try dsimp only at hSw); go_simp <;> with_reducible rfl)
        try simp only [Act.put, List.setIfInBounds_toArray, List.set_cons_zero, List.set_cons_succ]
        refine wpAnyH_take (i := 5) (oi := { dst := some 44, op := Op.fieldAddr 65 (Operand.tmp 6) 2, type := 0, pos := "join.go:134", after := _, guard := none }) (v := ?_) rfl (by kernel_rfl) (by kernel_rfl) (by kernel_rfl) (fun _ _ _ h => h) (Or.inl ⟨by rfl, ?_⟩) (by assumption) ?_
        rotate_left 1
        · (intro w hSw; (try dsimp only at hSw); go_simp <;> with_reducible rfl)
        try simp only [Act.put, List.setIfInBounds_toArray, List.set_cons_zero, List.set_cons_succ]
        refine wpAnyH_take (i := 6) (oi := { dst := some 45, op := Op.load 3 (Operand.tmp 44), type := 3, pos := "join.go:134", after := _, guard := none }) (v := ?_) rfl (by kernel_rfl) (by kernel_rfl) (by kernel_rfl) (fun _ _ _ h => h) (Or.inl ⟨by rfl, ?_⟩) (by assumption) ?_
        rotate_left 1
        · (intro w hSw; (try dsimp only at hSw); go_simp <;> with_reducible rfl)
        try simp only [Act.put, List.setIfInBounds_toArray, List.set_cons_zero, List.set_cons_succ]
        refine wpAnyH_ready (rs := [4]) (by kernel_rfl) (by simp) ?_
        refine AllReadyH.cons (o := { dst := some 43, op := Op.load 3 (Operand.tmp 42), type := 3, pos := "join.go:134", after := _, guard := none }) rfl (fun K hK => ?_) AllReadyH.nil
        go_simp
        refine hK.out _ _ (x2) (fun hHeld => ?_)
        clear hK K
        try simp only [Act.put, List.setIfInBounds_toArray, List.set_cons_zero, List.set_cons_succ]
        refine wpAnyH_ready (rs := [7]) (by kernel_rfl) (by simp) ?_
        refine AllReadyH.cons (o := { dst := some 46, op := Op.call { callee := Callee.builtin Builtin.max, args := #[Operand.tmp 43, Operand.tmp 45], argTypes := #[3, 3] }, type := 3, pos := "join.go:134", after := _, guard := none }) rfl (fun K hK => ?_) AllReadyH.nil
        go_simp
        refine hK.out _ _ (x2) (fun hHeld => ?_)
        clear hK K
        try simp only [Act.put, List.setIfInBounds_toArray, List.set_cons_zero, List.set_cons_succ]
        refine wpAnyH_take (i := 8) (oi := { dst := some 47, op := Op.nilCheck (Operand.tmp 39), type := 0, pos := "join.go:134", after := _, guard := none }) (v := ?_) rfl (by kernel_rfl) (by kernel_rfl) (by kernel_rfl) (fun _ _ _ h => h) (Or.inl ⟨by rfl, ?_⟩) (by assumption) ?_
        rotate_left 1
        · (intro w hSw; (try dsimp only at hSw); go_simp <;> with_reducible rfl)
        try simp only [Act.put, List.setIfInBounds_toArray, List.set_cons_zero, List.set_cons_succ]
        refine wpAnyH_take (i := 9) (oi := { dst := some 48, op := Op.fieldAddr 47 (Operand.tmp 47) 4, type := 0, pos := "join.go:134", after := _, guard := none }) (v := ?_) rfl (by kernel_rfl) (by kernel_rfl) (by kernel_rfl) (fun _ _ _ h => h) (Or.inl ⟨by rfl, ?_⟩) (by assumption) ?_
        rotate_left 1
        · (intro w hSw; (try dsimp only at hSw); go_simp <;> with_reducible rfl)
        try simp only [Act.put, List.setIfInBounds_toArray, List.set_cons_zero, List.set_cons_succ]
        refine wpAnyH_ready (rs := [10]) (by kernel_rfl) (by simp) ?_
        refine AllReadyH.cons (o := { dst := none, op := Op.store 3 (Operand.tmp 48) (Operand.tmp 46), type := 0, pos := "join.go:134", after := _, guard := none }) rfl (fun K hK => ?_) AllReadyH.nil
        go_simp
        refine hK.out _ _ (KS _) (fun hHeld => ?_)
        clear hK K
        try simp only [Act.put, List.setIfInBounds_toArray, List.set_cons_zero, List.set_cons_succ]
        refine wpAnyH_done (by kernel_rfl) ?_ _

        have hnx := hide (((unhide hAX).keep (.of_same ((Same.refl wX).drew))).setJ 261 (.int .i64 (max tp ((sh : Nat) : Int))))
        have lnx : Hid (LogAt (wX.drew.setCell ⟨P.X.jb, 261, none⟩ (.int .i64 (max tp ((sh : Nat) : Int)))) P.lgb [] P.lv0) := ((unhide hlgX).fr (Fr.of_same (S := []) ((Same.refl wX).drew)) (by simp) (by simp)).fr ((Fr.refl _ [P.X.jb]).set (by simp) _ _) (by rw [List.mem_singleton]; exact Ne.symm (unhide hA').st.ne.2.2.1) (by rw [hl0]; simp)
        have hmx : -1 ≤ max tp ((sh : Nat) : Int) ∧ max tp ((sh : Nat) : Int) ≤ 16 := by omega
        go_wp2_with fail
        exact ⟨⟨k + 1, by omega, rfl, _, max tp ((sh : Nat) : Int), hmx.1, hmx.2, (unhide hF').top _, hnx, lnx⟩, by simp [intOf]; omega⟩
      · obtain rfl : k = nl.length := by omega
        have y261 : wx.cell? ⟨P.X.jb, 261, none⟩ = some (.int .i64 tp) := ((unhide hA').jrow.cell (by omega)).trans (by rw [(unhide hF').f261])
        obtain ⟨u262, y262⟩ : ∃ u, wx.cell? ⟨P.X.jb, 262, none⟩ = some u := ⟨_, (unhide hA').jrow.cell (by omega)⟩
        have z262 := (unhide hA').jrow.frozen 262
        have hnx := hide ((unhide hA').setJ 262 (.int .i64 tp))
        have lnx : Hid (LogAt (wx.setCell ⟨P.X.jb, 262, none⟩ (.int .i64 tp)) P.lgb [] P.lv0) := (unhide hlg').fr ((Fr.refl _ [P.X.jb]).set (by simp) _ _) (by rw [List.mem_singleton]; exact Ne.symm (unhide hA').st.ne.2.2.1) (by rw [hl0]; simp)
        go_wp2_with fail
        go_meet
        exact ⟨_, tp, ht1, ht2, (unhide hF').level tp, hnx, lnx⟩
  case rest =>
    obtain ⟨F', tp, ht1, ht2, hF', hA', hlg'⟩ := hcut
    rename World => wq
    have cq := (unhide hA').fr.cell (unhide Hcp) hpf
    have c0 : wq.cell? ⟨P.X.jb, 0, none⟩ = some (.slice va nl.length vcap) := ((unhide hA').jrow.cell (by omega)).trans (by rw [(unhide hF').f0, unhide hveq])
    have hpv : w0.heap.size ∉ ob P.v := fun hm => hpf (by simp [hm])
    have hsort := (unhide hA').sort (unhide hlg') (unhide Hlv) cq hpv
    rw [unhide hveq] at hsort
    have Hsort := hide hsort
    clear hsort
    go_upto_region 10 with fail
    go_cut [] (fun wz => ∃ nl', nl'.Perm nl ∧ Hid (AK w wz P F' (putF rr 519 (.int .i64 1)) nl' askS0 (fun _ => false) na 0 m []) ∧ Hid (LogAt wz P.lgb [] P.lv0))
    case first =>
      go_wp2_with (first
        | (guard_target = wpList _ _ _ (⟨_, Op.makeFunc _ _ _, _, _, _, _⟩ :: _) _ _; go_must (refine wpList_makeFn rfl _ _ _ rfl (.func (.func 38) #[] #[.pointer (some ⟨w0.heap.size, 0, none⟩)]) (by simp [Act.eval]; done) ?_; try simp only [Act.put, List.setIfInBounds_toArray, List.set_cons_zero, List.set_cons_succ]))
        | (go_at_call 37; refine (unhide Hsort).mono ?_; rintro e wz ⟨rfl, nl', hp, hk', hl', _⟩; have hk := hide hk'; have hl := hide hl'; clear hk' hl'))
      go_meet
      exact ⟨nl', hp, hk, hl⟩
    case rest =>
      obtain ⟨nl', hp, hk, hl⟩ := hcut
      exact (by assumption : ∀ (a : Act) (w0 : World), Code.wp Ybaz.prog atail5 (bodyPost Ybaz.prog Ybaz.f26 fun e w' => e = .returned (.tuple #[]) ∧ AR w w' P askS0) a w0 → _) _ _ (an_t5 ⟨unhide hk, unhide hl, ⟨rfl, .inl ⟨rfl, rfl⟩⟩, (fun g hg => by cases hg), List.nodup_nil, (fun j hj => by cases hj), Nat.le_refl _⟩ (unhide hF') (unhide Hlv) ⟨ht1, ht2⟩ ⟨ht1, ht2⟩ (hp.nodup_iff.2 (unhide Hnl)) (unhide Hcp) hpf (fun j h => h) (by simp [putF]) (by simp [putF, unhide H518]) hm)


end Go.Proofs.YbulkbtkoGreatFmt
