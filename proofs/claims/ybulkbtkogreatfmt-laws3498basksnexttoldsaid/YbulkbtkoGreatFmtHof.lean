import Derived.Test.YbulkbtkoGreatFmtOwn
namespace Go.Proofs.YbulkbtkoGreatFmt
open Go.RowKit
set_option linter.unusedVariables false
set_option linter.unusedSimpArgs false

/-- What hearOf leaves where the node is new. -/
structure Hof (w w' : World) (jb hb m c n s j : Nat) (jf : Nat → Value) (v : Value) (Sh : Int → Bool) (cw id : Nat → Nat) (l : List Nat) (v' : Value) : Prop where
  row : w'.rowIs jb 47 267 (putF jf 0 v')
  set : SetAt w' hb (m + 1) (fun k => decide (k = (j : Int)) || Sh k) (c + 1)
  own : w'.ownsRow 0 65 3 v' (n + 1) (hdsL cw id s (l ++ [j]))
  fr : Fr w w' (jb :: hb :: ob v)
  at' : ∀ g ∈ ob v', g ∈ ob v ∨ w.heap.size ≤ g

theorem hofFin {w w1 w3 : World} {nb jb hb ib cb vb m c n s j g cap : Nat} {jf : Nat → Value} {v : Value} {Sh : Int → Bool} {cw id : Nat → Nat} {l : List Nat} (hnd : [nb, jb, hb, ib, cb, vb].Nodup) (hv : ∀ g ∈ ob v, g ∉ [nb, jb, hb, ib, cb, vb])
    (hmo : MapOnly w w1 hb) (hset : SetAt w1 hb (m + 1) (fun k => decide (k = (j : Int)) || Sh k) (c + 1)) (hR : w3.rowIs jb 47 267 jf) (hown : w3.ownsRow 0 65 3 (.slice (some ⟨g, 0, none⟩) (n + 1) cap) (n + 1) (hdsL cw id s l ++ hdL cw id s j))
    (hF : Fr w1 w3 (ob v)) (hg : g ∈ ob v ∨ w1.heap.size ≤ g) (hlt : g < w3.heap.size) (hjbw : jb < w1.heap.size) : ∃ v', Hof w (w3.setCell ⟨jb, 0, none⟩ (.slice (some ⟨g, 0, none⟩) (n + 1) cap)) jb hb m c n s j jf v Sh cw id l v' := by
  have hsz := hmo.size
  simp only [List.nodup_cons, List.mem_cons, not_or] at hnd
  have hbv : hb ∉ ob v := fun h => hv _ h (by simp)
  have hjv : jb ∉ ob v := fun h => hv _ h (by simp)
  have hob : ob (.slice (some ⟨g, 0, none⟩) (n + 1) cap) = [g] := rfl
  have hF' : Fr w1 (w3.setCell ⟨jb, 0, none⟩ (.slice (some ⟨g, 0, none⟩) (n + 1) cap)) (jb :: ob v) := (hF.mono (fun x hx => List.mem_cons_of_mem _ hx)).set (by simp) _ _
  refine ⟨.slice (some ⟨g, 0, none⟩) (n + 1) cap, hR.set 0 _, hset.of_block (hF'.block hb hset.lt (by simp only [List.mem_cons, not_or]; exact ⟨fun e => hnd.2.1.1 e.symm, hbv⟩)), ?_, ?_, ?_⟩
  · have e : hdsL cw id s (l ++ [j]) = hdsL cw id s l ++ hdL cw id s j := by simp [hdsL]
    rw [e]
    refine own_of_block hown fun g' hg' => Below.heap_setCell _ _ _ _ ?_
    rw [hob] at hg'
    simp at hg'
    subst hg'
    show g' ≠ jb
    intro e2
    subst e2
    rcases hg with h | h
    · exact hjv h
    · have := hR.lt
      exact absurd h (by have := hjbw; omega)
  · exact ((Fr.of_map hmo (by simp)).trans (hF'.mono (fun x hx => by
      rcases List.mem_cons.1 hx with rfl | h
      · simp
      · exact List.mem_cons_of_mem _ (List.mem_cons_of_mem _ h))))
  · intro g' hg'
    rw [hob] at hg'
    simp at hg'
    subst hg'
    rw [← hsz]
    exact hg

theorem hearOf_old {w : World} {jb nb hb m c : Nat} {jf : Nat → Value} {Sh : Int → Bool} {j : Nat} (hj : j < 300) (hjr : w.rowIs jb 47 267 jf) (j1 : jf 1 = .map (some hb)) (hset : SetAt w hb m Sh c) (hSh : Sh (j : Int) = true) :
    Calls Ybaz.prog 14 #[.pointer (some ⟨jb, 0, none⟩), .pointer (some ⟨nb, 0, none⟩), .int .i64 (j : Int)] w fun e w' => e = .returned (.bool false) ∧ w' = w := by
  have c1 : w.cell? ⟨jb, 1, none⟩ = some (.map (some hb)) := (hjr.cell (by omega)).trans (by rw [j1])
  have hlk := hset.look (j := (j : Int)) (iwf (by omega) (by omega))
  rw [hSh] at hlk
  go_enter Ybaz.func14, Ybaz.ntmps14
  go_wp2_with fail
  go_ret
  exact ⟨rfl, rfl⟩

set_option maxHeartbeats 4000000 in
set_option maxRecDepth 20000 in
theorem hearOf_new {w : World} {jb nb hb ib cb vb N s m c n : Nat} {jf : Nat → Value} {v : Value} {Sh : Int → Bool} {id cw : Nat → Nat} {T : Nat → Int} {C : Nat → Nat} {ed : Int} {r : Nat → Value} {l : List Nat} {j : Nat} (hNet : Net w ib cb vb N id cw) (hid : ∀ i, id i < 18446744073709551616) (hN : N ≤ 300) (hs : s < N)
    (hNode : NodeIs w nb ib vb N s T C ed r) (hj : j < N) (hjr : w.rowIs jb 47 267 jf) (j0 : jf 0 = v) (j1 : jf 1 = .map (some hb)) (hset : SetAt w hb m Sh c) (hSh : Sh (j : Int) = false) (hm : m ≤ 5000) (hown : w.ownsRow 0 65 3 v n (hdsL cw id s l)) (hn : n ≤ 5000)
    (hnd : [nb, jb, hb, ib, cb, vb].Nodup) (hv : ∀ g ∈ ob v, g ∉ [nb, jb, hb, ib, cb, vb]) :
    Calls Ybaz.prog 14 #[.pointer (some ⟨jb, 0, none⟩), .pointer (some ⟨nb, 0, none⟩), .int .i64 (j : Int)] w fun e w' => e = .returned (.bool true) ∧ ∃ v', Hof w w' jb hb m c n s j jf v Sh cw id l v' := by
  have q1 : w.cell? ⟨jb, 1, none⟩ = some (.map (some hb)) := (hjr.cell (by omega)).trans (by rw [j1])
  have wj : (Lit.int .i64 (j : Int)).wf = true := iwf (by omega) (by omega)
  have hlk := hset.look (j := (j : Int)) wj
  rw [hSh] at hlk
  obtain ⟨w1, hput, hset1, hmo⟩ := hset.put (j := (j : Int)) wj (by have : maxLen = 9223372036854775807 := rfl; omega)
  rw [hSh] at hset1
  obtain ⟨i5, hi5, hz5, hsz5, hby5⟩ := inf65
  have hnd' := hnd
  simp only [List.nodup_cons, List.mem_cons, not_or] at hnd'
  have hjv : jb ∉ ob v := fun h => hv _ h (by simp)
  have hnv : nb ∉ ob v := fun h => hv _ h (by simp)
  have hN1 : Hid (Net w1 ib cb vb N id cw) := hNet.of_blocks (hmo.block (Ne.symm hnd'.2.2.1.1)) (hmo.block (Ne.symm hnd'.2.2.1.2.1)) (hmo.block (Ne.symm hnd'.2.2.1.2.2.1))
  have HN1 := hN1
  have hnn := hNode.row.of_block (hmo.block (k := nb) hnd'.1.2.1)
  have n0 : w1.cell? ⟨nb, 0, none⟩ = some (.int .i64 (s : Int)) := (hnn.cell (by omega)).trans (by simp [ndF, hNode.r0])
  have n1 : w1.cell? ⟨nb, 1, none⟩ = some (.slice (some ⟨ib, 0, none⟩) N N) := (hnn.cell (by omega)).trans (by simp [ndF, hNode.r1])
  have n2 : w1.cell? ⟨nb, 2, none⟩ = some (.func (.func 11) #[] #[.pointer (some ⟨vb, 0, none⟩)]) := (hnn.cell (by omega)).trans (by simp [ndF, hNode.r2])
  have HR1 : Hid (w1.rowIs jb 47 267 jf) := hjr.of_block (hmo.block (k := jb) hnd'.2.1.1)
  have c0 : w1.cell? ⟨jb, 0, none⟩ = some v := ((unhide HR1).cell (by omega)).trans (by rw [j0])
  have HO1 : Hid (w1.ownsRow 0 65 3 v n (hdsL cw id s l)) := own_of_block hown fun g hg => hmo.block (fun e => hv g hg (by simp [e]))
  have KS : Hid (∀ w', Fr w1 w' (jb :: ob v) → w'.cell? ⟨nb, 2, none⟩ = some (.func (.func 11) #[] #[.pointer (some ⟨vb, 0, none⟩)])) := fun w' hF => hF.cell n2 (by simp only [List.mem_cons, not_or]; exact ⟨hnd'.1.1, hnv⟩)
  have HMO := hide hmo
  have HSet1 := hide hset1
  clear hNet hNode hjr hset hown hN1 hnn hmo hset1 hnd' hSh
  go_enter Ybaz.func14, Ybaz.ntmps14
  go_upto_region 4 with fail
  refine wp_region_held_drew (S := fun w' => w'.cell? ⟨nb, 2, none⟩ = some (.func (.func 11) #[] #[.pointer (some ⟨vb, 0, none⟩)])) (by kernel_rfl) (unhide KS _ (.of_same ((Same.refl _).drew))) (fun hHeld => ?_)
  refine wpAnyH_take (i := 0) (oi := { dst := some 18, op := Op.move (Operand.tmp 0), type := 90, pos := "node.go:347", after := _, guard := none }) (v := ?_) rfl (by kernel_rfl) (by kernel_rfl) (by kernel_rfl) (fun _ _ _ h => h) (Or.inl ⟨by rfl, ?_⟩) (by assumption) ?_
  rotate_left 1
  · (intro w hSw; (try dsimp only at hSw); go_simp <;> with_reducible rfl)
  try simp only [Act.put, List.setIfInBounds_toArray, List.set_cons_zero, List.set_cons_succ]
  refine wpAnyH_take (i := 1) (oi := { dst := some 19, op := Op.move (Operand.tmp 0), type := 90, pos := "node.go:347", after := _, guard := none }) (v := ?_) rfl (by kernel_rfl) (by kernel_rfl) (by kernel_rfl) (fun _ _ _ h => h) (Or.inl ⟨by rfl, ?_⟩) (by assumption) ?_
  rotate_left 1
  · (intro w hSw; (try dsimp only at hSw); go_simp <;> with_reducible rfl)
  try simp only [Act.put, List.setIfInBounds_toArray, List.set_cons_zero, List.set_cons_succ]
  refine wpAnyH_take (i := 2) (oi := { dst := some 20, op := Op.nilCheck (Operand.tmp 19), type := 0, pos := "node.go:347", after := _, guard := none }) (v := ?_) rfl (by kernel_rfl) (by kernel_rfl) (by kernel_rfl) (fun _ _ _ h => h) (Or.inl ⟨by rfl, ?_⟩) (by assumption) ?_
  rotate_left 1
  · (intro w hSw; (try dsimp only at hSw); go_simp <;> with_reducible rfl)
  try simp only [Act.put, List.setIfInBounds_toArray, List.set_cons_zero, List.set_cons_succ]
  refine wpAnyH_take (i := 3) (oi := { dst := some 21, op := Op.fieldAddr 43 (Operand.tmp 20) 0, type := 0, pos := "node.go:347", after := _, guard := none }) (v := ?_) rfl (by kernel_rfl) (by kernel_rfl) (by kernel_rfl) (fun _ _ _ h => h) (Or.inl ⟨by rfl, ?_⟩) (by assumption) ?_
  rotate_left 1
  · (intro w hSw; (try dsimp only at hSw); go_simp <;> with_reducible rfl)
  try simp only [Act.put, List.setIfInBounds_toArray, List.set_cons_zero, List.set_cons_succ]
  refine wpAnyH_take (i := 5) (oi := { dst := some 23, op := Op.move (Operand.tmp 2), type := 3, pos := "node.go:347", after := _, guard := none }) (v := ?_) rfl (by kernel_rfl) (by kernel_rfl) (by kernel_rfl) (fun _ _ _ h => h) (Or.inl ⟨by rfl, ?_⟩) (by assumption) ?_
  rotate_left 1
  · (intro w hSw; (try dsimp only at hSw); go_simp <;> with_reducible rfl)
  try simp only [Act.put, List.setIfInBounds_toArray, List.set_cons_zero, List.set_cons_succ]
  refine wpAnyH_take (i := 6) (oi := { dst := some 24, op := Op.move (Operand.tmp 1), type := 26, pos := "node.go:347", after := _, guard := none }) (v := ?_) rfl (by kernel_rfl) (by kernel_rfl) (by kernel_rfl) (fun _ _ _ h => h) (Or.inl ⟨by rfl, ?_⟩) (by assumption) ?_
  rotate_left 1
  · (intro w hSw; (try dsimp only at hSw); go_simp <;> with_reducible rfl)
  try simp only [Act.put, List.setIfInBounds_toArray, List.set_cons_zero, List.set_cons_succ]
  refine wpAnyH_take (i := 7) (oi := { dst := some 25, op := Op.nilCheck (Operand.tmp 24), type := 0, pos := "node.go:347", after := _, guard := none }) (v := ?_) rfl (by kernel_rfl) (by kernel_rfl) (by kernel_rfl) (fun _ _ _ h => h) (Or.inl ⟨by rfl, ?_⟩) (by assumption) ?_
  rotate_left 1
  · (intro w hSw; (try dsimp only at hSw); go_simp <;> with_reducible rfl)
  try simp only [Act.put, List.setIfInBounds_toArray, List.set_cons_zero, List.set_cons_succ]
  refine wpAnyH_take (i := 8) (oi := { dst := some 26, op := Op.fieldAddr 63 (Operand.tmp 25) 2, type := 0, pos := "node.go:347", after := _, guard := none }) (v := ?_) rfl (by kernel_rfl) (by kernel_rfl) (by kernel_rfl) (fun _ _ _ h => h) (Or.inl ⟨by rfl, ?_⟩) (by assumption) ?_
  rotate_left 1
  · (intro w hSw; (try dsimp only at hSw); go_simp <;> with_reducible rfl)
  try simp only [Act.put, List.setIfInBounds_toArray, List.set_cons_zero, List.set_cons_succ]
  refine wpAnyH_take (i := 9) (oi := { dst := some 27, op := Op.load 50 (Operand.tmp 26), type := 50, pos := "node.go:347", after := _, guard := none }) (v := ?_) rfl (by kernel_rfl) (by kernel_rfl) (by kernel_rfl) (fun _ _ _ h => h) (Or.inl ⟨by rfl, ?_⟩) (by assumption) ?_
  rotate_left 1
  · (intro w hSw; (try dsimp only at hSw); go_simp <;> with_reducible rfl)
  try simp only [Act.put, List.setIfInBounds_toArray, List.set_cons_zero, List.set_cons_succ]
  refine wpAnyH_take (i := 10) (oi := { dst := some 28, op := Op.move (Operand.tmp 2), type := 3, pos := "node.go:347", after := _, guard := none }) (v := ?_) rfl (by kernel_rfl) (by kernel_rfl) (by kernel_rfl) (fun _ _ _ h => h) (Or.inl ⟨by rfl, ?_⟩) (by assumption) ?_
  rotate_left 1
  · (intro w hSw; (try dsimp only at hSw); go_simp <;> with_reducible rfl)
  try simp only [Act.put, List.setIfInBounds_toArray, List.set_cons_zero, List.set_cons_succ]
  refine wpAnyH_take (i := 12) (oi := { dst := some 30, op := Op.move (Operand.tmp 1), type := 26, pos := "node.go:347", after := _, guard := none }) (v := ?_) rfl (by kernel_rfl) (by kernel_rfl) (by kernel_rfl) (fun _ _ _ h => h) (Or.inl ⟨by rfl, ?_⟩) (by assumption) ?_
  rotate_left 1
  · (intro w hSw; (try dsimp only at hSw); go_simp <;> with_reducible rfl)
  try simp only [Act.put, List.setIfInBounds_toArray, List.set_cons_zero, List.set_cons_succ]
  refine wpAnyH_take (i := 13) (oi := { dst := some 31, op := Op.move (Operand.tmp 2), type := 3, pos := "node.go:347", after := _, guard := none }) (v := ?_) rfl (by kernel_rfl) (by kernel_rfl) (by kernel_rfl) (fun _ _ _ h => h) (Or.inl ⟨by rfl, ?_⟩) (by assumption) ?_
  rotate_left 1
  · (intro w hSw; (try dsimp only at hSw); go_simp <;> with_reducible rfl)
  try simp only [Act.put, List.setIfInBounds_toArray, List.set_cons_zero, List.set_cons_succ]
  refine wpAnyH_ready (rs := [4, 11]) (by kernel_rfl) (by simp) ?_
  refine AllReadyH.cons (o := { dst := some 22, op := Op.load 40 (Operand.tmp 21), type := 40, pos := "node.go:347", after := _, guard := none }) rfl (fun K hK => ?_) (AllReadyH.cons (o := { dst := some 29, op := Op.call { callee := Callee.value (Operand.tmp 27), args := #[Operand.tmp 28], argTypes := #[3] }, type := 51, pos := "node.go:347", after := _, guard := none }) rfl (fun K hK => ?_) AllReadyH.nil)
  · have cL : (w1.drew).cell? ⟨jb, 0, none⟩ = some v := ((((Same.refl w1).drew)).cell _).trans c0
    go_simp
    refine hK.out _ _ (unhide KS _ (.of_same ((Same.refl w1).drew))) (fun hHeld => ?_)
    clear hK K
    try simp only [Act.put, List.setIfInBounds_toArray, List.set_cons_zero, List.set_cons_succ]
    refine wpAnyH_ready (rs := [11]) (by kernel_rfl) (by simp) ?_
    refine AllReadyH.cons (o := { dst := some 29, op := Op.call { callee := Callee.value (Operand.tmp 27), args := #[Operand.tmp 28], argTypes := #[3] }, type := 51, pos := "node.go:347", after := _, guard := none }) rfl (fun K hK => ?_) AllReadyH.nil
    go_simp
    refine (cost_any (w := w1.drew) ((unhide HN1).same ((Same.refl w1).drew)) j hj hN).mono ?_
    rintro e wz ⟨rfl, rfl⟩
    try (go_wp2_with fail)
    refine hK.out _ _ (unhide KS _ (.of_same ((Same.refl w1).drew))) (fun hHeld => ?_)
    clear hK K
    try simp only [Act.put, List.setIfInBounds_toArray, List.set_cons_zero, List.set_cons_succ]
    refine wpAnyH_ready (rs := [14]) (by kernel_rfl) (by simp) ?_
    refine AllReadyH.cons (o := { dst := some 32, op := Op.call { callee := Callee.value (Operand.func 22), args := #[Operand.tmp 30, Operand.tmp 31], argTypes := #[26, 3] }, type := 3, pos := "node.go:347", after := _, guard := none }) rfl (fun K hK => ?_) AllReadyH.nil
    go_simp
    refine (nshared_any (w := w1.drew) ((unhide HN1).same ((Same.refl w1).drew)) hid hN (((((Same.refl w1).drew)).cell _).trans n0) (((((Same.refl w1).drew)).cell _).trans n1) hs j hj).mono ?_
    rintro e w2 ⟨rfl, hS2'⟩
    have hS2 : Same w1 w2 := (((Same.refl w1).drew)).trans hS2'
    clear hS2'
    try (go_wp2_with fail)
    refine hK.out _ _ (unhide KS _ (.of_same hS2)) (fun hHeld => ?_)
    clear hK K
    try simp only [Act.put, List.setIfInBounds_toArray, List.set_cons_zero, List.set_cons_succ]
    refine wpAnyH_take (i := 15) (oi := { dst := some 33, op := Op.build 65 #[(0, Operand.tmp 23), (1, Operand.tmp 29), (2, Operand.tmp 32)], type := 65, pos := "node.go:347", after := _, guard := none }) rfl (by kernel_rfl) (by kernel_rfl) (by kernel_rfl) (fun _ _ _ h => h) (yields_build3 (by rfl) 65 0 1 2 (Operand.tmp 23) (Operand.tmp 29) (Operand.tmp 32) rfl (.int .i64 (j : Int)) (.float .f64 (cw j)) (.int .i64 ((shD (id s) (id j) : Nat) : Int)) rfl rfl rfl #[.int .i64 (j : Int), .float .f64 (cw j), .int .i64 ((shD (id s) (id j) : Nat) : Int)] (build65 (j : Int) (cw j) ((shD (id s) (id j) : Nat) : Int))) (by assumption) ?_
    try simp only [Act.put, List.setIfInBounds_toArray, List.set_cons_zero, List.set_cons_succ]
    refine wpAnyH_ready (rs := [16]) (by kernel_rfl) (by simp) ?_
    refine AllReadyH.cons (o := { dst := some 34, op := Op.buildSlice 40 1 #[(0, Operand.tmp 33)], type := 40, pos := "node.go:347", after := _, guard := none }) rfl (fun K hK => ?_) AllReadyH.nil
    go_simp
    refine hK.out _ _ (unhide KS _ ((Fr.of_same hS2).alloc _)) (fun hHeld => ?_)
    clear hK K
    try simp only [Act.put, List.setIfInBounds_toArray, List.set_cons_zero, List.set_cons_succ]
    refine wpAnyH_ready (rs := [17]) (by kernel_rfl) (by simp) ?_
    refine AllReadyH.cons (o := { dst := some 35, op := Op.call { callee := Callee.builtin Builtin.append, args := #[Operand.tmp 22, Operand.tmp 34], argTypes := #[40, 40] }, type := 40, pos := "node.go:347", after := _, guard := none }) rfl (fun K hK => ?_) AllReadyH.nil
    rw [if_pos (by rfl)]
    refine wp_append_lies _ _ _ _ rfl 0 65 i5 _ 3 24 Ybaz.underlying40 hi5 hz5 hsz5 hby5 rfl (by omega) v n (hdsL cw id s l) rfl (own_fr (unhide HO1) ((Fr.of_same (S := []) hS2).alloc _) (by simp)) ⟨w2.heap.size, 0, none⟩ 1 1 (hdL cw id s j) rfl rfl ?_ ?_ (by omega) (by have : maxLen = 9223372036854775807 := rfl; omega) (by omega) (Nat.zero_le _) (w2.heap.size + 1) (by simp) ?_
    · intro i u hi
      have := rangeAt_new w2 #[.int .i64 (j : Int), .float .f64 (cw j), .int .i64 ((shD (id s) (id j) : Nat) : Int)] 65 _ rfl i u hi
      rw [Nat.zero_add] at this
      rw [Addr.add_mid, Nat.zero_add]
      exact this
    · intro u hu
      simp [hdL] at hu
      rcases hu with rfl | rfl | rfl <;> rfl
    intro g cap w3 hown3 hgrow3 hat3 hlt3
    try simp only [Act.put, List.setIfInBounds_toArray, List.set_cons_zero, List.set_cons_succ]
    have hsz : w2.heap.size = w1.heap.size := by rw [(hS2).heap]
    have hF3 : Fr w1 w3 (ob v) := ((Fr.of_same hS2).alloc _).trans (.of_grown hgrow3)
    have hg3 : g ∈ ob v ∨ w1.heap.size ≤ g := by
      rcases hat3 with h | h
      · left; simp [ob, h]
      · right; rw [h, hsz]; omega
    refine hK.out _ _ (unhide KS _ (hF3.mono (fun x hx => List.mem_cons_of_mem _ hx))) (fun hHeld => ?_)
    clear hK K
    try simp only [Act.put, List.setIfInBounds_toArray, List.set_cons_zero, List.set_cons_succ]
    have d0 : w3.cell? ⟨jb, 0, none⟩ = some v := hF3.cell c0 hjv
    have hR3 : w3.rowIs jb 47 267 jf := (unhide HR1).of_block (hF3.block jb (unhide HR1).lt hjv)
    have z0 := hR3.frozen 0
    have Hown3 := hide hown3
    have HF3 := hide hF3
    have HR3 := hide hR3
    clear hown3 hgrow3 hat3 hF3 hR3
    refine wpAnyH_take (i := 18) (oi := { dst := some 36, op := Op.nilCheck (Operand.tmp 18), type := 0, pos := "node.go:347", after := _, guard := none }) (v := ?_) rfl (by kernel_rfl) (by kernel_rfl) (by kernel_rfl) (fun _ _ _ h => h) (Or.inl ⟨by rfl, ?_⟩) (by assumption) ?_
    rotate_left 1
    · (intro w hSw; (try dsimp only at hSw); go_simp <;> with_reducible rfl)
    try simp only [Act.put, List.setIfInBounds_toArray, List.set_cons_zero, List.set_cons_succ]
    refine wpAnyH_take (i := 19) (oi := { dst := some 37, op := Op.fieldAddr 43 (Operand.tmp 36) 0, type := 0, pos := "node.go:347", after := _, guard := none }) (v := ?_) rfl (by kernel_rfl) (by kernel_rfl) (by kernel_rfl) (fun _ _ _ h => h) (Or.inl ⟨by rfl, ?_⟩) (by assumption) ?_
    rotate_left 1
    · (intro w hSw; (try dsimp only at hSw); go_simp <;> with_reducible rfl)
    try simp only [Act.put, List.setIfInBounds_toArray, List.set_cons_zero, List.set_cons_succ]
    refine wpAnyH_ready (rs := [20]) (by kernel_rfl) (by simp) ?_
    refine AllReadyH.cons (o := { dst := none, op := Op.store 40 (Operand.tmp 37) (Operand.tmp 35), type := 0, pos := "node.go:347", after := _, guard := none }) rfl (fun K hK => ?_) AllReadyH.nil
    go_simp
    refine hK.out _ _ (unhide KS _ (((unhide HF3).mono (fun x hx => List.mem_cons_of_mem _ hx)).set (by simp) _ _)) (fun hHeld => ?_)
    clear hK K
    try simp only [Act.put, List.setIfInBounds_toArray, List.set_cons_zero, List.set_cons_succ]
    refine wpAnyH_done (by kernel_rfl) ?_ _
    go_wp2_with fail
    go_ret
    exact ⟨rfl, hofFin hnd hv (unhide HMO) (unhide HSet1) (unhide HR3) (unhide Hown3) (unhide HF3) hg3 hlt3 (unhide HR1).lt⟩
  · go_simp
    refine (cost_any (w := w1.drew) ((unhide HN1).same ((Same.refl w1).drew)) j hj hN).mono ?_
    rintro e wz ⟨rfl, rfl⟩
    try (go_wp2_with fail)
    refine hK.out _ _ (unhide KS _ (.of_same ((Same.refl w1).drew))) (fun hHeld => ?_)
    clear hK K
    try simp only [Act.put, List.setIfInBounds_toArray, List.set_cons_zero, List.set_cons_succ]
    refine wpAnyH_ready (rs := [4, 14]) (by kernel_rfl) (by simp) ?_
    refine AllReadyH.cons (o := { dst := some 22, op := Op.load 40 (Operand.tmp 21), type := 40, pos := "node.go:347", after := _, guard := none }) rfl (fun K hK => ?_) (AllReadyH.cons (o := { dst := some 32, op := Op.call { callee := Callee.value (Operand.func 22), args := #[Operand.tmp 30, Operand.tmp 31], argTypes := #[26, 3] }, type := 3, pos := "node.go:347", after := _, guard := none }) rfl (fun K hK => ?_) AllReadyH.nil)
    · have cL : (w1.drew).cell? ⟨jb, 0, none⟩ = some v := ((((Same.refl w1).drew)).cell _).trans c0
      go_simp
      refine hK.out _ _ (unhide KS _ (.of_same ((Same.refl w1).drew))) (fun hHeld => ?_)
      clear hK K
      try simp only [Act.put, List.setIfInBounds_toArray, List.set_cons_zero, List.set_cons_succ]
      refine wpAnyH_ready (rs := [14]) (by kernel_rfl) (by simp) ?_
      refine AllReadyH.cons (o := { dst := some 32, op := Op.call { callee := Callee.value (Operand.func 22), args := #[Operand.tmp 30, Operand.tmp 31], argTypes := #[26, 3] }, type := 3, pos := "node.go:347", after := _, guard := none }) rfl (fun K hK => ?_) AllReadyH.nil
      go_simp
      refine (nshared_any (w := w1.drew) ((unhide HN1).same ((Same.refl w1).drew)) hid hN (((((Same.refl w1).drew)).cell _).trans n0) (((((Same.refl w1).drew)).cell _).trans n1) hs j hj).mono ?_
      rintro e w2 ⟨rfl, hS2'⟩
      have hS2 : Same w1 w2 := (((Same.refl w1).drew)).trans hS2'
      clear hS2'
      try (go_wp2_with fail)
      refine hK.out _ _ (unhide KS _ (.of_same hS2)) (fun hHeld => ?_)
      clear hK K
      try simp only [Act.put, List.setIfInBounds_toArray, List.set_cons_zero, List.set_cons_succ]
      refine wpAnyH_take (i := 15) (oi := { dst := some 33, op := Op.build 65 #[(0, Operand.tmp 23), (1, Operand.tmp 29), (2, Operand.tmp 32)], type := 65, pos := "node.go:347", after := _, guard := none }) rfl (by kernel_rfl) (by kernel_rfl) (by kernel_rfl) (fun _ _ _ h => h) (yields_build3 (by rfl) 65 0 1 2 (Operand.tmp 23) (Operand.tmp 29) (Operand.tmp 32) rfl (.int .i64 (j : Int)) (.float .f64 (cw j)) (.int .i64 ((shD (id s) (id j) : Nat) : Int)) rfl rfl rfl #[.int .i64 (j : Int), .float .f64 (cw j), .int .i64 ((shD (id s) (id j) : Nat) : Int)] (build65 (j : Int) (cw j) ((shD (id s) (id j) : Nat) : Int))) (by assumption) ?_
      try simp only [Act.put, List.setIfInBounds_toArray, List.set_cons_zero, List.set_cons_succ]
      refine wpAnyH_ready (rs := [16]) (by kernel_rfl) (by simp) ?_
      refine AllReadyH.cons (o := { dst := some 34, op := Op.buildSlice 40 1 #[(0, Operand.tmp 33)], type := 40, pos := "node.go:347", after := _, guard := none }) rfl (fun K hK => ?_) AllReadyH.nil
      go_simp
      refine hK.out _ _ (unhide KS _ ((Fr.of_same hS2).alloc _)) (fun hHeld => ?_)
      clear hK K
      try simp only [Act.put, List.setIfInBounds_toArray, List.set_cons_zero, List.set_cons_succ]
      refine wpAnyH_ready (rs := [17]) (by kernel_rfl) (by simp) ?_
      refine AllReadyH.cons (o := { dst := some 35, op := Op.call { callee := Callee.builtin Builtin.append, args := #[Operand.tmp 22, Operand.tmp 34], argTypes := #[40, 40] }, type := 40, pos := "node.go:347", after := _, guard := none }) rfl (fun K hK => ?_) AllReadyH.nil
      rw [if_pos (by rfl)]
      refine wp_append_lies _ _ _ _ rfl 0 65 i5 _ 3 24 Ybaz.underlying40 hi5 hz5 hsz5 hby5 rfl (by omega) v n (hdsL cw id s l) rfl (own_fr (unhide HO1) ((Fr.of_same (S := []) hS2).alloc _) (by simp)) ⟨w2.heap.size, 0, none⟩ 1 1 (hdL cw id s j) rfl rfl ?_ ?_ (by omega) (by have : maxLen = 9223372036854775807 := rfl; omega) (by omega) (Nat.zero_le _) (w2.heap.size + 1) (by simp) ?_
      · intro i u hi
        have := rangeAt_new w2 #[.int .i64 (j : Int), .float .f64 (cw j), .int .i64 ((shD (id s) (id j) : Nat) : Int)] 65 _ rfl i u hi
        rw [Nat.zero_add] at this
        rw [Addr.add_mid, Nat.zero_add]
        exact this
      · intro u hu
        simp [hdL] at hu
        rcases hu with rfl | rfl | rfl <;> rfl
      intro g cap w3 hown3 hgrow3 hat3 hlt3
      try simp only [Act.put, List.setIfInBounds_toArray, List.set_cons_zero, List.set_cons_succ]
      have hsz : w2.heap.size = w1.heap.size := by rw [(hS2).heap]
      have hF3 : Fr w1 w3 (ob v) := ((Fr.of_same hS2).alloc _).trans (.of_grown hgrow3)
      have hg3 : g ∈ ob v ∨ w1.heap.size ≤ g := by
        rcases hat3 with h | h
        · left; simp [ob, h]
        · right; rw [h, hsz]; omega
      refine hK.out _ _ (unhide KS _ (hF3.mono (fun x hx => List.mem_cons_of_mem _ hx))) (fun hHeld => ?_)
      clear hK K
      try simp only [Act.put, List.setIfInBounds_toArray, List.set_cons_zero, List.set_cons_succ]
      have d0 : w3.cell? ⟨jb, 0, none⟩ = some v := hF3.cell c0 hjv
      have hR3 : w3.rowIs jb 47 267 jf := (unhide HR1).of_block (hF3.block jb (unhide HR1).lt hjv)
      have z0 := hR3.frozen 0
      have Hown3 := hide hown3
      have HF3 := hide hF3
      have HR3 := hide hR3
      clear hown3 hgrow3 hat3 hF3 hR3
      refine wpAnyH_take (i := 18) (oi := { dst := some 36, op := Op.nilCheck (Operand.tmp 18), type := 0, pos := "node.go:347", after := _, guard := none }) (v := ?_) rfl (by kernel_rfl) (by kernel_rfl) (by kernel_rfl) (fun _ _ _ h => h) (Or.inl ⟨by rfl, ?_⟩) (by assumption) ?_
      rotate_left 1
      · (intro w hSw; (try dsimp only at hSw); go_simp <;> with_reducible rfl)
      try simp only [Act.put, List.setIfInBounds_toArray, List.set_cons_zero, List.set_cons_succ]
      refine wpAnyH_take (i := 19) (oi := { dst := some 37, op := Op.fieldAddr 43 (Operand.tmp 36) 0, type := 0, pos := "node.go:347", after := _, guard := none }) (v := ?_) rfl (by kernel_rfl) (by kernel_rfl) (by kernel_rfl) (fun _ _ _ h => h) (Or.inl ⟨by rfl, ?_⟩) (by assumption) ?_
      rotate_left 1
      · (intro w hSw; (try dsimp only at hSw); go_simp <;> with_reducible rfl)
      try simp only [Act.put, List.setIfInBounds_toArray, List.set_cons_zero, List.set_cons_succ]
      refine wpAnyH_ready (rs := [20]) (by kernel_rfl) (by simp) ?_
      refine AllReadyH.cons (o := { dst := none, op := Op.store 40 (Operand.tmp 37) (Operand.tmp 35), type := 0, pos := "node.go:347", after := _, guard := none }) rfl (fun K hK => ?_) AllReadyH.nil
      go_simp
      refine hK.out _ _ (unhide KS _ (((unhide HF3).mono (fun x hx => List.mem_cons_of_mem _ hx)).set (by simp) _ _)) (fun hHeld => ?_)
      clear hK K
      try simp only [Act.put, List.setIfInBounds_toArray, List.set_cons_zero, List.set_cons_succ]
      refine wpAnyH_done (by kernel_rfl) ?_ _
      go_wp2_with fail
      go_ret
      exact ⟨rfl, hofFin hnd hv (unhide HMO) (unhide HSet1) (unhide HR3) (unhide Hown3) (unhide HF3) hg3 hlt3 (unhide HR1).lt⟩
    · go_simp
      refine (nshared_any (w := w1.drew) ((unhide HN1).same ((Same.refl w1).drew)) hid hN (((((Same.refl w1).drew)).cell _).trans n0) (((((Same.refl w1).drew)).cell _).trans n1) hs j hj).mono ?_
      rintro e w2 ⟨rfl, hS2'⟩
      have hS2 : Same w1 w2 := (((Same.refl w1).drew)).trans hS2'
      clear hS2'
      try (go_wp2_with fail)
      refine hK.out _ _ (unhide KS _ (.of_same hS2)) (fun hHeld => ?_)
      clear hK K
      try simp only [Act.put, List.setIfInBounds_toArray, List.set_cons_zero, List.set_cons_succ]
      refine wpAnyH_take (i := 15) (oi := { dst := some 33, op := Op.build 65 #[(0, Operand.tmp 23), (1, Operand.tmp 29), (2, Operand.tmp 32)], type := 65, pos := "node.go:347", after := _, guard := none }) rfl (by kernel_rfl) (by kernel_rfl) (by kernel_rfl) (fun _ _ _ h => h) (yields_build3 (by rfl) 65 0 1 2 (Operand.tmp 23) (Operand.tmp 29) (Operand.tmp 32) rfl (.int .i64 (j : Int)) (.float .f64 (cw j)) (.int .i64 ((shD (id s) (id j) : Nat) : Int)) rfl rfl rfl #[.int .i64 (j : Int), .float .f64 (cw j), .int .i64 ((shD (id s) (id j) : Nat) : Int)] (build65 (j : Int) (cw j) ((shD (id s) (id j) : Nat) : Int))) (by assumption) ?_
      try simp only [Act.put, List.setIfInBounds_toArray, List.set_cons_zero, List.set_cons_succ]
      refine wpAnyH_ready (rs := [4, 16]) (by kernel_rfl) (by simp) ?_
      refine AllReadyH.cons (o := { dst := some 22, op := Op.load 40 (Operand.tmp 21), type := 40, pos := "node.go:347", after := _, guard := none }) rfl (fun K hK => ?_) (AllReadyH.cons (o := { dst := some 34, op := Op.buildSlice 40 1 #[(0, Operand.tmp 33)], type := 40, pos := "node.go:347", after := _, guard := none }) rfl (fun K hK => ?_) AllReadyH.nil)
      · have cL : (w2).cell? ⟨jb, 0, none⟩ = some v := ((hS2).cell _).trans c0
        go_simp
        refine hK.out _ _ (unhide KS _ (.of_same hS2)) (fun hHeld => ?_)
        clear hK K
        try simp only [Act.put, List.setIfInBounds_toArray, List.set_cons_zero, List.set_cons_succ]
        refine wpAnyH_ready (rs := [16]) (by kernel_rfl) (by simp) ?_
        refine AllReadyH.cons (o := { dst := some 34, op := Op.buildSlice 40 1 #[(0, Operand.tmp 33)], type := 40, pos := "node.go:347", after := _, guard := none }) rfl (fun K hK => ?_) AllReadyH.nil
        go_simp
        refine hK.out _ _ (unhide KS _ ((Fr.of_same hS2).alloc _)) (fun hHeld => ?_)
        clear hK K
        try simp only [Act.put, List.setIfInBounds_toArray, List.set_cons_zero, List.set_cons_succ]
        refine wpAnyH_ready (rs := [17]) (by kernel_rfl) (by simp) ?_
        refine AllReadyH.cons (o := { dst := some 35, op := Op.call { callee := Callee.builtin Builtin.append, args := #[Operand.tmp 22, Operand.tmp 34], argTypes := #[40, 40] }, type := 40, pos := "node.go:347", after := _, guard := none }) rfl (fun K hK => ?_) AllReadyH.nil
        rw [if_pos (by rfl)]
        refine wp_append_lies _ _ _ _ rfl 0 65 i5 _ 3 24 Ybaz.underlying40 hi5 hz5 hsz5 hby5 rfl (by omega) v n (hdsL cw id s l) rfl (own_fr (unhide HO1) ((Fr.of_same (S := []) hS2).alloc _) (by simp)) ⟨w2.heap.size, 0, none⟩ 1 1 (hdL cw id s j) rfl rfl ?_ ?_ (by omega) (by have : maxLen = 9223372036854775807 := rfl; omega) (by omega) (Nat.zero_le _) (w2.heap.size + 1) (by simp) ?_
        · intro i u hi
          have := rangeAt_new w2 #[.int .i64 (j : Int), .float .f64 (cw j), .int .i64 ((shD (id s) (id j) : Nat) : Int)] 65 _ rfl i u hi
          rw [Nat.zero_add] at this
          rw [Addr.add_mid, Nat.zero_add]
          exact this
        · intro u hu
          simp [hdL] at hu
          rcases hu with rfl | rfl | rfl <;> rfl
        intro g cap w3 hown3 hgrow3 hat3 hlt3
        try simp only [Act.put, List.setIfInBounds_toArray, List.set_cons_zero, List.set_cons_succ]
        have hsz : w2.heap.size = w1.heap.size := by rw [(hS2).heap]
        have hF3 : Fr w1 w3 (ob v) := ((Fr.of_same hS2).alloc _).trans (.of_grown hgrow3)
        have hg3 : g ∈ ob v ∨ w1.heap.size ≤ g := by
          rcases hat3 with h | h
          · left; simp [ob, h]
          · right; rw [h, hsz]; omega
        refine hK.out _ _ (unhide KS _ (hF3.mono (fun x hx => List.mem_cons_of_mem _ hx))) (fun hHeld => ?_)
        clear hK K
        try simp only [Act.put, List.setIfInBounds_toArray, List.set_cons_zero, List.set_cons_succ]
        have d0 : w3.cell? ⟨jb, 0, none⟩ = some v := hF3.cell c0 hjv
        have hR3 : w3.rowIs jb 47 267 jf := (unhide HR1).of_block (hF3.block jb (unhide HR1).lt hjv)
        have z0 := hR3.frozen 0
        have Hown3 := hide hown3
        have HF3 := hide hF3
        have HR3 := hide hR3
        clear hown3 hgrow3 hat3 hF3 hR3
        refine wpAnyH_take (i := 18) (oi := { dst := some 36, op := Op.nilCheck (Operand.tmp 18), type := 0, pos := "node.go:347", after := _, guard := none }) (v := ?_) rfl (by kernel_rfl) (by kernel_rfl) (by kernel_rfl) (fun _ _ _ h => h) (Or.inl ⟨by rfl, ?_⟩) (by assumption) ?_
        rotate_left 1
        · (intro w hSw; (try dsimp only at hSw); go_simp <;> with_reducible rfl)
        try simp only [Act.put, List.setIfInBounds_toArray, List.set_cons_zero, List.set_cons_succ]
        refine wpAnyH_take (i := 19) (oi := { dst := some 37, op := Op.fieldAddr 43 (Operand.tmp 36) 0, type := 0, pos := "node.go:347", after := _, guard := none }) (v := ?_) rfl (by kernel_rfl) (by kernel_rfl) (by kernel_rfl) (fun _ _ _ h => h) (Or.inl ⟨by rfl, ?_⟩) (by assumption) ?_
        rotate_left 1
        · (intro w hSw; (try dsimp only at hSw); go_simp <;> with_reducible rfl)
        try simp only [Act.put, List.setIfInBounds_toArray, List.set_cons_zero, List.set_cons_succ]
        refine wpAnyH_ready (rs := [20]) (by kernel_rfl) (by simp) ?_
        refine AllReadyH.cons (o := { dst := none, op := Op.store 40 (Operand.tmp 37) (Operand.tmp 35), type := 0, pos := "node.go:347", after := _, guard := none }) rfl (fun K hK => ?_) AllReadyH.nil
        go_simp
        refine hK.out _ _ (unhide KS _ (((unhide HF3).mono (fun x hx => List.mem_cons_of_mem _ hx)).set (by simp) _ _)) (fun hHeld => ?_)
        clear hK K
        try simp only [Act.put, List.setIfInBounds_toArray, List.set_cons_zero, List.set_cons_succ]
        refine wpAnyH_done (by kernel_rfl) ?_ _
        go_wp2_with fail
        go_ret
        exact ⟨rfl, hofFin hnd hv (unhide HMO) (unhide HSet1) (unhide HR3) (unhide Hown3) (unhide HF3) hg3 hlt3 (unhide HR1).lt⟩
      · go_simp
        refine hK.out _ _ (unhide KS _ ((Fr.of_same hS2).alloc _)) (fun hHeld => ?_)
        clear hK K
        try simp only [Act.put, List.setIfInBounds_toArray, List.set_cons_zero, List.set_cons_succ]
        refine wpAnyH_ready (rs := [4]) (by kernel_rfl) (by simp) ?_
        refine AllReadyH.cons (o := { dst := some 22, op := Op.load 40 (Operand.tmp 21), type := 40, pos := "node.go:347", after := _, guard := none }) rfl (fun K hK => ?_) AllReadyH.nil
        have cL : (w2.alloc (.cells #[.int .i64 (j : Int), .float .f64 (cw j), .int .i64 ((shD (id s) (id j) : Nat) : Int)] 65)).cell? ⟨jb, 0, none⟩ = some v := ((Fr.of_same (S := []) hS2).alloc _).cell c0 (by simp)
        go_simp
        refine hK.out _ _ (unhide KS _ ((Fr.of_same hS2).alloc _)) (fun hHeld => ?_)
        clear hK K
        try simp only [Act.put, List.setIfInBounds_toArray, List.set_cons_zero, List.set_cons_succ]
        refine wpAnyH_ready (rs := [17]) (by kernel_rfl) (by simp) ?_
        refine AllReadyH.cons (o := { dst := some 35, op := Op.call { callee := Callee.builtin Builtin.append, args := #[Operand.tmp 22, Operand.tmp 34], argTypes := #[40, 40] }, type := 40, pos := "node.go:347", after := _, guard := none }) rfl (fun K hK => ?_) AllReadyH.nil
        rw [if_pos (by rfl)]
        refine wp_append_lies _ _ _ _ rfl 0 65 i5 _ 3 24 Ybaz.underlying40 hi5 hz5 hsz5 hby5 rfl (by omega) v n (hdsL cw id s l) rfl (own_fr (unhide HO1) ((Fr.of_same (S := []) hS2).alloc _) (by simp)) ⟨w2.heap.size, 0, none⟩ 1 1 (hdL cw id s j) rfl rfl ?_ ?_ (by omega) (by have : maxLen = 9223372036854775807 := rfl; omega) (by omega) (Nat.zero_le _) (w2.heap.size + 1) (by simp) ?_
        · intro i u hi
          have := rangeAt_new w2 #[.int .i64 (j : Int), .float .f64 (cw j), .int .i64 ((shD (id s) (id j) : Nat) : Int)] 65 _ rfl i u hi
          rw [Nat.zero_add] at this
          rw [Addr.add_mid, Nat.zero_add]
          exact this
        · intro u hu
          simp [hdL] at hu
          rcases hu with rfl | rfl | rfl <;> rfl
        intro g cap w3 hown3 hgrow3 hat3 hlt3
        try simp only [Act.put, List.setIfInBounds_toArray, List.set_cons_zero, List.set_cons_succ]
        have hsz : w2.heap.size = w1.heap.size := by rw [(hS2).heap]
        have hF3 : Fr w1 w3 (ob v) := ((Fr.of_same hS2).alloc _).trans (.of_grown hgrow3)
        have hg3 : g ∈ ob v ∨ w1.heap.size ≤ g := by
          rcases hat3 with h | h
          · left; simp [ob, h]
          · right; rw [h, hsz]; omega
        refine hK.out _ _ (unhide KS _ (hF3.mono (fun x hx => List.mem_cons_of_mem _ hx))) (fun hHeld => ?_)
        clear hK K
        try simp only [Act.put, List.setIfInBounds_toArray, List.set_cons_zero, List.set_cons_succ]
        have d0 : w3.cell? ⟨jb, 0, none⟩ = some v := hF3.cell c0 hjv
        have hR3 : w3.rowIs jb 47 267 jf := (unhide HR1).of_block (hF3.block jb (unhide HR1).lt hjv)
        have z0 := hR3.frozen 0
        have Hown3 := hide hown3
        have HF3 := hide hF3
        have HR3 := hide hR3
        clear hown3 hgrow3 hat3 hF3 hR3
        refine wpAnyH_take (i := 18) (oi := { dst := some 36, op := Op.nilCheck (Operand.tmp 18), type := 0, pos := "node.go:347", after := _, guard := none }) (v := ?_) rfl (by kernel_rfl) (by kernel_rfl) (by kernel_rfl) (fun _ _ _ h => h) (Or.inl ⟨by rfl, ?_⟩) (by assumption) ?_
        rotate_left 1
        · (intro w hSw; (try dsimp only at hSw); go_simp <;> with_reducible rfl)
        try simp only [Act.put, List.setIfInBounds_toArray, List.set_cons_zero, List.set_cons_succ]
        refine wpAnyH_take (i := 19) (oi := { dst := some 37, op := Op.fieldAddr 43 (Operand.tmp 36) 0, type := 0, pos := "node.go:347", after := _, guard := none }) (v := ?_) rfl (by kernel_rfl) (by kernel_rfl) (by kernel_rfl) (fun _ _ _ h => h) (Or.inl ⟨by rfl, ?_⟩) (by assumption) ?_
        rotate_left 1
        · (intro w hSw; (try dsimp only at hSw); go_simp <;> with_reducible rfl)
        try simp only [Act.put, List.setIfInBounds_toArray, List.set_cons_zero, List.set_cons_succ]
        refine wpAnyH_ready (rs := [20]) (by kernel_rfl) (by simp) ?_
        refine AllReadyH.cons (o := { dst := none, op := Op.store 40 (Operand.tmp 37) (Operand.tmp 35), type := 0, pos := "node.go:347", after := _, guard := none }) rfl (fun K hK => ?_) AllReadyH.nil
        go_simp
        refine hK.out _ _ (unhide KS _ (((unhide HF3).mono (fun x hx => List.mem_cons_of_mem _ hx)).set (by simp) _ _)) (fun hHeld => ?_)
        clear hK K
        try simp only [Act.put, List.setIfInBounds_toArray, List.set_cons_zero, List.set_cons_succ]
        refine wpAnyH_done (by kernel_rfl) ?_ _
        go_wp2_with fail
        go_ret
        exact ⟨rfl, hofFin hnd hv (unhide HMO) (unhide HSet1) (unhide HR3) (unhide Hown3) (unhide HF3) hg3 hlt3 (unhide HR1).lt⟩

end Go.Proofs.YbulkbtkoGreatFmt
