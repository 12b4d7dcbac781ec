import Derived.Test.YbulkbtkoGreatFmtNode
namespace Go.Proofs.YbulkbtkoGreatFmt
open Go.RowKit
set_option linter.unusedVariables false
set_option linter.unusedSimpArgs false

/-- A node's cells: the table, the costs, the count of edits, the rest. -/
def ndF (T : Nat → Int) (C : Nat → Nat) (ed : Int) (r : Nat → Value) : Nat → Value := fun j =>
  if 3 ≤ j ∧ j < 259 then .int .i64 (T (j - 3)) else if 259 ≤ j ∧ j < 515 then .float .f64 (C (j - 259)) else if j = 789 then .int .i64 ed else r j

/-- Of the blocks only b may have turned; none is new. -/
structure Only1 (w w' : World) (b : Nat) : Prop where
  size : w'.heap.size = w.heap.size
  block : ∀ k, k ≠ b → w'.heap[k]? = w.heap[k]?
  bel : ∀ B, B ≤ b → Below B w w'
theorem Only1.refl (w : World) (b : Nat) : Only1 w w b := ⟨rfl, fun _ _ => rfl, fun _ _ => Below.refl _ _⟩
theorem Only1.same {w w1 w' : World} {b : Nat} (h : Only1 w w1 b) (k : Same w1 w') : Only1 w w' b := ⟨by rw [k.heap, h.size], fun i hi => (k.block i).trans (h.block i hi), fun B hB => (h.bel B hB).trans (k.below B)⟩
theorem Only1.set {w w' : World} {b : Nat} (h : Only1 w w' b) (i : Nat) (v : Value) : Only1 w (w'.setCell ⟨b, i, none⟩ v) b :=
  ⟨by simp [h.size], fun k hk => (Below.heap_setCell _ _ _ _ hk).trans (h.block k hk), fun B hB => (h.bel B hB).setCell hB _⟩
theorem Only1.trans {a b c : World} {n : Nat} (h : Only1 a b n) (k : Only1 b c n) : Only1 a c n := ⟨k.size.trans h.size, fun i hi => (k.block i hi).trans (h.block i hi), fun B hB => (h.bel B hB).trans (k.bel B hB)⟩

theorem Net.same {w w' : World} {ib cb vb N : Nat} {id cw : Nat → Nat} (h : Net w ib cb vb N id cw) (k : Same w w') : Net w' ib cb vb N id cw := h.of_blocks (k.block _) (k.block _) (k.block _)

def slotOf (id : Nat → Nat) (s j : Nat) : Nat := shD (id s) (id j) * 16 + dig (id j) (shD (id s) (id j))
def bef (cI : Nat → Int) (id : Nat → Nat) (a b : Nat) : Bool := decide (cI a < cI b ∨ (cI a = cI b ∧ id a < id b))
/-- Does the table take j? -/
def takes (cI : Nat → Int) (id : Nat → Nat) (s : Nat) (T : Nat → Int) (j : Nat) : Bool := decide (j ≠ s) && (decide (T (slotOf id s j) = -1) || bef cI id j (T (slotOf id s j)).toNat)
def putI {α : Type} (T : Nat → α) (p : Nat) (v : α) : Nat → α := fun q => if q = p then v else T q
def learnT (cI : Nat → Int) (id : Nat → Nat) (s : Nat) (T : Nat → Int) (j : Nat) : Nat → Int := if takes cI id s T j then putI T (slotOf id s j) (j : Int) else T
def learnC (cI : Nat → Int) (id cw : Nat → Nat) (s : Nat) (T : Nat → Int) (C : Nat → Nat) (j : Nat) : Nat → Nat := if takes cI id s T j then putI C (slotOf id s j) (cw j) else C
def learnE (cI : Nat → Int) (id : Nat → Nat) (s : Nat) (T : Nat → Int) (ed : Int) (j : Nat) : Int := if takes cI id s T j then ed + 1 else ed

/-- What a node's table may hold. -/
def TabOk (N s : Nat) (id cw : Nat → Nat) (T : Nat → Int) (C : Nat → Nat) : Prop := ∀ j, j < N → j ≠ s → T (slotOf id s j) = -1 ∨ ∃ e : Nat, e < N ∧ T (slotOf id s j) = (e : Int) ∧ C (slotOf id s j) = cw e

structure NodeIs (w : World) (nb ib vb N s : Nat) (T : Nat → Int) (C : Nat → Nat) (ed : Int) (r : Nat → Value) : Prop where
  row : w.rowIs nb 63 790 (ndF T C ed r)
  r0 : r 0 = .int .i64 (s : Int)
  r1 : r 1 = .slice (some ⟨ib, 0, none⟩) N N
  r2 : r 2 = .func (.func 11) #[] #[.pointer (some ⟨vb, 0, none⟩)]

theorem NodeIs.same {w w' : World} {nb ib vb N s : Nat} {T : Nat → Int} {C : Nat → Nat} {ed : Int} {r : Nat → Value} (h : NodeIs w nb ib vb N s T C ed r) (k : Same w w') : NodeIs w' nb ib vb N s T C ed r := ⟨h.row.of_block (k.block _), h.r0, h.r1, h.r2⟩

theorem ndF_t {T : Nat → Int} {C : Nat → Nat} {ed : Int} {r : Nat → Value} {p : Nat} (hp : p < 256) : ndF T C ed r (3 + p) = .int .i64 (T p) := by
  unfold ndF
  rw [if_pos (by omega), show 3 + p - 3 = p by omega]
theorem ndF_c {T : Nat → Int} {C : Nat → Nat} {ed : Int} {r : Nat → Value} {p : Nat} (hp : p < 256) : ndF T C ed r (259 + p) = .float .f64 (C p) := by
  unfold ndF
  rw [if_neg (by omega), if_pos (by omega), show 259 + p - 259 = p by omega]
theorem ndF_put {T : Nat → Int} {C : Nat → Nat} {ed ed' : Int} {r : Nat → Value} {p : Nat} {v : Int} {c : Nat} (hp : p < 256) (k : Nat) :
    (if k = 789 then .int .i64 ed' else if k = 259 + p then .float .f64 c else if k = 3 + p then .int .i64 v else ndF T C ed r k) = ndF (putI T p v) (putI C p c) ed' r k := by
  by_cases h1 : k = 789
  · subst h1
    simp [ndF]
  · by_cases h2 : k = 259 + p
    · subst h2
      rw [if_neg h1, if_pos rfl, ndF_c hp]
      simp [putI]
    · by_cases h3 : k = 3 + p
      · subst h3
        rw [if_neg h1, if_neg h2, if_pos rfl, ndF_t hp]
        simp [putI]
      · rw [if_neg h1, if_neg h2, if_neg h3]
        unfold ndF
        by_cases c1 : 3 ≤ k ∧ k < 259
        · rw [if_pos c1, if_pos c1]
          simp only [putI]
          rw [if_neg (by omega)]
        · rw [if_neg c1, if_neg c1]
          by_cases c2 : 259 ≤ k ∧ k < 515
          · rw [if_pos c2, if_pos c2]
            simp only [putI]
            rw [if_neg (by omega)]
          · rw [if_neg c2, if_neg c2, if_neg h1, if_neg h1]

set_option maxHeartbeats 4000000 in
theorem learn_any {w : World} {ib cb vb N nb s : Nat} {id cw : Nat → Nat} {cI : Nat → Int} {T : Nat → Int} {C : Nat → Nat} {ed : Int} {r : Nat → Value} (hNet : Net w ib cb vb N id cw) (hid : ∀ i, id i < 18446744073709551616)
    (hinj : ∀ i j, i < N → j < N → id i = id j → i = j) (hcw : ∀ i, Reads (cw i) (cI i)) (hN : N ≤ 300) (hNode : NodeIs w nb ib vb N s T C ed r) (hs : s < N) (hT : TabOk N s id cw T C) (hed : 0 ≤ ed ∧ ed ≤ 5000) (j : Nat) (hj : j < N) :
    Calls Ybaz.prog 20 #[.pointer (some ⟨nb, 0, none⟩), .int .i64 (j : Int)] w fun e w' => e = .returned (.bool (takes cI id s T j)) ∧ Only1 w w' nb ∧ NodeIs w' nb ib vb N s (learnT cI id s T j) (learnC cI id cw s T C j) (learnE cI id s T ed j) r := by
  have HNet := hide hNet
  have HNode := hide hNode
  have HT := hide hT
  have c0 : w.cell? ⟨nb, 0, none⟩ = some (.int .i64 (s : Int)) := (hNode.row.cell (by omega)).trans (by simp [ndF, hNode.r0])
  have c1 : w.cell? ⟨nb, 1, none⟩ = some (.slice (some ⟨ib, 0, none⟩) N N) := (hNode.row.cell (by omega)).trans (by simp [ndF, hNode.r1])
  have c2 : w.cell? ⟨nb, 2, none⟩ = some (.func (.func 11) #[] #[.pointer (some ⟨vb, 0, none⟩)]) := (hNode.row.cell (by omega)).trans (by simp [ndF, hNode.r2])
  have d1 := hNet.ids.cell hj
  have i1 : (j : Int) < (N : Int) := by omega
  have i0 : (0 : Int) ≤ (j : Int) := by omega
  clear hNet hNode hT
  by_cases hjs : j = s
  · subst hjs
    have ht : takes cI id j T j = false := by simp [takes]
    go_enter Ybaz.func20, Ybaz.ntmps20
    go_wp2_with fail
    go_ret
    refine ⟨by rw [ht]; rfl, Only1.refl _ _, ?_⟩
    simp only [learnT, learnC, learnE, ht]
    exact unhide HNode
  · have t1 : ((j : Int) == (s : Int)) = false := by simp; omega
    have t2 : ¬ ((j : Int) = (s : Int)) := by omega
    have hlv : shD (id s) (id j) < 16 := shD_lt (hid s) (hid j) fun e => hjs (hinj _ _ hj hs e.symm)
    have hdl := dig_lt (id j) (shD (id s) (id j))
    have Hjs := hide hjs
    clear hjs
    go_enter Ybaz.func20, Ybaz.ntmps20
    go_wp2_with fail
    go_region_held3 (fun w' => w'.cell? ⟨nb, 1, none⟩ = some (.slice (some ⟨ib, 0, none⟩) N N) ∧ w'.cell? ⟨ib, j, none⟩ = some (.int .u64 ((id j : Nat) : Int)))
      ((first | exact ⟨c1, d1⟩ | exact ⟨(hS1.cell _).trans c1, (hS1.cell _).trans d1⟩))
      ((go_at_call 22; refine (nshared_any (w := w.drew) ((unhide HNet).same ((Same.refl _).drew)) hid hN c0 c1 hs j hj).mono ?_; rintro e w1 ⟨rfl, hS1⟩))
    have hS : Same w w1 := ((Same.refl w).drew).trans hS1
    have HS := hide hS
    clear hS1
    obtain ⟨lv, hlvE⟩ : ∃ lv, shD (id s) (id j) = lv := ⟨_, rfl⟩
    have hp : slotOf id s j = lv * 16 + dig (id j) lv := by unfold slotOf; rw [hlvE]
    rw [hlvE] at hlv hdl ⊢
    clear hlvE
    have tl : ((lv : Int) == 16) = false := by simp; omega
    have tl2 : ¬ ((lv : Int) = 16) := by omega
    go_wp2_with fail
    refine (digit_any (id j) lv _ (hid j) hlv).mono ?_
    rintro e w1' ⟨rfl, rfl⟩
    obtain ⟨d, hdE⟩ : ∃ d, dig (id j) lv = d := ⟨_, rfl⟩
    rw [hdE] at hp hdl ⊢
    clear hdE
    have f2 := (hS.cell ⟨nb, 2, none⟩).trans c2
    go_wp2_with fail
    refine (cost_any ((unhide HNet).same (unhide HS)) j hj hN).mono ?_
    rintro e w1' ⟨rfl, rfl⟩
    have hpl : lv * 16 + d < 256 := by omega
    have e8 : w1'.cell? ⟨nb, 3 + lv * 16 + d, none⟩ = some (.int .i64 (T (slotOf id s j))) := by
      rw [hS.cell, Nat.add_assoc, (unhide HNode).row.cell (by omega), ndF_t hpl, hp]
    have e9 : w1'.cell? ⟨nb, 259 + lv * 16 + d, none⟩ = some (.float .f64 (C (slotOf id s j))) := by
      rw [hS.cell, Nat.add_assoc, (unhide HNode).row.cell (by omega), ndF_c hpl, hp]
    have g1 := (hS.cell ⟨nb, 1, none⟩).trans c1
    have v0 : (0 : Int) ≤ (lv : Int) := by omega
    have v1 : (lv : Int) < 16 := by omega
    have v2 : (0 : Int) ≤ (d : Int) := by omega
    have v3 : (d : Int) < 16 := by omega
    have z8 : w1'.frozen? ⟨nb, 3 + lv * 16 + d, none⟩ = false := ((unhide HNode).same (unhide HS)).row.frozen _
    have z9 : w1'.frozen? ⟨nb, 259 + lv * 16 + d, none⟩ = false := ((unhide HNode).same (unhide HS)).row.frozen _
    have eed : w1'.cell? ⟨nb, 789, none⟩ = some (.int .i64 ed) := by
      rw [hS.cell, (unhide HNode).row.cell (by omega)]; simp [ndF]
    have zed : w1'.frozen? ⟨nb, 789, none⟩ = false := ((unhide HNode).same (unhide HS)).row.frozen _
    have hst := fun w' => run_store Ybaz.prog w' ⟨nb, 259 + lv * 16 + d, none⟩ (.float .f64 (cw j)) .plain rfl
    go_upto_region 9 with fail
    have HP := hide hp
    rw [hp] at e8 e9
    clear hp hS
    have hTT := unhide HT j hj (unhide Hjs)
    rw [unhide HP] at hTT
    rcases hTT with ha | ⟨e, he, ha, hC⟩
    · have ht : takes cI id s T j = true := by simp [takes, unhide HP, ha, unhide Hjs]
      rw [ha] at e8 ⊢
      have Ha := hide ha
      clear ha
      go_big_quiet (fail)
      go_upto_region 11 with fail
      go_region_held3 (fun w' => w'.heap.size = w1'.heap.size) ((first | rfl | simp)) (fail)
      obtain ⟨w2, hw2⟩ : ∃ w2, w2 = ((w1'.drewN (nq + 1)).setCell ⟨nb, 3 + lv * 16 + d, none⟩ (.int .i64 (j : Int))).setCell ⟨nb, 259 + lv * 16 + d, none⟩ (.float .f64 (cw j)) := ⟨_, rfl⟩
      rw [← hw2]
      have hsm : Same w (w1'.drewN (nq + 1)) := (unhide HS).drewN (nq + 1)
      have ho2 : Only1 w w2 nb := by rw [hw2]; exact ((((Only1.refl w nb).same hsm).set _ _).set _ _)
      have hrow2 : w2.rowIs nb 63 790 (fun k => if k = 259 + lv * 16 + d then .float .f64 (cw j) else if k = 3 + lv * 16 + d then .int .i64 (j : Int) else ndF T C ed r k) := by
        rw [hw2]
        exact ((((unhide HNode).same hsm).row.set (3 + lv * 16 + d) (.int .i64 (j : Int))).set (259 + lv * 16 + d) (.float .f64 (cw j)))
      have q2 : w2.cell? ⟨nb, 789, none⟩ = some (.int .i64 ed) := by
        rw [hrow2.cell (by omega), if_neg (by omega), if_neg (by omega)]; simp [ndF]
      have y2 := hrow2.frozen 789
      clear hw2 hsm
      have HO2 := hide ho2
      have HR2 := hide hrow2
      clear ho2 hrow2
      go_wp2_with fail
      go_ret
      refine ⟨by rw [ht]; rfl, (unhide HO2).set 789 _, ⟨?_, (unhide HNode).r0, (unhide HNode).r1, (unhide HNode).r2⟩⟩
      simp only [learnT, learnC, learnE, ht, if_true, unhide HP]
      refine ((unhide HR2).set 789 (.int .i64 (ed + 1))).congr fun k hk => ?_
      have := ndF_put (T := T) (C := C) (ed := ed) (ed' := ed + 1) (r := r) (v := (j : Int)) (c := cw j) hpl k
      rw [← Nat.add_assoc, ← Nat.add_assoc] at this
      exact this
    · rw [ha] at e8 ⊢
      rw [hC] at e9
      have dn : w1'.cell? ⟨ib, e, none⟩ = some (.int .u64 ((id e : Nat) : Int)) := ((unhide HNet).same (unhide HS)).ids.cell he
      have tn2 : ¬ ((e : Int) = -1) := by omega
      have tn : ((e : Int) != -1) = true := by simp [tn2]
      have n0 : (0 : Int) ≤ (e : Int) := by omega
      have n1 : (e : Int) < (N : Int) := by omega
      have Ha := hide ha
      have HCp := hide hC
      clear ha hC
      have hbef : ∀ w', Calls Ybaz.prog 15 #[.float .f64 (cw j), .int .u64 ((id j : Nat) : Int), .float .f64 (cw e), .int .u64 ((id e : Nat) : Int)] w' fun e' w'' => e' = .returned (.bool (bef cI id j e)) ∧ w'' = w' := fun w' => before_any (cw j) (id j) (cw e) (id e) (cI j) (cI e) w' (hcw j) (hcw e)
      have htk : takes cI id s T j = bef cI id j e := by
        have h1 := unhide HP
        have h2 := unhide Ha
        unfold takes
        rw [h1, h2, Int.toNat_natCast]
        simp [unhide Hjs, tn2]
      have Htk := hide htk
      clear htk
      generalize bef cI id j e = bb at hbef Htk
      cases bb
      · have ht : takes cI id s T j = false := unhide Htk
        go_big_quiet ((go_at_call 15; exact Calls.quiet_of_same (hbef _)))
        go_wp2_with fail
        go_ret
        refine ⟨by rw [ht]; rfl, (Only1.refl _ _).same ((unhide HS).drewN nq), ?_⟩
        simp only [learnT, learnC, learnE, ht]
        exact (unhide HNode).same ((unhide HS).drewN nq)
      · have ht : takes cI id s T j = true := unhide Htk
        go_big_quiet ((go_at_call 15; exact Calls.quiet_of_same (hbef _)))
        go_upto_region 11 with fail
        go_region_held3 (fun w' => w'.heap.size = w1'.heap.size) ((first | rfl | simp)) (fail)
        obtain ⟨w2, hw2⟩ : ∃ w2, w2 = ((w1'.drewN (nq + 1)).setCell ⟨nb, 3 + lv * 16 + d, none⟩ (.int .i64 (j : Int))).setCell ⟨nb, 259 + lv * 16 + d, none⟩ (.float .f64 (cw j)) := ⟨_, rfl⟩
        rw [← hw2]
        have hsm : Same w (w1'.drewN (nq + 1)) := (unhide HS).drewN (nq + 1)
        have ho2 : Only1 w w2 nb := by rw [hw2]; exact ((((Only1.refl w nb).same hsm).set _ _).set _ _)
        have hrow2 : w2.rowIs nb 63 790 (fun k => if k = 259 + lv * 16 + d then .float .f64 (cw j) else if k = 3 + lv * 16 + d then .int .i64 (j : Int) else ndF T C ed r k) := by
          rw [hw2]
          exact ((((unhide HNode).same hsm).row.set (3 + lv * 16 + d) (.int .i64 (j : Int))).set (259 + lv * 16 + d) (.float .f64 (cw j)))
        have q2 : w2.cell? ⟨nb, 789, none⟩ = some (.int .i64 ed) := by
          rw [hrow2.cell (by omega), if_neg (by omega), if_neg (by omega)]; simp [ndF]
        have y2 := hrow2.frozen 789
        clear hw2 hsm
        have HO2 := hide ho2
        have HR2 := hide hrow2
        clear ho2 hrow2
        go_wp2_with fail
        go_ret
        refine ⟨by rw [ht]; rfl, (unhide HO2).set 789 _, ⟨?_, (unhide HNode).r0, (unhide HNode).r1, (unhide HNode).r2⟩⟩
        simp only [learnT, learnC, learnE, ht, if_true, unhide HP]
        refine ((unhide HR2).set 789 (.int .i64 (ed + 1))).congr fun k hk => ?_
        have := ndF_put (T := T) (C := C) (ed := ed) (ed' := ed + 1) (r := r) (v := (j : Int)) (c := cw j) hpl k
        rw [← Nat.add_assoc, ← Nat.add_assoc] at this
        exact this

end Go.Proofs.YbulkbtkoGreatFmt
