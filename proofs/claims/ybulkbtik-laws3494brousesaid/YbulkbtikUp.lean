import Derived.Test.YbulkbtikNx
import Derived.Deep.AppendLies
namespace Go.Proofs.Ybulkbtik
open Go.Conc Go.RowKit Go.MuLone
set_option linter.unusedVariables false
set_option linter.unusedSimpArgs false

theorem sl_one (v : Nat) (s4 : Int) : ((slL v (.int .i64 s4)).toArray).all (·.oneCell') = true := by simp [slL, Value.oneCell']

theorem grown_refl (w : World) (r : Option Nat) : w.grownBy w r := ⟨rfl, rfl, rfl, Nat.le_refl _, fun _ _ _ => rfl⟩
theorem grown_trans {a b c : World} {r : Option Nat} (h : a.grownBy b r) (k : b.grownBy c r) : a.grownBy c r :=
  ⟨k.os.trans h.os, k.tape.trans h.tape, k.output.trans h.output, Nat.le_trans h.size k.size, fun i hi hr => (k.block i (Nat.lt_of_lt_of_le hi h.size) hr).trans (h.block i hi hr)⟩
theorem grown_below {w w' : World} (h : Below w.heap.size w w') (r : Option Nat) : w.grownBy w' r := ⟨h.os, h.tape, h.output, h.size, fun k hk _ => h.block k hk⟩
theorem grown_setCells {g : Nat} : ∀ (vs : List Value) (o : Nat) (w : World), w.grownBy (w.setCells g o vs) (some g)
  | [], _, w => grown_refl w _
  | v :: r, o, w => grown_trans (b := w.setCell ⟨g, o, none⟩ v) ⟨rfl, rfl, rfl, by simp, fun k _ hk => Below.heap_setCell _ _ _ _ (by intro e; exact hk (by rw [e]))⟩ (grown_setCells r (o + 1) _)
theorem there_far {w w' : World} {b o n : Nat} (h : w.there b o n) (e : w'.heap[b]? = w.heap[b]?) : w'.there b o n := fun j hj =>
  ⟨by rw [World.cell?_of_block (a := ⟨b, o + j, none⟩) e]; exact (h j hj).1, by rw [World.frozen?_of_block (a := ⟨b, o + j, none⟩) e]; exact (h j hj).2⟩
theorem range_far {w w' : World} {b o : Nat} {cs : List Value} (h : w.rangeAt b o cs) (e : w'.heap[b]? = w.heap[b]?) : w'.rangeAt b o cs := fun j v hj =>
  (World.cell?_of_block (a := ⟨b, o + j, none⟩) e).trans (h j v hj)

theorem up_any (g cap v : Nat) (s4 : Int) (w : World) (hr : w.rangeAt g 0 (slL v (.int .i64 s4))) (ht : w.there g 0 5) (hcap : 1 ≤ cap) :
    Calls Yba.prog 22 #[.slice (some ⟨g, 0, none⟩) 1 cap, .int .i64 0] w fun e w' => e = .returned (.tuple #[]) ∧ w.grownBy w' (some g) ∧ w'.rangeAt g 0 (slL v (.int .i64 s4)) := by
  have hg : g < w.heap.size := World.block_lt_of_cell? _ _ (hr 0 _ rfl)
  have HR := hide hr
  have HT := hide ht
  clear hr ht
  go_enter Yba.func22, Yba.ntmps22
  go_wp2_with (first
    | (guard_target = wpList _ _ _ (⟨_, Op.load 127 _, _, _, _, _⟩ :: _) _ _; go_must (refine wpList_load_mid rfl _ _ rfl g 0 rfl (slL v (.int .i64 s4)) _ (unhide HR) Yba.underlying127 rfl info127 ?_))
    | (guard_target = wpList _ _ _ (⟨_, Op.store 127 _ _, _, _, _, _⟩ :: _) _ _; go_must (refine wpList_store_mid rfl _ _ _ rfl w.heap.size 0 (slL v (.int .i64 s4)).toArray rfl rfl (there_new w _ 127 5 _ rfl (Nat.le_refl _)) info127 (sl_one v s4) ?_))
    | go_in)
  have hE : Below w.heap.size w ((w.alloc (.cells #[.float .f64 0, .int .u64 0, .int .u64 0, .int .u64 0, .int .i64 0] 127)).setCells w.heap.size 0 (slL v (.int .i64 s4))) := below_setCells _ (Nat.le_refl _) _ _ ((Below.refl _ _).alloc (Nat.le_refl _) _)
  have hR2 : Hid (((w.alloc (.cells #[.float .f64 0, .int .u64 0, .int .u64 0, .int .u64 0, .int .i64 0] 127)).setCells w.heap.size 0 (slL v (.int .i64 s4))).rangeAt w.heap.size 0 (slL v (.int .i64 s4))) := World.rangeAt_setCells_same _ w.heap.size 0 (slL v (.int .i64 s4)) (there_new w _ 127 5 _ rfl (Nat.le_refl _))
  generalize (w.alloc (.cells #[.float .f64 0, .int .u64 0, .int .u64 0, .int .u64 0, .int .i64 0] 127)).setCells w.heap.size 0 (slL v (.int .i64 s4)) = wK at hE hR2 ⊢
  have HE := hide hE
  have tK : Hid (wK.there g 0 5) := there_far (unhide HT) (hE.block g hg)
  clear hE
  simp only [Act.put]
  go_loopw [1] (fun iv wr => iv = .int .i64 0 ∧ wr = wK) (fun _ _ => 0)
  case atStart => exact ⟨rfl, rfl⟩
  case round =>
    obtain ⟨rfl, rfl⟩ := hrel
    go_wp2_with (first
      | (guard_target = wpList _ _ _ (⟨_, Op.load 127 _, _, _, _, _⟩ :: _) _ _; go_must (refine wpList_load_mid rfl _ _ rfl w.heap.size 0 rfl (slL v (.int .i64 s4)) _ (unhide hR2) Yba.underlying127 rfl info127 ?_))
      | (guard_target = wpList _ _ _ (⟨_, Op.store 127 _ _, _, _, _, _⟩ :: _) _ _; go_must (refine wpList_store_mid rfl _ _ _ rfl g 0 (slL v (.int .i64 s4)).toArray rfl rfl (unhide tK) info127 (sl_one v s4) ?_))
      | go_in)
    try simp only [Act.put]
    go_end0
    exact ⟨rfl, grown_trans (grown_below (unhide HE) _) (grown_setCells _ _ _), World.rangeAt_setCells_same _ g 0 (slL v (.int .i64 s4)) (unhide tK)⟩

end Go.Proofs.Ybulkbtik
