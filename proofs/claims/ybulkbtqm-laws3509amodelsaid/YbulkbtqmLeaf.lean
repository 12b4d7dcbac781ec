import Derived.Test.YbulkbtqmRows
import Derived.Test.YbulkbtqmPlain
import Derived.WalkKit
import Derived.WalkSpells
import Derived.WalkSmall
import Derived.BigQuiet
import Derived.Deep.QuietTactic
import Derived.Deep.OwnRows
import Derived.Deep.RegionHeld3
import Derived.Laws.Bits64
import Derived.Below
namespace Go.Proofs.Ybulkbtqm
open Go.RowKit

theorem hide {p : Prop} (h : p) : Hid p := h
theorem unhide {p : Prop} (h : Hid p) : p := h

/-- An id whose last byte is g, as cells. -/
def idList (g : Int) : List Value := [.int .u8 0, .int .u8 0, .int .u8 0, .int .u8 0, .int .u8 0, .int .u8 0, .int .u8 0, .int .u8 0, .int .u8 0, .int .u8 0, .int .u8 0, .int .u8 0, .int .u8 0, .int .u8 0, .int .u8 0, .int .u8 0, .int .u8 0, .int .u8 0, .int .u8 0, .int .u8 g]
def idArr (g : Int) : Array Value := (idList g).toArray

theorem id_one (g : Int) : (idArr g).all (·.oneCell') = true := by
  simp [idArr, idList, Value.oneCell']
theorem info30 : (Yba.prog.info? 30).map (·.size) = some 20 := by kernel_rfl

theorem rangeAt_new (w : World) (c : Array Value) (t : TypeId) (n : Nat) (hn : n = w.heap.size) : (w.alloc (.cells c t)).rangeAt n 0 c.toList := by
  subst hn
  intro j v hj
  have h : c[j]? = some v := by simpa using hj
  rw [Nat.zero_add]
  go_simp

theorem there_new (w : World) (c : Array Value) (t : TypeId) (n m : Nat) (hm : m = w.heap.size) (h : n ≤ c.size) : (w.alloc (.cells c t)).there m 0 n := by
  subst hm
  intro j hj
  obtain ⟨v, hv⟩ : ∃ v, c[j]? = some v := ⟨c[j]'(by omega), by simp⟩
  rw [Nat.zero_add]
  refine ⟨?_, ?_⟩
  · have : (w.alloc (.cells c t)).cell? ⟨w.heap.size, j, none⟩ = some v := by go_simp
    rw [this]; rfl
  · go_simp

theorem results_one {fn : Func} {p : Tmp} {ty : TypeId} (h : fn.results = #[.cell p ty]) {tmps : Array Value} {P : Program} {w : World} {b o : Nat} {v : Value} (hp : tmps.getD p undef = .pointer (some ⟨b, o, none⟩))
    (hl : (loadVar ty ⟨b, o, none⟩).run P w = .ok v w) : (results fn tmps).run P w = .ok v w := by
  have hp' : tmps[p]?.getD undef = .pointer (some ⟨b, o, none⟩) := by simpa using hp
  simp only [results, h]
  simp [asAddr, hp', hl]

theorem below_setCells {B : Nat} {a : World} (b : Nat) (hb : B ≤ b) : ∀ (vs : List Value) (o : Nat) {w : World}, Below B a w → Below B a (w.setCells b o vs)
  | [], _, _, h => h
  | v :: r, o, _, h => below_setCells b hb r (o + 1) (h.setCell (p := ⟨b, o, none⟩) hb v)

set_option maxRecDepth 100000 in
theorem id_any (g : Int) (w : World) (h0 : 0 ≤ g) (h1 : g ≤ 255) :
    Calls Yba.prog 4 #[.int .i64 g] w fun e w' => e = .returned (.agg (idArr g)) ∧ Below w.heap.size w w' := by
  go_enter Yba.func4, Yba.ntmps4
  go_wp2_with (first
    | (guard_target = wpList _ _ _ (⟨_, Op.load 30 _, _, _, _, _⟩ :: _) _ _; go_must (refine wpList_load_mid rfl _ _ rfl (w.heap.size + 1) 0 rfl (idList g) _ (rangeAt_new (w.alloc _) (idArr g) 30 _ (by simp)) Yba.underlying30 rfl info30 ?_))
    | (guard_target = wpList _ _ _ (⟨_, Op.store 30 _ _, _, _, _, _⟩ :: _) _ _; go_must (refine wpList_store_mid rfl _ _ _ rfl w.heap.size 0 (idArr g) rfl rfl (World.there_alloc (there_new w _ 30 20 _ rfl (Nat.le_refl _)) _) info30 (id_one g) ?_))
    | go_in)
  have ht : ((w.alloc (.cells #[.int .u8 0, .int .u8 0, .int .u8 0, .int .u8 0, .int .u8 0, .int .u8 0, .int .u8 0, .int .u8 0, .int .u8 0, .int .u8 0, .int .u8 0, .int .u8 0, .int .u8 0, .int .u8 0, .int .u8 0, .int .u8 0, .int .u8 0, .int .u8 0, .int .u8 0, .int .u8 0] 30)).alloc (.cells (idArr g) 30)).there w.heap.size 0 20 :=
    World.there_alloc (there_new w _ 30 20 _ rfl (Nat.le_refl _)) _
  have hr := World.rangeAt_setCells_same _ w.heap.size 0 (idList g) ht
  refine bodyPost_ret (v := .agg (idArr g)) (results_one Yba.results4 rfl (run_loadVar_mid _ _ _ _ (idList g) _ hr Yba.underlying30 rfl info30)) rfl ⟨rfl, ?_⟩
  exact below_setCells _ (Nat.le_refl _) _ _ (((Below.refl _ _).alloc (Nat.le_refl _) _).alloc (by simp) _)

end Go.Proofs.Ybulkbtqm
