import Derived.Test.YbulkbtikAdd
import Derived.LaidEqlPtr
namespace Go.Proofs.Ybulkbtik
open Go.Conc Go.RowKit Go.MuLone
set_option linter.unusedVariables false
set_option linter.unusedSimpArgs false

theorem inf57 : ∃ j, Yba.prog.info? 57 = some j ∧ j.size ≠ 0 := by
  have h : (Yba.prog.info? 57).map (fun i => i.size) = some 279 := by kernel_rfl
  obtain ⟨i, hi, hz⟩ := Option.map_eq_some_iff.1 h
  exact ⟨i, hi, by omega⟩
theorem neq_same (a : Addr) (w : World) : (binOp .neq 24 (.pointer (some a)) (.pointer (some a))).run Yba.prog w = .ok (.bool false) w := by
  obtain ⟨j, hj, hs⟩ := inf57
  have h : ∀ d : Nat, (Op.equalIn (d + 1) 24 (.pointer (some a)) (.pointer (some a))).run Yba.prog w = .ok true w := fun d => by
    simp [Op.equalIn, run_underlying Yba.underlying24, sizeOf, typeInfo, hj, run_sameAddr_same]
  simp only [binOp]
  simp [Op.equal, Op.maxDepth, h 9999]
theorem neq_other {w : World} {a b : Addr} {ca cb : Array Value} {ta tb : TypeId} (hne : a ≠ b) (ha : w.heap[a.block]? = some (.cells ca ta (0, 0))) (hb : w.heap[b.block]? = some (.cells cb tb (0, 0))) :
    (binOp .neq 24 (.pointer (some a)) (.pointer (some b))).run Yba.prog w = .ok (.bool true) w := by
  obtain ⟨j, hj, hs⟩ := inf57
  have h : ∀ d : Nat, (Op.equalIn (d + 1) 24 (.pointer (some a)) (.pointer (some b))).run Yba.prog w = .ok false w := fun d => by
    simp [Op.equalIn, run_underlying Yba.underlying24, sizeOf, typeInfo, hj, hs, run_sameAddr_other w hne ha hb]
  simp only [binOp]
  simp [Op.equal, Op.maxDepth, h 9999]

/-- A worker: its channel at L, its struct at L + 1, its queue's row between there and U. -/
structure Wk (w : World) (rb L U : Nat) (has : Bool) (x : Int) (woken fresh : Bool) (f : Nat → Value) : Prop where
  lt : L + 1 < U
  row : w.rowIs (L + 1) 57 279 f
  f0 : f 0 = .int .i32 0
  f3 : f 3 = .bool woken
  f4 : f 4 = .int .u32 (bit woken)
  f5 : f 5 = .chan (some L)
  f134 : f 134 = .pointer (some ⟨rb, 0, none⟩)
  f138 : f 138 = .int .i64 0
  ch : fresh = true → w.heap[L]? = some (.chan 1 #[] false 0 0 false)
  q : (has = false ∧ f 135 = .slice none 0 0) ∨ (has = true ∧ ∃ qb cap v s4, f 135 = .slice (some ⟨qb, 0, none⟩) 1 cap ∧ L + 1 < qb ∧ qb < U ∧ w.rangeAt qb 0 (slL v s4) ∧ Reads v x)

theorem Wk.stays {w w' : World} {rb L U : Nat} {has : Bool} {x : Int} {woken fresh : Bool} {f : Nat → Value} (h : Wk w rb L U has x woken fresh f) (e : ∀ k, L ≤ k → k < U → w'.heap[k]? = w.heap[k]?) : Wk w' rb L U has x woken fresh f where
  lt := h.lt
  row := h.row.of_block (e _ (by omega) h.lt)
  f0 := h.f0
  f3 := h.f3
  f4 := h.f4
  f5 := h.f5
  f134 := h.f134
  f138 := h.f138
  ch := fun hf => (e L (Nat.le_refl _) (by have := h.lt; omega)).trans (h.ch hf)
  q := h.q.imp id fun ⟨h1, qb, cap, v, s4, a, b, c, d, r⟩ => ⟨h1, qb, cap, v, s4, a, b, c, range_far d (e qb (by omega) c), r⟩

theorem Wk.stale {w : World} {rb L U : Nat} {has : Bool} {x : Int} {woken fresh : Bool} {f : Nat → Value} (h : Wk w rb L U has x woken fresh f) : Wk w rb L U has x woken false f :=
  { h with ch := fun hf => by cases hf }

/-- Roused: woken, its channel full. -/
theorem Wk.roused {w w' : World} {rb L U : Nat} {has : Bool} {x y : Int} {woken : Bool} {f g : Nat → Value} (h : Wk w rb L U has x woken true f) (hr : Roused w w' (L + 1) rb L f g y) (hrb : rb < L) : Wk w' rb L U has x true false (wkOn f) where
  lt := h.lt
  row := hr.wk
  f0 := by simp [wkOn, h.f0]
  f3 := by simp [wkOn]
  f4 := by simp [wkOn, bit]
  f5 := by simp [wkOn, h.f5]
  f134 := by simp [wkOn, h.f134]
  f138 := by simp [wkOn, h.f138]
  ch := fun hf => by cases hf
  q := by
    rcases h.q with ⟨h1, h2⟩ | ⟨h1, qb, cap, v, s4, a, b, c, d, r⟩
    · exact .inl ⟨h1, by simp [wkOn, h2]⟩
    · exact .inr ⟨h1, qb, cap, v, s4, by simp [wkOn, a], b, c, range_far d (hr.block qb (by omega) (by omega) (by omega)), r⟩

def anyU (may : Nat → Bool) : Nat → Bool
  | 0 => false
  | i + 1 => anyU may i || may i
def cntU (may woken : Nat → Bool) : Nat → Nat
  | 0 => 0
  | i + 1 => cntU may woken i + (if may i && !woken i then 1 else 0)
theorem cntU_le (may woken : Nat → Bool) : ∀ i, cntU may woken i ≤ i
  | 0 => Nat.le_refl _
  | i + 1 => by have := cntU_le may woken i; simp only [cntU]; split <;> omega

theorem cfg_runOn {g : Nat → Value} {ve vw vg : Nat} {he hw : Bool} (h : Cfg g ve vw vg he hw) (c : Int) : Cfg (runOn g c) ve vw vg he hw :=
  ⟨by simp [runOn, h.g0], by simp [runOn, h.g1], by simp [runOn, h.g6], by simp [runOn, h.g7], by simp [runOn, h.g278], by simp [runOn, h.g289]⟩

end Go.Proofs.Ybulkbtik
