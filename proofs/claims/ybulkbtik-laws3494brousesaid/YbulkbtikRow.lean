import Derived.Test.YbulkbtikLawC
import Derived.OpenShut
import Derived.Deep.Slices
namespace Go.Proofs.Ybulkbtik
open Go.RowKit Go.ChangeShapes Go.WideShapes Go.Deep

theorem u8_wf {x : Int} (h : (Lit.int .u8 x).wf = true) : ∃ m : Nat, x = (m : Int) ∧ m ≤ 255 := by
  have h' : (decide ((0 : Int) ≤ x) && decide (x ≤ 255)) = true := h
  simp only [Bool.and_eq_true, decide_eq_true_eq] at h'
  exact ⟨x.toNat, by omega, by omega⟩
theorem i16_wf {x : Int} (h : (Lit.int .i16 x).wf = true) : -32768 ≤ x ∧ x ≤ 32767 := by
  have h' : (decide ((-32768 : Int) ≤ x) && decide (x ≤ 32767)) = true := h
  simp only [Bool.and_eq_true, decide_eq_true_eq] at h'
  exact h'

theorem cells108 : Yba.prog.cellsOf 108 = 3 := by kernel_rfl
theorem cells22 : Yba.prog.cellsOf 22 = 1 := by kernel_rfl
theorem cells4 : Yba.prog.cellsOf 4 = 1 := by kernel_rfl

set_option maxRecDepth 100000 in
theorem open_ws {H : Type} {enc : TypeId × Value → H} {W : World} {fuel : Nat} {a : Option Addr} {len cap : Nat} {x : DataW H × List MemPlace}
    (h : DataW.trod enc Yba.prog W 0 (fun _ => true) true fuel 75 [.slice a len cap] = some x) :
    ∃ (has woken : Nat → Bool) (xs : Nat → Int), Ws W a len has woken xs ∧ (∀ i, -32768 ≤ xs i ∧ xs i ≤ 32767) ∧ len ≤ maxLen := by
  rcases open_slice Yba.underlying75 h with ⟨hcs, _⟩ | ⟨y, l, c, m, n, D, Pl, hcs, _, hl, hm, hmm, _, hx⟩
  · simp at hcs
    exact ⟨fun _ => false, fun _ => false, fun _ => 0, .inl hcs.2.1, fun _ => by simp, by rw [hcs.2.1]; exact Nat.zero_le _⟩
  · simp at hcs
    obtain ⟨rfl, rfl, rfl⟩ := hcs
    simp only [if_true] at hmm
    subst hmm
    have each : ∀ i, i < len → ∃ q : Bool × Int × Bool, W.cell? (y.add (i * 3)) = some (.bool q.1) ∧ W.cell? (y.add (i * 3 + 1)) = some (.int .i16 q.2.1) ∧ W.cell? (y.add (i * 3 + 2)) = some (.bool q.2.2) ∧ (-32768 ≤ q.2.1 ∧ q.2.1 ≤ 32767) := by
      intro i hi
      obtain ⟨cs', h1, h2⟩ := hx i (by omega)
      rw [cells108] at h1
      obtain ⟨_, hlen, hcell⟩ := World.cells?_some h1
      obtain ⟨xs, k, hk, hxy, _, hxl, hf⟩ := DataW.trod_struct Yba.underlying108 h2
      match xs, hxl, cs', hlen with
      | [y0, y1, y2], _, [v0, v1, v2], _ =>
        have g0 := hf 0 _ rfl
        have g1 := hf 1 _ rfl
        have g2 := hf 2 _ rfl
        simp [cells4] at g0
        simp [cells22] at g1
        simp [cells4] at g2
        obtain ⟨n0, e0, _⟩ := DataW.trod_bool Yba.underlying4 g0
        obtain ⟨n1, e1, _, q1⟩ := DataW.trod_int Yba.underlying22 g1
        obtain ⟨n2, e2, _⟩ := DataW.trod_bool Yba.underlying4 g2
        simp at e0 e1 e2
        subst e0 e1 e2
        have c0 := hcell 0 (by omega)
        have c1 := hcell 1 (by omega)
        have c2 := hcell 2 (by omega)
        rw [Go.Deep.add_add] at c0 c1 c2
        exact ⟨(n0, n1, n2), by simpa using c0, by simpa using c1, by simpa using c2, i16_wf q1⟩
    by_cases h0 : 0 < len
    · obtain ⟨q, hq⟩ := choose_lt each
      obtain ⟨b, off, spot⟩ := y
      have hspot : spot = none := by simpa [Addr.add] using World.cell?_spot (hq 0 h0).1
      subst hspot
      refine ⟨fun i => (q i).1, fun i => (q i).2.2, fun i => if i < len then (q i).2.1 else 0, .inr ⟨b, off, rfl, fun i hi => ?_⟩, fun i => ?_, Nat.le_trans hl hm⟩
      · simp only [if_pos hi]
        have := hq i hi
        simp only [add_plain] at this
        exact ⟨this.1, by rw [Nat.add_assoc]; exact this.2.1, by rw [Nat.add_assoc]; exact this.2.2.1⟩
      · dsimp only
        split
        · exact (hq i (by assumption)).2.2.2
        · omega
    · exact ⟨fun _ => false, fun _ => false, fun _ => 0, .inl (by omega), fun _ => by simp, Nat.le_trans hl hm⟩

end Go.Proofs.Ybulkbtik
