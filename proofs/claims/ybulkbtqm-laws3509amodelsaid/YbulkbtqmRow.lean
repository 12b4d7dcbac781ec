import Derived.Test.YbulkbtqmEnd
import Derived.OpenShut
import Derived.Deep.Slices
namespace Go.Proofs.Ybulkbtqm
open Go.RowKit Go.ChangeShapes Go.WideShapes Go.Deep

theorem u8_wf {x : Int} (h : (Lit.int .u8 x).wf = true) : ∃ m : Nat, x = (m : Int) ∧ m ≤ 255 := by
  have h' : (decide ((0 : Int) ≤ x) && decide (x ≤ 255)) = true := h
  simp only [Bool.and_eq_true, decide_eq_true_eq] at h'
  exact ⟨x.toNat, by omega, by omega⟩
theorem u64_wf {x : Int} (h : (Lit.int .u64 x).wf = true) : ∃ m : Nat, x = (m : Int) ∧ m < 18446744073709551616 := by
  have h' : (decide ((0 : Int) ≤ x) && decide (x ≤ 18446744073709551615)) = true := h
  simp only [Bool.and_eq_true, decide_eq_true_eq] at h'
  exact ⟨x.toNat, by omega, by omega⟩

theorem cells27 : Yba.prog.cellsOf 27 = 3 := by kernel_rfl
theorem cells5 : Yba.prog.cellsOf 5 = 1 := by kernel_rfl
theorem cells25 : Yba.prog.cellsOf 25 = 1 := by kernel_rfl
theorem cells4 : Yba.prog.cellsOf 4 = 1 := by kernel_rfl

theorem open_items {H : Type} {enc : TypeId × Value → H} {W : World} {fuel : Nat} {a : Option Addr} {len cap : Nat} {x : DataW H × List MemPlace}
    (h : DataW.trod enc Yba.prog W 0 (fun _ => true) true fuel 22 [.slice a len cap] = some x) :
    ∃ (st sh : Nat → Nat) (rm : Nat → Bool), Items W a len st sh rm ∧ (∀ i, st i ≤ 255) ∧ (∀ i, sh i < 18446744073709551616) ∧ len ≤ maxLen := by
  rcases open_slice Yba.underlying22 h with ⟨hcs, _⟩ | ⟨y, l, c, m, n, D, Pl, hcs, _, hl, hm, hmm, _, hx⟩
  · simp at hcs
    exact ⟨fun _ => 0, fun _ => 0, fun _ => false, .inl hcs.2.1, fun _ => by simp, fun _ => by simp, by rw [hcs.2.1]; exact Nat.zero_le _⟩
  · simp at hcs
    obtain ⟨rfl, rfl, rfl⟩ := hcs
    simp only [if_true] at hmm
    subst hmm
    have each : ∀ i, i < len → ∃ q : Nat × Nat × Bool, W.cell? (y.add (i * 3)) = some (.int .u8 (q.1 : Nat)) ∧ W.cell? (y.add (i * 3 + 1)) = some (.int .u64 (q.2.1 : Nat)) ∧ W.cell? (y.add (i * 3 + 2)) = some (.bool q.2.2) ∧ q.1 ≤ 255 ∧ q.2.1 < 18446744073709551616 := by
      intro i hi
      obtain ⟨cs', h1, h2⟩ := hx i (by omega)
      rw [cells27] at h1
      obtain ⟨_, hlen, hcell⟩ := World.cells?_some h1
      obtain ⟨xs, k, hk, hxy, _, hxl, hf⟩ := DataW.trod_struct Yba.underlying27 h2
      match xs, hxl, cs', hlen with
      | [y0, y1, y2], _, [v0, v1, v2], _ =>
        have g0 := hf 0 _ rfl
        have g1 := hf 1 _ rfl
        have g2 := hf 2 _ rfl
        simp [cells5] at g0
        simp [cells25] at g1
        simp [cells4] at g2
        obtain ⟨n0, e0, _, q0⟩ := DataW.trod_int Yba.underlying5 g0
        obtain ⟨n1, e1, _, q1⟩ := DataW.trod_int Yba.underlying25 g1
        obtain ⟨n2, e2, _⟩ := DataW.trod_bool Yba.underlying4 g2
        simp at e0 e1 e2
        subst e0 e1 e2
        obtain ⟨m0, rfl, b0⟩ := u8_wf q0
        obtain ⟨m1, rfl, b1⟩ := u64_wf q1
        have c0 := hcell 0 (by omega)
        have c1 := hcell 1 (by omega)
        have c2 := hcell 2 (by omega)
        rw [Go.Deep.add_add] at c0 c1 c2
        exact ⟨(m0, m1, n2), by simpa using c0, by simpa using c1, by simpa using c2, b0, b1⟩
    by_cases h0 : 0 < len
    · obtain ⟨q, hq⟩ := choose_lt each
      obtain ⟨b, off, spot⟩ := y
      have hspot : spot = none := by simpa [Addr.add] using World.cell?_spot (hq 0 h0).1
      subst hspot
      refine ⟨fun i => if i < len then (q i).1 else 0, fun i => if i < len then (q i).2.1 else 0, fun i => (q i).2.2, .inr ⟨b, off, rfl, fun i hi => ?_⟩, fun i => ?_, fun i => ?_, Nat.le_trans hl hm⟩
      · simp only [if_pos hi]
        have := hq i hi
        simp only [add_plain] at this
        exact ⟨this.1, by rw [Nat.add_assoc]; exact this.2.1, by rw [Nat.add_assoc]; exact this.2.2.1⟩
      · dsimp only
        split
        · exact (hq i (by assumption)).2.2.2.1
        · omega
      · dsimp only
        split
        · exact (hq i (by assumption)).2.2.2.2
        · omega
    · exact ⟨fun _ => 0, fun _ => 0, fun _ => false, .inl (by omega), fun _ => by simp, fun _ => by simp, Nat.le_trans hl hm⟩

theorem open_picks {H : Type} {enc : TypeId × Value → H} {W : World} {fuel : Nat} {a : Option Addr} {len cap : Nat} {x : DataW H × List MemPlace}
    (h : DataW.trod enc Yba.prog W 0 (fun _ => true) true fuel 23 [.slice a len cap] = some x) :
    ∃ ps : Nat → Nat, PRow W W.heap.size a len ps ∧ (∀ i, ps i ≤ 255) ∧ len ≤ maxLen := by
  rcases open_ints Yba.underlying23 Yba.underlying5 (by kernel_rfl) h with ⟨hcs, _⟩ | ⟨y, l, c, zs, hcs, _, hl, hm, hz, _, hcell, hwz⟩
  · simp at hcs
    exact ⟨fun _ => 0,   .inl hcs.2.1, fun _ => by simp, by rw [hcs.2.1]; exact Nat.zero_le _⟩
  · simp at hcs
    obtain ⟨rfl, rfl, rfl⟩ := hcs
    have hz' : zs.length = cap := by simpa using hz
    by_cases h0 : 0 < len
    · obtain ⟨b, o, rfl, hc⟩ := ints_at hcell (by omega)
      refine ⟨fun i => if i < len then (zs.getD i 0).toNat else 0, .inr ⟨b, o, rfl, World.block_lt_of_cell? _ _ (hc 0 (by omega)), fun i hi => ?_⟩, fun i => ?_, Nat.le_trans hl hm⟩
      · rw [hc i (by omega)]
        obtain ⟨m, hm', _⟩ := u8_wf (hwz _ (List.getElem_mem (by omega : i < zs.length)))
        simp only [if_pos hi, List.getD, List.getElem?_eq_getElem (by omega : i < zs.length), Option.getD_some, hm']
        rfl
      · dsimp only
        split
        · obtain ⟨m, hm', hb⟩ := u8_wf (hwz _ (List.getElem_mem (by omega : i < zs.length)))
          simp only [List.getD, List.getElem?_eq_getElem (by omega : i < zs.length), Option.getD_some, hm']
          exact hb
        · omega
    · exact ⟨fun _ => 0, .inl (by omega), fun _ => by simp, Nat.le_trans hl hm⟩

end Go.Proofs.Ybulkbtqm
