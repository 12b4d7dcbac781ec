import Derived.Test.YbulkbtkoGreatFmtBn
import Derived.OpenShut
import Derived.Deep.Slices
namespace Go.Proofs.YbulkbtkoGreatFmt
open Go.RowKit Go.ChangeShapes Go.WideShapes Go.Deep

theorem u8_wf {x : Int} (h : (Lit.int .u8 x).wf = true) : ∃ m : Nat, x = (m : Int) ∧ m < 256 := by
  have h' : (decide ((0 : Int) ≤ x) && decide (x ≤ 255)) = true := h
  simp only [Bool.and_eq_true, decide_eq_true_eq] at h'
  exact ⟨x.toNat, by omega, by omega⟩
theorem i8_wf {x : Int} (h : (Lit.int .i8 x).wf = true) : -128 ≤ x ∧ x ≤ 127 := by
  have h' : (decide ((-128 : Int) ≤ x) && decide (x ≤ 127)) = true := h
  simp only [Bool.and_eq_true, decide_eq_true_eq] at h'
  exact h'

theorem cells76 : Ybaz.prog.cellsOf 76 = 2 := by kernel_rfl
theorem cells5 : Ybaz.prog.cellsOf 5 = 1 := by kernel_rfl
theorem cells74 : Ybaz.prog.cellsOf 74 = 1 := by kernel_rfl

theorem open_u8 {H : Type} {enc : TypeId × Value → H} {W : World} {fuel : Nat} {a : Option Addr} {len cap : Nat} {x : DataW H × List MemPlace}
    (h : DataW.trod enc Ybaz.prog W 0 (fun _ => true) true fuel 22 [.slice a len cap] = some x) :
    ∃ ps : Nat → Nat, U8 W a len ps ∧ (∀ i, ps i < 256) ∧ len ≤ maxLen := by
  rcases open_ints Ybaz.underlying22 Ybaz.underlying5 (by kernel_rfl) h with ⟨hcs, _⟩ | ⟨y, l, c, zs, hcs, _, hl, hm, hz, _, hcell, hwz⟩
  · simp at hcs
    exact ⟨fun _ => 0, .inl hcs.2.1, fun _ => by simp, by rw [hcs.2.1]; exact Nat.zero_le _⟩
  · simp at hcs
    obtain ⟨rfl, rfl, rfl⟩ := hcs
    have hz' : zs.length = cap := by simpa using hz
    by_cases h0 : 0 < len
    · obtain ⟨b, o, rfl, hc⟩ := ints_at hcell (by omega)
      refine ⟨fun i => if i < len then (zs.getD i 0).toNat else 0, .inr ⟨b, o, rfl, World.block_lt_of_cell? _ _ (hc 0 (by omega)), fun i hi => ?_⟩, fun i => ?_, Nat.le_trans hl hm⟩
      · rw [hc i (by omega)]
        obtain ⟨m, hm', _⟩ := u8_wf (hwz _ (List.getElem_mem (by omega : i < zs.length)))
        simp only [if_pos hi, List.getD, List.getElem?_eq_getElem (by omega : i < zs.length), Option.getD_some, hm']
        rfl
      · dsimp only
        split
        · obtain ⟨m, hm', hb⟩ := u8_wf (hwz _ (List.getElem_mem (by omega : i < zs.length)))
          simp only [List.getD, List.getElem?_eq_getElem (by omega : i < zs.length), Option.getD_some, hm']
          exact hb
        · omega
    · exact ⟨fun _ => 0, .inl (by omega), fun _ => by simp, Nat.le_trans hl hm⟩

set_option maxRecDepth 100000 in
theorem open_bps {H : Type} {enc : TypeId × Value → H} {W : World} {fuel : Nat} {a : Option Addr} {len cap : Nat} {x : DataW H × List MemPlace}
    (h : DataW.trod enc Ybaz.prog W 0 (fun _ => true) true fuel 23 [.slice a len cap] = some x) :
    ∃ (xn : Nat → Nat) (yc : Nat → Int), Bps W a len xn yc ∧ (∀ i, xn i < 256) ∧ (∀ i, -128 ≤ yc i ∧ yc i ≤ 127) ∧ len ≤ maxLen := by
  rcases open_slice Ybaz.underlying23 h with ⟨hcs, _⟩ | ⟨y, l, c, m, n, D, Pl, hcs, _, hl, hm, hmm, _, hx⟩
  · simp at hcs
    exact ⟨fun _ => 0, fun _ => 0, .inl hcs.2.1, fun _ => by simp, fun _ => by simp, by rw [hcs.2.1]; exact Nat.zero_le _⟩
  · simp at hcs
    obtain ⟨rfl, rfl, rfl⟩ := hcs
    simp only [if_true] at hmm
    subst hmm
    have each : ∀ i, i < len → ∃ q : Nat × Int, W.cell? (y.add (i * 2)) = some (.int .u8 (q.1 : Nat)) ∧ W.cell? (y.add (i * 2 + 1)) = some (.int .i8 q.2) ∧ q.1 < 256 ∧ -128 ≤ q.2 ∧ q.2 ≤ 127 := by
      intro i hi
      obtain ⟨cs', h1, h2⟩ := hx i (by omega)
      rw [cells76] at h1
      obtain ⟨_, hlen, hcell⟩ := World.cells?_some h1
      obtain ⟨xs, k, hk, hxy, _, hxl, hf⟩ := DataW.trod_struct Ybaz.underlying76 h2
      match xs, hxl, cs', hlen with
      | [y0, y1], _, [v0, v1], _ =>
        have g0 := hf 0 _ rfl
        have g1 := hf 1 _ rfl
        simp [cells5] at g0
        simp [cells74] at g1
        obtain ⟨n0, e0, _, q0⟩ := DataW.trod_int Ybaz.underlying5 g0
        obtain ⟨n1, e1, _, q1⟩ := DataW.trod_int Ybaz.underlying74 g1
        simp at e0 e1
        subst e0 e1
        obtain ⟨m0, rfl, b0⟩ := u8_wf q0
        have b1 := i8_wf q1
        have c0 := hcell 0 (by omega)
        have c1 := hcell 1 (by omega)
        rw [Go.Deep.add_add] at c0 c1
        exact ⟨(m0, n1), by simpa using c0, by simpa using c1, b0, b1.1, b1.2⟩
    by_cases h0 : 0 < len
    · obtain ⟨q, hq⟩ := choose_lt each
      obtain ⟨b, off, spot⟩ := y
      have hspot : spot = none := by simpa [Addr.add] using World.cell?_spot (hq 0 h0).1
      subst hspot
      refine ⟨fun i => if i < len then (q i).1 else 0, fun i => if i < len then (q i).2 else 0, .inr ⟨b, off, rfl, World.block_lt_of_cell? _ _ (hq 0 h0).1, fun i hi => ?_⟩, fun i => ?_, fun i => ?_, Nat.le_trans hl hm⟩
      · simp only [if_pos hi]
        have := hq i hi
        simp only [add_plain] at this
        exact ⟨this.1, by rw [Nat.add_assoc]; exact this.2.1⟩
      · dsimp only
        split
        · exact (hq i (by assumption)).2.2.1
        · omega
      · dsimp only
        split
        · exact (hq i (by assumption)).2.2.2
        · omega
    · exact ⟨fun _ => 0, fun _ => 0, .inl (by omega), fun _ => by simp, fun _ => by simp, Nat.le_trans hl hm⟩

end Go.Proofs.YbulkbtkoGreatFmt
