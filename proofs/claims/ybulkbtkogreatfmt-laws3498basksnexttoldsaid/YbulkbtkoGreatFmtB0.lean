import Derived.Test.YbulkbtkoGreatFmtB5
namespace Go.Proofs.YbulkbtkoGreatFmt
open Go.RowKit
set_option linter.unusedVariables false
set_option linter.unusedSimpArgs false

def idOf (sd : Nat → Nat) : Nat → Nat := fun i => sd i * 72057594037927936 + i % 72057594037927936
def cIn (sd : Nat → Nat) : Nat → Nat := fun i => (sd i * 7 % 256) % 5
theorem idOf_lt {sd : Nat → Nat} (h : ∀ i, sd i < 256) (i : Nat) : idOf sd i < 18446744073709551616 := by
  have := h i
  unfold idOf
  omega
theorem idOf_inj {sd : Nat → Nat} {N : Nat} (hN : N ≤ 300) (i j : Nat) (hi : i < N) (hj : j < N) (e : idOf sd i = idOf sd j) : i = j := by
  unfold idOf at e
  omega
theorem or_id (a k : Nat) (ha : a < 256) (hk : k < 300) : bits .or .u64 ((a : Int) * 72057594037927936) (k : Int) = ((a * 72057594037927936 + k % 72057594037927936 : Nat) : Int) := by
  have h := bits_or_u64_nat (a * 72057594037927936) k (by omega) (by omega)
  rw [show (((a * 72057594037927936 : Nat)) : Int) = (a : Int) * 72057594037927936 by simp] at h
  rw [h]
  have e := Nat.two_pow_add_eq_or_of_lt (i := 56) (b := k) (by omega) a
  rw [show 2 ^ 56 * a = a * 72057594037927936 by rw [Nat.mul_comm]] at e
  rw [← e]
  omega
/-- The ids and costs so far. -/
structure LI (w wq : World) (N : Nat) (id cw : Nat → Nat) (k : Nat) : Prop where
  ids : wq.rowIs w.heap.size 34 N (fun i => if i < k then .int .u64 ((id i : Nat) : Int) else .int .u64 0)
  cost : wq.rowIs (w.heap.size + 1) 51 N (fun i => if i < k then .float .f64 (cw i) else .float .f64 0)
  var : wq.cell? ⟨w.heap.size + 2, 0, none⟩ = some (.slice (some ⟨w.heap.size + 1, 0, none⟩) N N)
  bel : Below w.heap.size w wq
theorem LI.start (w : World) (c28 c29 : Array Value) (N : Nat) (id cw : Nat → Nat) (h28 : ∀ w : World, (w.alloc (.cells c28 34)).rowIs w.heap.size 34 N (fun _ => .int .u64 0)) (h29 : ∀ w : World, (w.alloc (.cells c29 51)).rowIs w.heap.size 51 N (fun _ => .float .f64 0)) :
    LI w (((w.alloc (.cells c28 34)).alloc (.cells c29 51)).alloc (.cells #[.slice (some ⟨w.heap.size + 1, 0, none⟩) N N] 29)) N id cw 0 := by
  have e1 : (w.alloc (.cells c28 34)).heap.size = w.heap.size + 1 := by simp
  have e2 : ((w.alloc (.cells c28 34)).alloc (.cells c29 51)).heap.size = w.heap.size + 2 := by simp
  have r2 := h29 (w.alloc (.cells c28 34))
  rw [e1] at r2
  refine ⟨(((h28 w).of_block (Below.heap_alloc _ _ _ (by omega))).of_block (Below.heap_alloc _ _ _ (by omega))).congr fun i hi => by simp, (r2.of_block (Below.heap_alloc _ _ _ (by omega))).congr fun i hi => by simp, ?_, (((Below.refl _ w).alloc (Nat.le_refl _) _).alloc (by omega) _).alloc (by omega) _⟩
  have h := rangeAt_new ((w.alloc (.cells c28 34)).alloc (.cells c29 51)) #[.slice (some ⟨w.heap.size + 1, 0, none⟩) N N] 29 (w.heap.size + 2) e2.symm 0 (.slice (some ⟨w.heap.size + 1, 0, none⟩) N N) rfl
  exact h
theorem LI.step {w wq : World} {N : Nat} {id cw : Nat → Nat} {k : Nat} (h : LI w wq N id cw k) : LI w ((wq.setCell ⟨w.heap.size, k, none⟩ (.int .u64 ((id k : Nat) : Int))).setCell ⟨w.heap.size + 1, k, none⟩ (.float .f64 (cw k))) N id cw (k + 1) := by
  have c1 : ∀ (A B : Nat → Value) i, (if i = k then A k else if i < k then A i else B i) = if i < k + 1 then A i else B i := fun A B i => by
    by_cases c : i = k
    · subst c; rw [if_pos rfl, if_pos (by omega)]
    · rw [if_neg c]
      by_cases c2 : i < k
      · rw [if_pos c2, if_pos (by omega)]
      · rw [if_neg c2, if_neg (by omega)]
  refine ⟨?_, ?_, ?_, (h.bel.setCell (p := ⟨w.heap.size, k, none⟩) (Nat.le_refl _) _).setCell (p := ⟨w.heap.size + 1, k, none⟩) (by show w.heap.size ≤ w.heap.size + 1; omega) _⟩
  · exact ((h.ids.set k _).of_block (Below.heap_setCell _ _ _ _ (by show w.heap.size ≠ w.heap.size + 1; omega))).congr fun i hi => c1 (fun i => .int .u64 ((id i : Nat) : Int)) (fun _ => .int .u64 0) i
  · exact ((h.cost.of_block (Below.heap_setCell _ _ _ _ (by show w.heap.size + 1 ≠ w.heap.size; omega))).set k _).congr fun i hi => c1 (fun i => .float .f64 (cw i)) (fun _ => .float .f64 0) i
  · rw [World.cell?_of_block (a := ⟨w.heap.size + 2, 0, none⟩) (Below.heap_setCell _ _ _ _ (by show w.heap.size + 2 ≠ w.heap.size + 1; omega)), World.cell?_of_block (a := ⟨w.heap.size + 2, 0, none⟩) (Below.heap_setCell _ _ _ _ (by show w.heap.size + 2 ≠ w.heap.size; omega))]
    exact h.var

set_option maxHeartbeats 4000000 in
set_option maxRecDepth 100000 in
theorem build_any {w : World} {N sdc slf mm mmc : Nat} {sd mx : Nat → Nat} {pn prc mn mgc snr bn bpc : Nat} {pv mv xn : Nat → Nat} {yc : Nat → Int} {sda mma pra mga bpa : Option Addr} (hN : N ≤ 300) (hN0 : 0 < N) (hsd : U8 w sda N sd) (hsx : ∀ i, sd i < 256) (hslf : slf < 256) (hmm : mm ≤ 300) (hma : U8 w mma mm mx) (hmx : ∀ i, mx i < 256) (hpn : pn ≤ 300) (hpr : U8 w pra pn pv) (hpv : ∀ i, pv i < 256)
    (hmn : mn ≤ 300) (hsnr : snr < 256) (hmg : U8 w mga mn mv) (hmv : ∀ i, mv i < 256) (hbn : bn ≤ 300) (hbp : Bps w bpa bn xn yc) (hxn : ∀ i, xn i < 256) (hyc : ∀ i, -128 ≤ yc i ∧ yc i ≤ 127) :
    Calls Ybaz.prog 5 #[.slice sda N sdc, .int .u8 ((slf : Nat) : Int), .slice mma mm mmc, .slice pra pn prc, .slice mga mn mgc, .int .u8 ((snr : Nat) : Int), .slice bpa bn bpc] w (BPost w) := by
  obtain ⟨c28, hc28, hm28⟩ := made28 N (by omega)
  obtain ⟨c29, hc29, hm29⟩ := made29 N (by omega)
  have Hsd := hide hsd
  have Hma := hide hma
  have Hpr := hide hpr
  have Hmg := hide hmg
  have Hbp := hide hbp
  have Hc28 := hide hc28
  have Hc29 := hide hc29
  clear hsd hma hpr hmg hbp hc28 hc29
  go_enter Ybaz.func5, Ybaz.ntmps5
  go_upto_region 4 with fail
  obtain ⟨wA, hwA⟩ : ∃ wA, wA = ((w.alloc (.cells c28 34)).alloc (.cells c29 51)).alloc (.cells #[.slice (some ⟨w.heap.size + 1, 0, none⟩) N N] 29) := ⟨_, rfl⟩
  have hst : Hid (LI w wA N (idOf sd) (fun i => floatOfInt .f64 ((cIn sd i : Nat) : Int)) 0) := by rw [hwA]; exact LI.start w c28 c29 N _ _ (unhide Hc28) (unhide Hc29)
  rw [← hwA, show w.heap.size + 1 + 1 = w.heap.size + 2 from rfl]
  clear hwA hm28 hm29
  go_upto_block 0 with fail
  go_cut [] (fun wq => Hid (LI w wq N (idOf sd) (fun i => floatOfInt .f64 ((cIn sd i : Nat) : Int)) N))
  case first =>
    go_wp2_with fail
    go_loopw [61] (fun iv wq => ∃ k : Nat, k ≤ N ∧ iv = .int .i64 (k : Int) ∧ Hid (LI w wq N (idOf sd) (fun i => floatOfInt .f64 ((cIn sd i : Nat) : Int)) k)) (fun iv _ => N - (intOf iv).toNat)
    case atStart => exact ⟨0, by omega, rfl, hst⟩
    case round =>
      obtain ⟨k, hk, rfl, hL⟩ := hrel
      by_cases hkl : k < N
      · rename World => wq
        obtain ⟨b, o, rfl, p0⟩ := (unhide Hsd).at (unhide hL).bel hkl
        have k0 : (0 : Int) ≤ (k : Int) := by omega
        have k1 : (k : Int) < (N : Int) := by omega
        have hs1 := hsx k
        have r1 := (unhide hL).ids.cell hkl
        have z1 := (unhide hL).ids.frozen k
        have r2 := (unhide hL).cost.cell hkl
        have z2 := (unhide hL).cost.frozen k
        have v2 := (unhide hL).var
        have hor : bits .or .u64 (((sd k : Nat) : Int) * 72057594037927936) ((k : Nat) : Int) = ((idOf sd k : Nat) : Int) := or_id (sd k) k hs1 (by omega)
        have e7 : ((sd k : Nat) : Int) * 7 % 256 % 5 = ((cIn sd k : Nat) : Int) := by unfold cIn; simp
        have hsto := fun w' => run_store Ybaz.prog w' ⟨w.heap.size + 1, k, none⟩ (.float .f64 (floatOfInt .f64 ((cIn sd k : Nat) : Int))) .plain rfl
        go_wp2_with fail
        exact ⟨⟨k + 1, by omega, rfl, (unhide hL).step⟩, by simp [intOf]; omega⟩
      · obtain rfl : k = N := by omega
        go_wp2_with fail
        go_meet
        exact hL
  case rest =>
    have hL := unhide hcut
    rename World => wq
    have hNet : Net wq w.heap.size (w.heap.size + 1) (w.heap.size + 2) N (idOf sd) (fun i => floatOfInt .f64 ((cIn sd i : Nat) : Int)) := ⟨hL.ids.congr fun i hi => by rw [if_pos hi], hL.cost.congr fun i hi => by rw [if_pos hi], hL.var⟩
    exact (by assumption : ∀ (a : Act) (w0 : World), Code.wp Ybaz.prog tail5 (bodyPost Ybaz.prog Ybaz.f5 (BPost w)) a w0 → _) _ _ (b_t5 (cI := fun i => ((cIn sd i : Nat) : Int)) hNet hL.bel (by intro g hg; simp only [List.mem_cons, List.not_mem_nil, or_false] at hg; omega) (by simp only [List.mem_cons, not_or, List.not_mem_nil, not_false_eq_true, List.nodup_cons]; refine ⟨⟨by omega, by omega, trivial⟩, ⟨by omega, trivial⟩, trivial, List.nodup_nil⟩) (idOf_lt hsx) (idOf_inj hN) (fun i => reads_ofInt _ (by have := hsx i; unfold cIn; omega)) hN hN0 hslf hmm (unhide Hma) hmx hpn (unhide Hpr) hpv hmn hsnr (unhide Hmg) hmv hbn (unhide Hbp) hxn hyc)


end Go.Proofs.YbulkbtkoGreatFmt
