import Derived.Test.YbulkbtqmCmp
namespace Go.Proofs.Ybulkbtqm
open Go.RowKit
set_option linter.unusedVariables false

/-- Cell c of slot i. -/
def slotCell (g sh : Nat → Nat) (rm : Nat → Bool) (T : Nat → TD) (i : Nat) : Nat → Value
  | 19 => .int .u8 (g i)
  | 20 => .int .i32 0
  | 21 => .int .i32 (2 * i : Nat)
  | 22 => .int .i32 2
  | 23 => .int .i32 2
  | 24 => .int .u64 1
  | 25 => .bool (rm i)
  | 26 => .int .u64 (sh i)
  | 27 => .int .u64 0
  | 28 => .int .i32 (T i).l
  | 29 => .int .i32 (T i).r
  | 30 => .int .i64 (T i).i
  | 31 => .int .i64 (T i).v
  | 32 => .int .u64 (T i).x
  | 33 => .int .i32 (-1)
  | 34 => .int .u32 0
  | 35 => .bool true
  | _ => .int .u8 0
def slotF (g sh : Nat → Nat) (rm : Nat → Bool) (T : Nat → TD) (k : Nat) : Value := slotCell g sh rm T (k / 36) (k % 36)

/-- The store in memory, but for its 'order'. -/
structure Mem (w : World) (st SB CB BB n cap : Nat) (g sh : Nat → Nat) (rm : Nat → Bool) (T : Nat → TD) : Prop where
  slots : w.cell? ⟨st, 1, none⟩ = some (.slice (some ⟨SB, 0, none⟩) n n)
  chunks : w.cell? ⟨st, 6, none⟩ = some (.slice (some ⟨CB, 0, none⟩) 1 1)
  chunk : w.cell? ⟨CB, 0, none⟩ = some (.slice (some ⟨BB, 0, none⟩) (2 * n) cap)
  b0 : ∀ i, i < n → w.cell? ⟨BB, 2 * i, none⟩ = some (.int .u8 (kb0 i))
  b1 : ∀ i, i < n → w.cell? ⟨BB, 2 * i + 1, none⟩ = some (.int .u8 (kb1 i))
  row : w.rowIs SB 40 (n * 36) (slotF g sh rm T)
  capge : 2 * n ≤ cap
  caple : cap ≤ maxLen

theorem cell_stays {w w' : World} (hB : Below w.heap.size w w') {a : Addr} {v : Value} (h : w.cell? a = some v) : w'.cell? a = some v :=
  (hB.cell (World.block_lt_of_cell? _ _ h)).trans h

theorem Mem.later {w w' : World} {st SB CB BB n cap : Nat} {g sh : Nat → Nat} {rm : Nat → Bool} {T : Nat → TD} (h : Mem w st SB CB BB n cap g sh rm T) (hB : Below w.heap.size w w') : Mem w' st SB CB BB n cap g sh rm T :=
  ⟨cell_stays hB h.slots, cell_stays hB h.chunks, cell_stays hB h.chunk, fun i hi => cell_stays hB (h.b0 i hi), fun i hi => cell_stays hB (h.b1 i hi), h.row.of_block (hB.block _ h.row.lt), h.capge, h.caple⟩

theorem Mem.cell {w : World} {st SB CB BB n cap : Nat} {g sh : Nat → Nat} {rm : Nat → Bool} {T : Nat → TD} (h : Mem w st SB CB BB n cap g sh rm T) {i : Nat} (hi : i < n) (c : Nat) (hc : c < 36) :
    w.cell? ⟨SB, i * 36 + c, none⟩ = some (slotCell g sh rm T i c) := by
  rw [h.row.cell (by omega)]
  unfold slotF
  rw [show (i * 36 + c) / 36 = i by omega, show (i * 36 + c) % 36 = c by omega]

theorem Mem.cell0 {w : World} {st SB CB BB n cap : Nat} {g sh : Nat → Nat} {rm : Nat → Bool} {T : Nat → TD} (h : Mem w st SB CB BB n cap g sh rm T) {i : Nat} (hi : i < n) :
    w.cell? ⟨SB, i * 36, none⟩ = some (.int .u8 0) := h.cell hi 0 (by omega)

theorem Mem.ids {w : World} {st SB CB BB n cap : Nat} {g sh : Nat → Nat} {rm : Nat → Bool} {T : Nat → TD} (h : Mem w st SB CB BB n cap g sh rm T) {i : Nat} (hi : i < n) :
    w.rangeAt SB (i * 36) (idList (g i)) := by
  intro j v hj
  have hl : j < 20 := by
    have := (List.getElem?_eq_some_iff.1 hj).1
    simpa [idList] using this
  rw [h.cell hi j (by omega), ← hj]
  match j, hl with
  | 0, _ => rfl
  | 1, _ => rfl
  | 2, _ => rfl
  | 3, _ => rfl
  | 4, _ => rfl
  | 5, _ => rfl
  | 6, _ => rfl
  | 7, _ => rfl
  | 8, _ => rfl
  | 9, _ => rfl
  | 10, _ => rfl
  | 11, _ => rfl
  | 12, _ => rfl
  | 13, _ => rfl
  | 14, _ => rfl
  | 15, _ => rfl
  | 16, _ => rfl
  | 17, _ => rfl
  | 18, _ => rfl
  | 19, _ => rfl
  | k + 20, hk => exact absurd hk (by omega)

section
variable {w : World} {st SB CB BB n cap : Nat} {g sh : Nat → Nat} {rm : Nat → Bool} {T : Nat → TD}

set_option maxRecDepth 100000 in
theorem sums_none (st : Nat) (w : World) :
    Calls Yba.prog 11 #[.pointer (some ⟨st, 0, none⟩), .int .i32 (-1)] w fun e w' => e = .returned (.agg #[.int .i64 0, .int .i64 0, .int .u64 0]) ∧ Below w.heap.size w w' := by
  go_enter Yba.func11, Yba.ntmps11
  go_wp2
  refine bodyPost_ret (v := .agg #[.int .i64 0, .int .i64 0, .int .u64 0]) (by simp [results, Yba.results11, go_sem]) rfl ⟨rfl, ?_⟩
  exact (Below.refl _ _).alloc (Nat.le_refl _) _

set_option maxRecDepth 100000 in
theorem sums_some (hM : Mem w st SB CB BB n cap g sh rm T) (hn : n ≤ 600) (i : Nat) (hi : i < n) :
    Calls Yba.prog 11 #[.pointer (some ⟨st, 0, none⟩), .int .i32 i] w fun e w' => e = .returned (.agg #[.int .i64 (T i).i, .int .i64 (T i).v, .int .u64 (T i).x]) ∧ Below w.heap.size w w' := by
  have c1 := hM.slots
  have q0 := hM.cell hi 30 (by omega)
  have q1 := hM.cell hi 31 (by omega)
  have q2 := hM.cell hi 32 (by omega)
  simp only [slotCell] at q0 q1 q2
  have hM := hide hM
  have b1 := World.block_lt_of_cell? _ _ c1
  have b2 := World.block_lt_of_cell? _ _ q0
  go_enter Yba.func11, Yba.ntmps11
  go_wp2
  refine bodyPost_ret (v := .agg #[.int .i64 (T i).i, .int .i64 (T i).v, .int .u64 (T i).x]) (by simp [results, Yba.results11, go_sem]) rfl ⟨rfl, ?_⟩
  exact (Below.refl _ _).alloc (Nat.le_refl _) _

set_option maxRecDepth 100000 in
theorem own_any (hM : Mem w st SB CB BB n cap g sh rm T) (hn : n ≤ 600) (i : Nat) (hi : i < n) :
    Calls Yba.prog 12 #[.pointer (some ⟨st, 0, none⟩), .int .i32 i] w fun e w' => e = .returned (.agg #[.int .i64 1, .int .i64 (if rm i then 0 else 1), .int .u64 (sh i)]) ∧ Below w.heap.size w w' := by
  have c1 := hM.slots
  have q0 := hM.cell hi 25 (by omega)
  have q1 := hM.cell hi 26 (by omega)
  simp only [slotCell] at q0 q1
  have hM := hide hM
  have b1 := World.block_lt_of_cell? _ _ c1
  have b2 := World.block_lt_of_cell? _ _ q0
  cases hr : rm i
  · rw [hr] at q0
    have hr := hide hr
    go_enter Yba.func12, Yba.ntmps12
    go_wp2
    refine bodyPost_ret (v := .agg #[.int .i64 1, .int .i64 1, .int .u64 (sh i)]) (by simp [results, Yba.results12, go_sem]) rfl ⟨rfl, ?_⟩
    exact (Below.refl _ _).alloc (Nat.le_refl _) _
  · rw [hr] at q0
    have hr := hide hr
    go_enter Yba.func12, Yba.ntmps12
    go_wp2
    refine bodyPost_ret (v := .agg #[.int .i64 1, .int .i64 0, .int .u64 (sh i)]) (by simp [results, Yba.results12, go_sem]) rfl ⟨rfl, ?_⟩
    exact (Below.refl _ _).alloc (Nat.le_refl _) _

end

set_option maxRecDepth 100000 in
theorem plus_any (a b c d x y : Nat) (w : World) (ha' : a ≤ 1000) (hb' : b ≤ 1000) (hc' : c ≤ 1000) (hd' : d ≤ 1000) (hx : x < 18446744073709551616) (hy : y < 18446744073709551616) :
    Calls Yba.prog 10 #[.agg #[.int .i64 a, .int .i64 b, .int .u64 x], .agg #[.int .i64 c, .int .i64 d, .int .u64 y]] w fun e w' => e = .returned (.agg #[.int .i64 ((a + c : Nat) : Int), .int .i64 ((b + d : Nat) : Int), .int .u64 ((x ^^^ y : Nat) : Int)]) ∧ Below w.heap.size w w' := by
  have hxy := hide (bits_xor_u64_nat x y hx hy)
  go_enter Yba.func10, Yba.ntmps10
  go_wp2
  rw [unhide hxy]
  refine bodyPost_ret (v := .agg #[.int .i64 ((a + c : Nat) : Int), .int .i64 ((b + d : Nat) : Int), .int .u64 ((x ^^^ y : Nat) : Int)]) (by simp [results, Yba.results10, go_sem]) rfl ⟨rfl, ?_⟩
  exact (((Below.refl _ _).alloc (Nat.le_refl _) _).alloc (by simp) _).alloc (by simp; omega) _

set_option maxRecDepth 100000 in
theorem key_any (i : Nat) (w : World) (h1 : i < 600) :
    Calls Yba.prog 6 #[.int .i64 i] w fun e w' => e = .returned (.string (keyStr i)) ∧ Below w.heap.size w w' := by
  have hcv : ∀ g : Nat, g = w.heap.size → (convert 23 9 (.slice (some ⟨g, 0, none⟩) 2 2)).run Yba.prog (w.alloc (.cells #[.int .u8 (97 + (i : Int) / 26), .int .u8 (97 + (i : Int) % 26)] 5)) = .ok (.string (keyStr i)) (w.alloc (.cells #[.int .u8 (97 + (i : Int) / 26), .int .u8 (97 + (i : Int) % 26)] 5)) := fun g hg => by
    refine run_convert_bytes_arg _ 23 5 Yba.underlying23 Yba.underlying5 g 0 2 2 [(kb0 i : Int), (kb1 i : Int)] rfl (fun j hj => ?_) 9 Yba.underlying9
    subst hg
    match j, hj with
    | 0, _ => go_simp; simp [kb0]
    | 1, _ => go_simp; simp [kb1]
  have hcv := hcv w.heap.size rfl
  go_enter Yba.func6, Yba.ntmps6
  go_wp2
  go_ret
  exact ⟨rfl, (Below.refl _ _).alloc (Nat.le_refl _) _⟩

end Go.Proofs.Ybulkbtqm
