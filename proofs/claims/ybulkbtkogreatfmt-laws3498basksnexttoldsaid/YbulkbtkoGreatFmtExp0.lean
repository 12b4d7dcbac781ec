import Derived.Test.YbulkbtkoGreatFmtHear
namespace Go.Proofs.YbulkbtkoGreatFmt
open Go.RowKit
set_option linter.unusedVariables false
set_option linter.unusedSimpArgs false

/-- The law's own record, as far as the expected table reads it. -/
structure WS (w : World) (wsb ib cb lb N s : Nat) (id cw : Nat → Nat) (inL : Nat → Bool) : Prop where
  c2 : w.cell? ⟨wsb, 2, none⟩ = some (.slice (some ⟨ib, 0, none⟩) N N)
  c3 : w.cell? ⟨wsb, 3, none⟩ = some (.slice (some ⟨cb, 0, none⟩) N N)
  c4 : w.cell? ⟨wsb, 4, none⟩ = some (.int .i64 (s : Int))
  c6 : w.cell? ⟨wsb, 6, none⟩ = some (.slice (some ⟨lb, 0, none⟩) N N)
  ids : w.rowIs ib 34 N (fun i => .int .u64 ((id i : Nat) : Int))
  cost : w.rowIs cb 51 N (fun i => .float .f64 (cw i))
  inl : w.rowIs lb 4 N (fun i => .bool (inL i))
theorem WS.below {w w' : World} {wsb ib cb lb N s : Nat} {id cw : Nat → Nat} {inL : Nat → Bool} (h : WS w wsb ib cb lb N s id cw inL) (k : Below w.heap.size w w') : WS w' wsb ib cb lb N s id cw inL :=
  ⟨cell_stays k h.c2, cell_stays k h.c3, cell_stays k h.c4, cell_stays k h.c6, h.ids.of_block (k.block _ h.ids.lt), h.cost.of_block (k.block _ h.cost.lt), h.inl.of_block (k.block _ h.inl.lt)⟩

def tabL (T : Nat → Int) : List Value := (List.range 256).map fun p => .int .i64 (T p)
theorem tabL_len (T : Nat → Int) : (tabL T).length = 256 := by simp [tabL]
theorem tabL_one (T : Nat → Int) : (tabL T).toArray.all (·.oneCell') = true := all_oneCell_toArray fun v hv => by
  obtain ⟨p, _, rfl⟩ := List.mem_map.1 hv
  rfl
theorem z45_get {k : Nat} (hk : k < 256) : z45[k]?.getD undef = .int .i64 0 := by
  unfold z45
  rw [List.getElem?_toArray, List.getElem?_replicate, if_pos hk]
  rfl

/-- The table in the making: its row, the result's cells, no elder block turned. -/
structure XL (w wr : World) (rb xb : Nat) (T : Nat → Int) : Prop where
  row : wr.rowIs xb 45 256 (fun k => .int .i64 (T k))
  res : ∃ f, wr.rowIs rb 45 256 f
  bel : Below w.heap.size w wr
  ne : rb ≠ xb
  ge : w.heap.size ≤ xb
  geR : w.heap.size ≤ rb
theorem XL.put {w wr : World} {rb xb : Nat} {T T' : Nat → Int} (h : XL w wr rb xb T) {p o : Nat} (ho : o = p) {v : Int} (e : ∀ q, putI T p v q = T' q) : XL w (wr.setCell ⟨xb, o, none⟩ (.int .i64 v)) rb xb T' := by
  subst ho
  refine ⟨(h.row.set o _).congr fun k hk => ?_, (by obtain ⟨f, hf⟩ := h.res; exact ⟨f, hf.of_block (Below.heap_setCell _ _ _ _ h.ne)⟩), h.bel.setCell (p := ⟨xb, o, none⟩) h.ge _, h.ne, h.ge, h.geR⟩
  rw [← e k]
  simp only [putI]
  by_cases c : k = o
  · rw [if_pos c, if_pos c]
  · rw [if_neg c, if_neg c]
theorem XL.same {w wr w' : World} {rb xb : Nat} {T : Nat → Int} (h : XL w wr rb xb T) (k : Same wr w') : XL w w' rb xb T :=
  ⟨h.row.of_block (k.block _), (by obtain ⟨f, hf⟩ := h.res; exact ⟨f, hf.of_block (k.block _)⟩), h.bel.trans (k.below _), h.ne, h.ge, h.geR⟩
theorem XL.cell {w wr : World} {rb xb : Nat} {T : Nat → Int} (h : XL w wr rb xb T) {p o : Nat} (hp : p < 256) (ho : o = p) : wr.cell? ⟨xb, o, none⟩ = some (.int .i64 (T p)) := by
  subst ho
  exact h.row.cell hp
theorem XL.start (w : World) : XL w ((w.alloc (.cells z45 45)).alloc (.cells z45 45)) w.heap.size (w.heap.size + 1) (fun _ => 0) := by
  refine ⟨?_, ?_, ((Below.refl _ w).alloc (Nat.le_refl _) _).alloc (by simp) _, by omega, by omega, Nat.le_refl _⟩
  · have h := row_new (w.alloc (.cells z45 45)) z45 45 256 z45_size
    have e : (w.alloc (.cells z45 45)).heap.size = w.heap.size + 1 := by simp
    rw [e] at h
    exact h.congr fun k hk => z45_get hk
  · exact ⟨_, (row_new w z45 45 256 z45_size).of_block (Below.heap_alloc _ _ _ (by simp))⟩

theorem Spec.slot {cI : Nat → Int} {id : Nat → Nat} {s N : Nat} {l : List Nat} {T : Nat → Int} (h : Spec cI id s l T) (hid : ∀ i, id i < 18446744073709551616) (hl : ∀ j ∈ l, j < N) {j : Nat} (hne : id s ≠ id j) : T (slotOf id s j) = -1 ∨ ∃ m : Nat, m < N ∧ T (slotOf id s j) = (m : Int) := by
  by_cases hc : ∃ k ∈ l, k ≠ s ∧ slotOf id s k = slotOf id s j
  · obtain ⟨k, hk, hks, hkp⟩ := hc
    obtain ⟨m, hm, _, _, hT, _⟩ := h.yes k hk hks
    rw [hkp] at hT
    exact .inr ⟨m, hl m hm, hT⟩
  · left
    rw [h.no _ fun k hk hks e => hc ⟨k, hk, hks, e⟩, tab0_slot (hid s) (hid j) hne]

theorem filter_succ (f : Nat → Bool) (j : Nat) : (List.range (j + 1)).filter f = (List.range j).filter f ++ (if f j then [j] else []) := by
  rw [List.range_succ, List.filter_append]
  congr 1
  cases h : f j <;> simp [h]

/-- What holds ahead of round j. -/
structure XA (w wr : World) (rb xb s : Nat) (cI : Nat → Int) (id : Nat → Nat) (inL : Nat → Bool) (j : Nat) (T : Nat → Int) : Prop where
  xl : XL w wr rb xb T
  spec : Spec cI id s ((List.range j).filter inL) T

theorem XA.skip {w wr : World} {rb xb s : Nat} {cI : Nat → Int} {id : Nat → Nat} {inL : Nat → Bool} {j : Nat} {T : Nat → Int} (h : XA w wr rb xb s cI id inL j T) (hf : inL j = false) : XA w wr rb xb s cI id inL (j + 1) T := by
  refine ⟨h.xl, ?_⟩
  rw [filter_succ, hf]
  simpa using h.spec
theorem XA.learn {N : Nat} {w wr w' : World} {rb xb s : Nat} {cI : Nat → Int} {id : Nat → Nat} {inL : Nat → Bool} {j : Nat} {T : Nat → Int} (h : XA w wr rb xb s cI id inL j T) (hid : ∀ i, id i < 18446744073709551616) (hinj : ∀ i j, i < N → j < N → id i = id j → i = j) (hs : s < N) (hj : j < N) (hf : inL j = true) {T' : Nat → Int} (hT : learnT cI id s T j = T') (hx : XL w w' rb xb T') : XA w w' rb xb s cI id inL (j + 1) T' := by
  refine ⟨hx, ?_⟩
  rw [filter_succ, hf, ← hT]
  refine h.spec.step hid hinj (fun k hk => ?_) hs j hj
  simp only [List.mem_filter, List.mem_range] at hk
  omega

theorem takes_none {cI : Nat → Int} {id : Nat → Nat} {s j : Nat} {T : Nat → Int} (hj : j ≠ s) (h : T (slotOf id s j) = -1) : takes cI id s T j = true := by simp [takes, hj, h]
theorem takes_some {cI : Nat → Int} {id : Nat → Nat} {s j m : Nat} {T : Nat → Int} (hj : j ≠ s) (h : T (slotOf id s j) = (m : Int)) : takes cI id s T j = bef cI id j m := by
  have hm1 : ¬ ((m : Int) = -1) := by omega
  unfold takes
  rw [h, Int.toNat_natCast]
  simp [hj, hm1]
theorem learn_yes {cI : Nat → Int} {id : Nat → Nat} {s j : Nat} {T : Nat → Int} (h : takes cI id s T j = true) : learnT cI id s T j = putI T (slotOf id s j) (j : Int) := by simp [learnT, h]
theorem learn_no {cI : Nat → Int} {id : Nat → Nat} {s j : Nat} {T : Nat → Int} (h : takes cI id s T j = false) : learnT cI id s T j = T := by simp [learnT, h]

def sndSeqE : Code → Code | .seq _ b => b | c => c
/-- What is left of the body behind its third statement: taken out of the loaded function, not typed. -/
noncomputable def etail3 : Code := sndSeqE (sndSeqE (sndSeqE (Ybaz.f9.body.getD .skip)))
theorem tab_range {w : World} {b : Nat} {T : Nat → Int} (h : w.rowIs b 45 256 (fun k => .int .i64 (T k))) : w.rangeAt b 0 (tabL T) := by
  intro j v hj
  unfold tabL at hj
  rw [List.getElem?_map] at hj
  by_cases hjl : j < 256
  · rw [List.getElem?_range hjl] at hj
    simp only [Option.map_some, Option.some.injEq] at hj
    rw [Nat.zero_add, h.cell hjl, hj]
  · rw [List.getElem?_eq_none (by simp; omega)] at hj
    cases hj
theorem tab_stored {w : World} {b : Nat} {T : Nat → Int} {f : Nat → Value} (h : w.rowIs b 45 256 f) : (w.setCells b 0 (tabL T)).rangeAt b 0 (tabL T) := by
  refine tab_range ((row_setCells (tabL T) 0 h).congr fun k hk => ?_)
  rw [if_pos (by rw [tabL_len]; omega)]
  unfold tabL
  rw [List.getElem?_map, List.getElem?_range (by omega)]
  rfl

end Go.Proofs.YbulkbtkoGreatFmt
