import Derived.Test.YbulkbtkoGreatFmtShare
namespace Go.Proofs.YbulkbtkoGreatFmt
open Go.RowKit Go.Maps
set_option linter.unusedVariables false
set_option linter.unusedSimpArgs false

theorem key3 : Keyed Ybaz.prog 3 := int_keyed Ybaz.underlying3
theorem zero4 (w : World) : (zeroValue 4).run Ybaz.prog w = .ok (.bool false) w := by kernel_rfl
theorem ilit_ne {a b : Int} (h : a ≠ b) : (Lit.int .i64 a) ≠ (Lit.int .i64 b) := fun e => h (by injection e)
theorem ikey (a : Int) : WideAt.IsKeyLit (.int .i64 a) := by simp [WideAt.IsKeyLit]

theorem plainElem_bool_inv' {P : Program} {e : TypeId} {v : Value} {x : Bool} {ps : List MemPlace} (he : P.underlying e = some .bool) (h : plainElem (H := Unit) P e v = some (.lit (.bool x), ps)) : v = .bool x := by
  unfold plainElem at h
  rw [he] at h
  cases v <;> simp at h
  rw [h.1]

/-- Block b is a map[int]bool of at most m entries, all true: those where S says so, c of them. -/
def SetAt (w : World) (b m : Nat) (S : Int → Bool) (c : Nat) : Prop :=
  ∃ D : DataW Unit, w.ownsMap Ybaz.prog 3 (plainElem Ybaz.prog 4) b m D ∧ (∀ j, has D (.int .i64 j) = S j) ∧ (∀ j, D.atKey (.int .i64 j) (.lit (.bool false)) = .lit (.bool (S j))) ∧ Maps.size D = c

theorem SetAt.lt {w : World} {b m c : Nat} {S : Int → Bool} (h : SetAt w b m S c) : b < w.heap.size := by
  obtain ⟨D, h, _⟩ := h
  exact h.lt
theorem SetAt.of_block {w w' : World} {b m c : Nat} {S : Int → Bool} (h : SetAt w b m S c) (e : w'.heap[b]? = w.heap[b]?) : SetAt w' b m S c := by
  obtain ⟨D, ⟨es, clock, hb, hF⟩, h2⟩ := h
  exact ⟨D, ⟨es, clock, e.trans hb, hF⟩, h2⟩
theorem SetAt.mono {w : World} {b m m' c : Nat} {S : Int → Bool} (h : SetAt w b m S c) (hm : m ≤ m') : SetAt w b m' S c := by
  obtain ⟨D, h, h2⟩ := h
  exact ⟨D, h.mono hm, h2⟩
theorem SetAt.congr {w : World} {b m c : Nat} {S S' : Int → Bool} (h : SetAt w b m S c) (e : ∀ j, S j = S' j) : SetAt w b m S' c := by
  obtain ⟨D, h, h1, h2, h3⟩ := h
  exact ⟨D, h, fun j => (h1 j).trans (e j), fun j => by rw [h2 j, e j], h3⟩
theorem SetAt.made (w : World) : SetAt (w.alloc (.map #[] 0)) w.heap.size 0 (fun _ => false) 0 :=
  ⟨.map [], World.ownsMap_made w _ _ _, fun j => by simp [has], fun j => by simp [DataW.atKey], rfl⟩

theorem SetAt.look {w : World} {b m c : Nat} {S : Int → Bool} (h : SetAt w b m S c) {j : Int} (wj : (Lit.int .i64 j).wf = true) :
    (Instr.lookup 41 (.map (some b)) (.int .i64 j) false).run Ybaz.prog w = .ok (.bool (S j)) w := by
  obtain ⟨D, h, _, h2, _⟩ := h
  obtain ⟨v, ps, hrun, hv⟩ := h.lookup key3 Ybaz.underlying41 (zero4 w) (plainElem_bool (H := Unit) Ybaz.underlying4 false) (keyOf_int_mk Ybaz.underlying3 wj)
  rw [h2 j] at hv
  refine hrun.trans ?_
  have hb : v = .bool (S j) := plainElem_bool_inv' Ybaz.underlying4 hv
  rw [hb]

theorem SetAt.len {w : World} {b m c : Nat} {S : Int → Bool} (h : SetAt w b m S c) (ty : TypeId) : (Builtin.len_ #[41] ty #[.map (some b)]).run Ybaz.prog w = .ok (.int .i64 (c : Int)) w := by
  obtain ⟨D, h, _, _, h3⟩ := h
  rw [h.len Ybaz.underlying41, h3]

/-- The map's block has turned, nothing else. -/
def MapOnly (w w' : World) (b : Nat) : Prop := w.mapTurned w' b
theorem MapOnly.size {w w' : World} {b : Nat} (h : MapOnly w w' b) : w'.heap.size = w.heap.size := by
  obtain ⟨es, clock, es', clock', hb, rfl⟩ := h
  simp [ChangeMaps.setBlock]
theorem MapOnly.block {w w' : World} {b k : Nat} (h : MapOnly w w' b) (hk : k ≠ b) : w'.heap[k]? = w.heap[k]? := by
  have hg := World.mapTurned.grown h
  by_cases c : k < w.heap.size
  · exact hg.block k c (by simp; exact hk)
  · have := h.size
    rw [Array.getElem?_eq_none (by omega), Array.getElem?_eq_none (by omega)]
theorem MapOnly.below {w w' : World} {b B : Nat} (h : MapOnly w w' b) (hB : B ≤ b) : Below B w w' :=
  have hg := World.mapTurned.grown h
  ⟨hg.os, hg.tape, hg.output, hg.size, fun k hk => h.block (by omega)⟩

theorem SetAt.put {w : World} {b m c : Nat} {S : Int → Bool} (h : SetAt w b m S c) {j : Int} (wj : (Lit.int .i64 j).wf = true) (hm : m < maxLen) :
    ∃ w', (Instr.mapUpdate 41 (.map (some b)) (.int .i64 j) (.bool true)).run Ybaz.prog w = .ok () w' ∧ SetAt w' b (m + 1) (fun k => decide (k = j) || S k) (if S j then c else c + 1) ∧ MapOnly w w' b := by
  obtain ⟨D, h, h1, h2, h3⟩ := h
  obtain ⟨w', hrun, ho, ht⟩ := h.store key3 Ybaz.underlying41 hm (keyOf_int_mk Ybaz.underlying3 wj) (plainElem_bool (H := Unit) Ybaz.underlying4 true)
  refine ⟨w', hrun, ⟨_, ho, fun k => ?_, fun k => ?_, ?_⟩, ht⟩
  · by_cases e : k = j
    · subst e; rw [has_put_same h.isMap (ikey _)]; simp
    · rw [has_put_other (ilit_ne e), h1]; simp [e]
  · by_cases e : k = j
    · subst e; rw [atKey_put_same h.isMap (ikey _)]; simp
    · rw [atKey_put_other (ilit_ne e), h2]; simp [e]
  · rw [size_put (h.tidy key3), h1, h3]

theorem SetAt.del {w : World} {b m c : Nat} {S : Int → Bool} (h : SetAt w b m S c) {j : Int} (wj : (Lit.int .i64 j).wf = true) (ty : TypeId) :
    ∃ w', (Builtin.delete_ #[41, 3] ty #[.map (some b), .int .i64 j]).run Ybaz.prog w = .ok (.tuple #[]) w' ∧ SetAt w' b m (fun k => !decide (k = j) && S k) (c - (if S j then 1 else 0)) ∧ MapOnly w w' b := by
  obtain ⟨D, h, h1, h2, h3⟩ := h
  obtain ⟨w', hrun, ho, ht⟩ := h.drop key3 Ybaz.underlying41 (keyOf_int_mk Ybaz.underlying3 wj) ty
  refine ⟨w', hrun, ⟨_, ho, fun k => ?_, fun k => ?_, ?_⟩, ht⟩
  · by_cases e : k = j
    · subst e; rw [has_del_same]; simp
    · rw [has_del_other (ilit_ne e), h1]; simp [e]
  · by_cases e : k = j
    · subst e; rw [atKey_del_same]; simp
    · rw [atKey_del_other (ilit_ne e), h2]; simp [e]
  · have := size_del (k := .int .i64 j) (h.tidy key3)
    rw [h1, h3] at this
    omega

end Go.Proofs.YbulkbtkoGreatFmt
