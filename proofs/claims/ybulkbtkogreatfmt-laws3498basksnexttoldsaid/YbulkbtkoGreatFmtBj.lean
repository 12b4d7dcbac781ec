import Derived.Test.YbulkbtkoGreatFmtB17
import Derived.Test.YbulkbtkoGreatFmtExp0
namespace Go.Proofs.YbulkbtkoGreatFmt
open Go.RowKit
set_option linter.unusedVariables false
set_option linter.unusedSimpArgs false

/-- A new join search: contact and top -1, the table as it stood, three maps. -/
@[irreducible] noncomputable def jsArr (T : Nat → Int) (q z a : Nat) : Array Value :=
  (Ybaz.prog.built 47 [(1, .int .i64 (-1)), (2, .agg (tabL T).toArray), (3, .map (some q)), (4, .int .i64 (-1)), (6, .map (some z)), (8, .map (some a))]).getD #[]
theorem build47 (T : Nat → Int) (q z a : Nat) (w : World) :
    (Instr.build 47 #[(1, .int .i64 (-1)), (2, .agg (tabL T).toArray), (3, .map (some q)), (4, .int .i64 (-1)), (6, .map (some z)), (8, .map (some a))]).run Ybaz.prog w = .ok (.agg (jsArr T q z a)) w := by
  have h : Ybaz.prog.built 47 [(1, .int .i64 (-1)), (2, .agg (tabL T).toArray), (3, .map (some q)), (4, .int .i64 (-1)), (6, .map (some z)), (8, .map (some a))] = some (jsArr T q z a) := by kernel_rfl
  exact run_build w 47 _ _ h
section
variable (T : Nat → Int) (q z a : Nat)
theorem js_size : (jsArr T q z a).size = 267 := by kernel_rfl
theorem js0 : (jsArr T q z a)[0]? = some (.slice none 0 0) := by kernel_rfl
theorem js260 : (jsArr T q z a)[260]? = some (.map (some q)) := by kernel_rfl
theorem js263 : (jsArr T q z a)[263]? = some (.map (some z)) := by kernel_rfl
theorem js261 : (jsArr T q z a)[261]? = some (.int .i64 (-1)) := by kernel_rfl
theorem js262 : (jsArr T q z a)[262]? = some (.int .i64 0) := by kernel_rfl
theorem js_tab : (List.range 256).map (fun p => (jsArr T q z a)[4 + p]?) = (List.range 256).map (fun p => some (.int .i64 (T p))) := by kernel_rfl
theorem js_at (p : Nat) (hp : p < 256) : (jsArr T q z a)[4 + p]? = some (.int .i64 (T p)) := by
  have h := congrArg (fun l => l[p]?) (js_tab T q z a)
  simp only [List.getElem?_map, List.getElem?_range hp, Option.map_some] at h
  exact Option.some.inj h
end
/-- The search's cells ahead of the nodes heard of. -/
noncomputable def jfOf (T : Nat → Int) (q z a hb ab : Nat) : Nat → Value := putF (putF (fun k => (jsArr T q z a)[k]?.getD undef) 1 (.map (some hb))) 2 (.map (some ab))

/-- The nodes heard of ahead of the message. -/
def pp (N : Nat) (pv : Nat → Nat) : Nat → PS
  | 0 => ⟨fun _ => false, [], false, fun _ => false⟩
  | k + 1 => (pp N pv k).hear (pv k % N)
theorem pp_len (N : Nat) (pv : Nat → Nat) : ∀ k, (pp N pv k).fresh.length ≤ k
  | 0 => by simp [pp]
  | k + 1 => by
    have h := pp_len N pv k
    have := hear_len (pp N pv k) (pv k % N)
    simp only [pp]
    omega

theorem hear_nd {p : PS} {j N : Nat} (hj : j < N) (h1 : p.fresh.Nodup) (h2 : ∀ i ∈ p.fresh, i < N ∧ p.seen i = true) : (p.hear j).fresh.Nodup ∧ ∀ i ∈ (p.hear j).fresh, i < N ∧ (p.hear j).seen i = true := by
  unfold PS.hear
  split
  · exact ⟨h1, h2⟩
  · rename_i hs
    refine ⟨?_, fun i hi => ?_⟩
    · refine List.nodup_append.2 ⟨h1, by simp, ?_⟩
      intro a ha b hb e
      simp at hb
      subst hb e
      exact hs (h2 a ha).2
    · rcases List.mem_append.1 hi with h | h
      · exact ⟨(h2 i h).1, by simp [setB, (h2 i h).2]⟩
      · simp at h
        subst h
        exact ⟨hj, by simp [setB]⟩
theorem pp_nd (N : Nat) (hN : 0 < N) (pv : Nat → Nat) : ∀ k, (pp N pv k).fresh.Nodup ∧ ∀ i ∈ (pp N pv k).fresh, i < N ∧ (pp N pv k).seen i = true
  | 0 => ⟨by simp [pp], by simp [pp]⟩
  | k + 1 => hear_nd (Nat.mod_lt _ hN) (pp_nd N hN pv k).1 (pp_nd N hN pv k).2

structure LP (wA wq : World) (N s : Nat) (id cw : Nat → Nat) (jb hb sb : Nat) (jf0 : Nat → Value) (p : PS) (v : Value) (k : Nat) : Prop where
  jrow : wq.rowIs jb 47 267 (putF jf0 0 v)
  heard : SetAt wq hb k (up p.seen) (cntB p.seen N)
  seen : wq.rowIs sb 4 N (fun i => .bool (p.seen i))
  own : wq.ownsRow 0 65 3 v p.fresh.length (hdsL cw id s p.fresh)
  fr : Fr wA wq [jb, hb, sb]
  fz : ∀ g ∈ ob v, wA.heap.size ≤ g
  lt : jb < wA.heap.size ∧ hb < wA.heap.size ∧ sb < wA.heap.size
  nd : jb ≠ hb ∧ jb ≠ sb ∧ hb ≠ sb
  len : p.fresh.length ≤ k

theorem LP.more {wA wq : World} {N s : Nat} {id cw : Nat → Nat} {jb hb sb : Nat} {jf0 : Nat → Value} {p : PS} {v : Value} {k : Nat} (h : LP wA wq N s id cw jb hb sb jf0 p v k) : LP wA wq N s id cw jb hb sb jf0 p v (k + 1) :=
  { h with heard := h.heard.mono (by omega), len := by have := h.len; omega }

theorem LP.step {wA wq w3 w4 : World} {N s : Nat} {id cw : Nat → Nat} {jb hb sb : Nat} {jf0 : Nat → Value} {p : PS} {v : Value} {k j g cap : Nat} (h : LP wA wq N s id cw jb hb sb jf0 p v k) (hj : j < N) (hs : p.seen j = false)
    (hset : SetAt w3 hb (k + 1) (fun i => decide (i = (j : Int)) || up p.seen i) (if up p.seen (j : Int) then cntB p.seen N else cntB p.seen N + 1)) (hmo : MapOnly (wq.setCell ⟨sb, j, none⟩ (.bool true)) w3 hb)
    (hF : Fr w3 w4 (ob v)) (hg : g ∈ ob v ∨ w3.heap.size ≤ g) (hown : w4.ownsRow 0 65 3 (.slice (some ⟨g, 0, none⟩) (p.fresh.length + 1) cap) (p.fresh.length + 1) (hdsL cw id s p.fresh ++ hdL cw id s j)) :
    LP wA (w4.setCell ⟨jb, 0, none⟩ (.slice (some ⟨g, 0, none⟩) (p.fresh.length + 1) cap)) N s id cw jb hb sb jf0 (p.hear j) (.slice (some ⟨g, 0, none⟩) (p.fresh.length + 1) cap) (k + 1) := by
  have e : p.hear j = { p with seen := setB p.seen j, fresh := p.fresh ++ [j] } := by simp [PS.hear, hs]
  obtain ⟨l1, l2, l3⟩ := h.lt
  obtain ⟨n1, n2, n3⟩ := h.nd
  have hsz := h.fr.size
  have hv : ∀ x ∈ ob v, x ≠ jb ∧ x ≠ hb ∧ x ≠ sb := fun x hx => by have := h.fz x hx; omega
  have hgA : wA.heap.size ≤ g := by
    rcases hg with h1 | h1
    · exact h.fz g h1
    · have : w3.heap.size = wq.heap.size := by rw [hmo.size]; simp
      omega
  have f1 : Fr wq (wq.setCell ⟨sb, j, none⟩ (.bool true)) [jb, hb, sb] := (Fr.refl _ _).set (by simp) _ _
  have f2 : Fr (wq.setCell ⟨sb, j, none⟩ (.bool true)) w3 [jb, hb, sb] := .of_map hmo (by simp)
  have f3 : Fr wA w3 [jb, hb, sb] := (h.fr.trans f1).trans f2
  have f4 : Fr wA w4 [jb, hb, sb] := f3.wide hF (fun x hx => .inr (h.fz x hx))
  have hgj : g ≠ jb := by omega
  rw [e]
  refine { jrow := ?_, heard := ?_, seen := ?_, own := ?_, fr := f4.set (by simp) _ _, fz := ?_, lt := h.lt, nd := h.nd, len := ?_ }
  · have r1 : (wq.setCell ⟨sb, j, none⟩ (.bool true)).rowIs jb 47 267 (putF jf0 0 v) := h.jrow.of_block (Below.heap_setCell _ _ _ _ n2)
    have r2 : w3.rowIs jb 47 267 (putF jf0 0 v) := r1.of_block (hmo.block n1)
    have r3 : w4.rowIs jb 47 267 (putF jf0 0 v) := r2.of_block (hF.block _ r2.lt (fun hm => (hv _ hm).1 rfl))
    refine (r3.set 0 _).congr fun i hi => ?_
    simp only [putF]
    by_cases c : i = 0
    · rw [if_pos c, if_pos c]
    · rw [if_neg c, if_neg c, if_neg c]
  · have h1 := hset.congr (fun i => up_set p.seen j i)
    have e2 : (if up p.seen (j : Int) = true then cntB p.seen N else cntB p.seen N + 1) = cntB (setB p.seen j) N := by
      rw [up_nat, hs, cntB_set hs _ hj]; simp
    rw [e2] at h1
    have h2 := h1.of_block (hF.block _ h1.lt (fun hm => (hv _ hm).2.1 rfl))
    exact h2.of_block (Below.heap_setCell _ _ _ _ (Ne.symm n1))
  · have r1 := bool_set (j := j) h.seen
    have r2 := r1.of_block (hmo.block (Ne.symm n3))
    have r3 := r2.of_block (hF.block _ r2.lt (fun hm => (hv _ hm).2.2 rfl))
    exact r3.of_block (Below.heap_setCell _ _ _ _ (Ne.symm n2))
  · have e3 : hdsL cw id s (p.fresh ++ [j]) = hdsL cw id s p.fresh ++ hdL cw id s j := by simp [hdsL]
    show World.ownsRow _ 0 65 3 _ (p.fresh ++ [j]).length (hdsL cw id s (p.fresh ++ [j]))
    rw [e3, List.length_append]
    refine own_of_block hown fun x hx => Below.heap_setCell _ _ _ _ ?_
    have : x = g := by simpa [ob, Value.ownBlock] using hx
    show x ≠ jb
    omega
  · intro x hx
    have : x = g := by simpa [ob, Value.ownBlock] using hx
    omega
  · have := h.len; simp; omega

/-- Behind the first two loops. -/
structure BA (w wr : World) (ib cb vb mb lb N mn mc : Nat) (id cw ms : Nat → Nat) : Prop where
  net : Net wr ib cb vb N id cw
  mown : wr.ownsRow 0 3 1 (.slice (some ⟨mb, 0, none⟩) mn mc) mn (intsL ((List.range mn).map ms))
  inl : wr.rowIs lb 4 N (fun i => .bool (decide (i ∈ (List.range mn).map ms)))
  bel : Below w.heap.size w wr
  low : ∀ g ∈ [ib, cb, vb, lb], w.heap.size ≤ g
  nd : [ib, cb, vb, lb].Nodup

end Go.Proofs.YbulkbtkoGreatFmt
