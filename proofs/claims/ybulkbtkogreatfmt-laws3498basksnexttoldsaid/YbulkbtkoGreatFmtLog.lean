import Derived.Test.YbulkbtkoGreatFmtAns
namespace Go.Proofs.YbulkbtkoGreatFmt
open Go.RowKit
set_option linter.unusedVariables false
set_option linter.unusedSimpArgs false

/-- A message as askNext and tell send it: kind, holder, asker, nodes. -/
def msgC (k h a : Int) (na : Option Addr) (nn nc : Nat) : Array Value := #[.int .u8 k, .int .u64 0, .int .i64 0, .int .i64 h, .int .i64 a, .int .i64 0, .int .i64 0, .int .u64 0, .slice na nn nc, .slice none 0 0, .bool false, .bool false, .bool false, .bool false, .bool false]
/-- What the log keeps of one. -/
structure LogE where
  (dest k h a : Int)
  (na : Option Addr)
  (nn nc : Nat)
def LogE.cells (e : LogE) : List Value := [.int .i64 e.dest, .int .u8 e.k, .int .u64 0, .int .i64 0, .int .i64 e.h, .int .i64 e.a, .int .i64 0, .int .i64 0, .int .u64 0, .slice e.na e.nn e.nc, .slice none 0 0, .bool false, .bool false, .bool false, .bool false, .bool false]
def logL (L : List LogE) : List Value := L.flatMap LogE.cells
theorem build71 (e : LogE) (w : World) : (Instr.build 71 #[(0, .int .i64 e.dest), (1, .agg (msgC e.k e.h e.a e.na e.nn e.nc))]).run Ybaz.prog w = .ok (.agg e.cells.toArray) w := by
  refine run_build w 71 _ _ ?_
  kernel_rfl
theorem inf71 : ∃ i z, Ybaz.prog.info? 71 = some i ∧ i.zero = some z ∧ i.size = 16 ∧ i.bytes = 128 ∧ z.cells.size = 16 := by
  have h : (Ybaz.prog.info? 71).map (fun i => (i.zero.map (fun z => z.cells.size), i.size, i.bytes)) = some (some 16, 16, 128) := by kernel_rfl
  obtain ⟨i, hi, hz⟩ := Option.map_eq_some_iff.1 h
  simp only [Prod.mk.injEq] at hz
  obtain ⟨z, hz1, hz2⟩ := Option.map_eq_some_iff.1 hz.1
  exact ⟨i, z, hi, hz1, hz.2.1, hz.2.2, hz2⟩

theorem bs71 (e : LogE) (w : World) : (Instr.buildSlice 69 1 #[(0, .agg e.cells.toArray)]).run Ybaz.prog w = .ok (.slice (some ⟨w.heap.size, 0, none⟩) 1 1) (w.alloc (.cells e.cells.toArray 71)) := by kernel_rfl
theorem wpList_buildSlice1 {P : Program} {w : World} {ops : Array Oper} {rest : List Oper} {o : Oper} {a : Act} {Q : Exit → Act → World → Prop} (hg : o.guard = Option.none) (t : TypeId) (x : Operand) (hop : o.op = Op.buildSlice t 1 #[(0, x)])
    (vx : Value) (hx : a.eval x = vx) (u : Value) (w' : World) (hrun : (Instr.buildSlice t 1 #[(0, vx)]).run P w = .ok u w')
    (hK : wpList P ops Q rest (a.put o.dst u) w') : wpList P ops Q (o :: rest) a w := by
  refine wpList_plain hg fun K' hK' => ?_
  unfold Oper.wp execOp
  simp only [hop, List.map_toArray, List.map_cons, List.map_nil, hx, Sem.run_bind, hrun, Result.andThen_ok]
  exact hK' _ _ hK

/-- The log: its variable's cell, its row. -/
structure LogAt (w : World) (lgb : Nat) (L : List LogE) (lv : Value) : Prop where
  row : w.rowIs lgb 69 1 (fun _ => lv)
  own : w.ownsRow 0 71 16 lv L.length (logL L)
  ne : lgb ∉ ob lv
theorem LogAt.fr {w w' : World} {lgb : Nat} {L : List LogE} {lv : Value} {S : List Nat} (h : LogAt w lgb L lv) (hf : Fr w w' S) (h1 : lgb ∉ S) (h2 : ∀ g ∈ ob lv, g ∉ S) : LogAt w' lgb L lv :=
  ⟨h.row.of_block (hf.block _ h.row.lt h1), own_fr h.own hf h2, h.ne⟩

set_option maxHeartbeats 4000000 in
set_option maxRecDepth 100000 in
/-- The law's 'send': it notes the message. -/
theorem send_any {w : World} {lgb : Nat} {L : List LogE} {lv : Value} (hL : LogAt w lgb L lv) (hn : L.length ≤ 5000) (e : LogE) :
    Calls Ybaz.prog 10 #[.int .i64 e.dest, .agg (msgC e.k e.h e.a e.na e.nn e.nc), .pointer (some ⟨lgb, 0, none⟩)] w fun r w' => r = .returned (.tuple #[]) ∧ ∃ lv', LogAt w' lgb (L ++ [e]) lv' ∧ Fr w w' (lgb :: ob lv) ∧ ∀ g ∈ ob lv', g ∈ ob lv ∨ w.heap.size ≤ g := by
  have c0 := hL.row.cell (show 0 < 1 by omega)
  have z0 := hL.row.frozen 0
  have hlt := hL.row.lt
  have HL := hide hL
  clear hL
  go_enter Ybaz.func10, Ybaz.ntmps10
  go_upto_region 1 with fail
  obtain ⟨wA, hwA⟩ : ∃ wA, wA = w.alloc (.cells (msgC e.k e.h e.a e.na e.nn e.nc) 37) := ⟨_, rfl⟩
  have hrange : wA.rangeAt w.heap.size 0 (msgC e.k e.h e.a e.na e.nn e.nc).toList := by rw [hwA]; exact rangeAt_new w _ 37 _ rfl
  have hfA : Fr w wA [] := by rw [hwA]; exact (Fr.refl _ _).alloc _
  have szA : Hid (wA.heap.size = w.heap.size + 1) := by show wA.heap.size = _; rw [hwA]; simp
  have LA := hide ((unhide HL).fr hfA (by simp) (by simp))
  have d0 := (unhide LA).row.cell (show 0 < 1 by omega)
  have y0 := (unhide LA).row.frozen 0
  rw [← hwA]
  have HfA := hide hfA
  clear hwA hfA c0 z0
  obtain ⟨i5, zz, hi5, hz5, hsz5, hby5, hzs5⟩ := inf71
  go_wp2_with (first
    | (guard_target = wpList _ _ _ (⟨_, Op.load 37 _, _, _, _, _⟩ :: _) _ _; go_must (refine wpList_load_mid rfl 37 _ rfl w.heap.size 0 rfl _ _ hrange Ybaz.underlying37 rfl (by kernel_rfl) ?_; try simp only [Act.put, List.setIfInBounds_toArray, List.set_cons_zero, List.set_cons_succ]))
    | (guard_target = wpList _ _ _ (⟨_, Op.build 71 _, _, _, _, _⟩ :: _) _ _; go_must (refine wpList_build2 rfl 71 0 1 _ _ rfl (.int .i64 e.dest) (.agg (msgC e.k e.h e.a e.na e.nn e.nc)) rfl rfl _ (build71 e _) ?_; try simp only [Act.put, List.setIfInBounds_toArray, List.set_cons_zero, List.set_cons_succ]))
    | (guard_target = wpList _ _ _ (⟨_, Op.buildSlice _ _ _, _, _, _, _⟩ :: _) _ _; go_must (refine wpList_buildSlice1 rfl 69 _ rfl (.agg e.cells.toArray) rfl _ _ (bs71 e _) ?_; try simp only [Act.put, List.setIfInBounds_toArray, List.set_cons_zero, List.set_cons_succ]))
    | (guard_target = wpList _ _ _ (⟨_, Op.call { callee := Callee.builtin Builtin.append, args := _, argTypes := _ }, _, _, _, _⟩ :: _) _ _; go_must (refine wpList_append_lies _ rfl _ _ 69 rfl 0 71 i5 zz 16 128 Ybaz.underlying69 hi5 hz5 hsz5 hby5 hzs5 (by omega) lv L.length (logL L) rfl (own_fr (unhide LA).own ((Fr.refl _ []).alloc _) (by simp)) ⟨wA.heap.size, 0, none⟩ 1 1 e.cells rfl rfl (fun j u hj => (by have := rangeAt_new wA e.cells.toArray 71 _ rfl j u hj; rw [Nat.zero_add] at this; rw [Addr.add_mid, Nat.zero_add]; exact this)) (fun u hu => (by simp [LogE.cells] at hu; rcases hu with h | h | h | h | h | h | h | h | h | h | h <;> subst h <;> rfl)) (by omega) (by have : maxLen = 9223372036854775807 := rfl; omega) (by omega) (Nat.zero_le _) (wA.heap.size + 1) (by simp) ?_; intro g cap w3 hown3' hgr3' hat3' hlt3'; have hown3 := hide hown3'; have hat3 := hide hat3'; have hlt3 := hide hlt3'; have hF3' : Fr wA w3 (ob lv) := ((Fr.refl _ _).alloc _).trans (.of_grown hgr3'); have d3 := hF3'.cell d0 (unhide LA).ne; have y3 : w3.frozen? ⟨lgb, 0, none⟩ = false := (World.frozen?_of_block (a := ⟨lgb, 0, none⟩) (hF3'.block _ (unhide LA).row.lt (unhide LA).ne)).trans y0; have hF3 := hide hF3'; clear hown3' hgr3' hat3' hlt3' hF3'; try simp only [Act.put, List.setIfInBounds_toArray, List.set_cons_zero, List.set_cons_succ])))
  go_end0
  have h3 := unhide hF3
  have hA := unhide LA
  have hsz := unhide szA
  have hg3 : g ∈ ob lv ∨ w.heap.size < g := by
    rcases unhide hat3 with h | h
    · left; simp [ob, h]
    · right; omega
  have hne : lgb ≠ g := by
    rcases hg3 with h | h
    · exact fun e => hA.ne (e ▸ h)
    · omega
  have hob : ob (.slice (some ⟨g, 0, none⟩) (L.length + 1) cap) = [g] := rfl
  refine ⟨rfl, .slice (some ⟨g, 0, none⟩) (L.length + 1) cap, ⟨?_, ?_, ?_⟩, ?_, fun x hx => ?_⟩
  · have r3 := hA.row.of_block (h3.block _ hA.row.lt hA.ne)
    exact (r3.set 0 _).congr fun i hi => by rw [if_pos (by omega)]
  · have e1 : logL (L ++ [e]) = logL L ++ e.cells := by simp [logL]
    rw [e1, List.length_append]
    refine own_of_block (unhide hown3) fun x hx => Below.heap_setCell _ _ _ _ ?_
    rw [hob] at hx
    simp at hx
    show x ≠ lgb
    omega
  · rw [hob]; simp; exact hne
  · exact (((unhide HfA).mono (by simp)).trans (h3.mono (fun x hx => List.mem_cons_of_mem _ hx))).set (by simp) _ _
  · rw [hob] at hx
    simp at hx
    subst hx
    rcases hg3 with h | h
    · exact .inl h
    · exact .inr (by omega)

end Go.Proofs.YbulkbtkoGreatFmt
