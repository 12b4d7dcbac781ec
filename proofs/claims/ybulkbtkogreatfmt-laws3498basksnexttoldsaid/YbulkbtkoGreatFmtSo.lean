import Derived.Test.YbulkbtkoGreatFmtSrt
import Derived.Test.YbulkbtkoGreatFmtA4
namespace Go.Proofs.YbulkbtkoGreatFmt
open Go.Shelf Go.RowKit Go.Lib Go.Sort
set_option linter.unusedVariables false
set_option linter.unusedSimpArgs false

theorem ltS {w : World} {b : Nat} {o : Obj} (h : w.heap[b]? = some o) : b < w.heap.size := by
  rcases Nat.lt_or_ge b w.heap.size with c | c
  · exact c
  · simp [Array.getElem?_eq_none c] at h
theorem ins66_nil (w : World) (f : Value) :
    Calls Ybaz.prog 66 #[.slice none 0 0, .int .i64 0, .int .i64 0, f] w fun e w' => e = .returned (.tuple #[]) ∧ w' = w := by
  go_enter Ybaz.func66, Ybaz.ntmps66
  go_wp2_with fail
  refine wp_loop_rounds 1 ?_
  rw [rounds_succ]
  go_wp2_with fail
  go_end0
  exact ⟨rfl, rfl⟩
theorem pdq55_nil (w : World) (f : Value) (l : Int) :
    Calls Ybaz.prog 55 #[.slice none 0 0, .int .i64 0, .int .i64 0, .int .i64 l, f] w fun e w' => e = .returned (.tuple #[]) ∧ w' = w := by
  go_enter Ybaz.func55, Ybaz.ntmps55
  go_wp2_with fail
  refine wp_loop_rounds 1 ?_
  rw [rounds_succ]
  go_wp2_with (go_at_call 66; refine (ins66_nil _ _).mono ?_; rintro e w' ⟨rfl, rfl⟩)
  exact bodyPost_ret (results_none (by rfl) _ _ _) rfl ⟨rfl, rfl⟩
theorem sort37_nil (w : World) (f : Value) :
    Calls Ybaz.prog 37 #[.slice none 0 0, f] w fun e w' => e = .returned (.tuple #[]) ∧ w' = w := by
  go_enter Ybaz.func37, Ybaz.ntmps37
  go_wp2_with (first
    | (go_at_call 56; refine (bitsLen_any 0 _ (by omega) (by omega)).mono ?_; rintro e w' ⟨rfl, rfl⟩)
    | (go_at_call 55; refine (pdq55_nil _ _ _).mono ?_; rintro e w' ⟨rfl, rfl⟩))
  go_end0
  exact ⟨rfl, rfl⟩

theorem sw_block {α : Type} [Inhabited α] (enc : α → List Value) (k : Nat) (w : World) (blk off n : Nat) (dk : Array α) (os : Array Obj) {b : Nat} (h1 : b ≠ blk) (h2 : b < w.heap.size) : (sortWorldK enc k w blk off n dk os).heap[b]? = w.heap[b]? := by
  show ((w.heap.modify blk _) ++ os)[b]? = _
  rw [Array.getElem?_append_left (by simpa using h2), Array.getElem?_modify, if_neg (fun e => h1 e.symm)]
theorem sw_own {α : Type} [Inhabited α] (enc : α → List Value) (k : Nat) (w : World) (blk off n : Nat) (dk : Array α) (os : Array Obj) {cur : Array Value} {e : TypeId} {fz : Nat × Nat} (h : w.heap[blk]? = some (.cells cur e fz)) : (sortWorldK enc k w blk off n dk os).heap[blk]? = some (.cells (putCells id off (flatK enc k dk) cur) e fz) := by
  have hb := ltS h
  show ((w.heap.modify blk (onCells (putCells id off (flatK enc k dk)))) ++ os)[blk]? = _
  rw [Array.getElem?_append_left (by simpa using hb), Array.getElem?_modify, if_pos rfl, h]
  rfl

theorem isAgg65 (w : World) : (isAgg 65).run Ybaz.prog w = .ok true w := by go_simp
theorem sizeOf65 (w : World) : (Go.sizeOf 65).run Ybaz.prog w = .ok 3 w := by go_simp

theorem hds_get (cw id : Nat → Nat) (s : Nat) (l : List Nat) (t : Nat) (ht : t < l.length * 3) : ∃ j, l[t / 3]? = some j ∧ (hdsL cw id s l)[t]? = some ((hdL cw id s j)[t % 3]!) := by
  have h1 : t / 3 < l.length := by omega
  refine ⟨l[t / 3], List.getElem?_eq_getElem h1, ?_⟩
  have h3 : t % 3 < (hdL cw id s l[t / 3]).length := by show t % 3 < 3; omega
  have h := hd_at (cw := cw) (id := id) (s := s) l (t / 3) _ (List.getElem?_eq_getElem h1) (t % 3) _ (List.getElem?_eq_getElem h3)
  rw [show t / 3 * 3 + t % 3 = t by omega] at h
  rw [h]
  rw [getElem!_pos (hdL cw id s l[t / 3]) (t % 3) h3]

set_option maxHeartbeats 1000000 in
/-- 'slices.SortFunc(js.nodes, ..)': a permutation of the nodes heard of. -/
theorem AK.sort {w wr : World} {P : APar} {F rr : Nat → Value} {nl : List Nat} {askS awS : Int → Bool} {na nw m pb : Nat} (h : AK w wr P F rr nl askS awS na nw m []) (lg : LogAt wr P.lgb [] P.lv0) (hlv : P.lv0 = .slice none 0 0) (cp : wr.cell? ⟨pb, 0, none⟩ = some (.pointer (some ⟨P.X.nb, 0, none⟩))) (hpf : pb ∉ ob P.v) :
    Calls Ybaz.prog 37 #[P.v, .func (.func 38) #[] #[.pointer (some ⟨pb, 0, none⟩)]] wr fun e w' => e = .returned (.tuple #[]) ∧ ∃ nl', nl'.Perm nl ∧ AK w w' P F rr nl' askS awS na nw m [] ∧ LogAt w' P.lgb [] P.lv0 ∧ w'.cell? ⟨pb, 0, none⟩ = some (.pointer (some ⟨P.X.nb, 0, none⟩)) := by
  have hown := h.own
  rcases hown.2 with ⟨hv, hn⟩ | ⟨g, cap, cur, hv, _, hg, hc, hm, hs, ht⟩
  · rw [hv]
    refine (sort37_nil wr _).mono ?_
    rintro e w' ⟨rfl, rfl⟩
    exact ⟨rfl, nl, List.Perm.refl _, h, lg, cp⟩
  · have hob : ob P.v = [g] := by rw [hv]; rfl
    have hN0 : 0 < P.X.N := by have := h.st.hs; omega
    letI : Inhabited (Nd P.X.N) := ⟨⟨0, hN0⟩⟩
    have hgl : g < wr.heap.size := ltS hg
    obtain ⟨d, hd⟩ : ∃ d : Array (Nd P.X.N), d.toList.map (·.1) = nl := ⟨(nl.attach.map fun x => (⟨x.1, h.nlt x.1 x.2⟩ : Nd P.X.N)).toArray, by simp⟩
    have hds : d.size = nl.length := by rw [← hd]; simp
    have hpg : pb ≠ g := fun e => hpf (by rw [hob]; simp [e])
    have far := fun x hx => h.st.hv x hx
    have hng : ∀ b ∈ [P.X.nb, P.X.jb, P.X.qb, P.X.ib, P.X.cb, P.X.vb, P.ab, P.zb, P.lgb], b ≠ g := fun b hb e => h.st.hv g (by rw [hob]; simp) (e ▸ hb)
    have hH : HoldsK (encN P.X.cw P.X.id P.X.s P.X.N) 3 wr g 0 d := by
      intro t htt
      rw [size_flatK, hds] at htt
      obtain ⟨j, hj, hget⟩ := hds_get P.X.cw P.X.id P.X.s nl t htt
      rw [get_flatK _ _ _ t (by rw [hds]; exact htt)]
      have hdj : d[t / 3]!.1 = j := by
        have h1 : t / 3 < d.size := by omega
        rw [getElem!_pos d _ h1]
        have h2 := congrArg (fun l => l[t / 3]?) hd
        simp only [List.getElem?_map] at h2
        rw [hj] at h2
        simp [h1] at h2
        exact h2
      rw [← ht, List.getElem?_take, if_pos (by omega)] at hget
      refine ⟨?_, by simp [World.frozen?, hg]⟩
      rw [Nat.zero_add]
      simp only [World.cell?, hg]
      show cur[t]? = some (id _)
      have : cur[t]? = some ((hdL P.X.cw P.X.id P.X.s j)[t % 3]!) := by simpa using hget
      rw [this]
      show _ = some ((encN P.X.cw P.X.id P.X.s P.X.N d[t / 3]!)[t % 3]!)
      unfold encN
      rw [hdj]
    have eg : ∀ args w, (callFunc 38 args).run Ybaz.prog w = .ok (.enter 38 args) w := enters_of Ybaz.func38 (by kernel_rfl) rfl
    have hcmp : CmpLays Ybaz.prog 38 #[.pointer (some ⟨pb, 0, none⟩)] (encN P.X.cw P.X.id P.X.s P.X.N) 3 (cfN P.X.cI P.X.id P.X.N) g 0 d.size wr := fun n os dk _ x y => by
      have hw : ∀ {a : Addr} {u : Value}, wr.cell? a = some u → a.block ≠ g → (sortWorldK (encN P.X.cw P.X.id P.X.s P.X.N) 3 wr g 0 n dk os).cell? a = some u := fun {a u} e1 e2 => (World.cell?_of_block (sw_block _ _ _ _ _ _ _ _ e2 (World.block_lt_of_cell? _ _ e1))).trans e1
      exact cmp38 h.st.hcw (hw cp hpg) (hw ((h.node.row.cell (by omega)).trans (by simp [ndF, h.node.r1])) (hng _ (by simp))) (fun j hj => hw (h.net.ids.cell hj) (hng _ (by simp))) x y
    have hcon := AnyQ.slices_SortFunc Ybaz.sortHd 3 isAgg65 sizeOf65 (encN P.X.cw P.X.id P.X.s P.X.N) (fun _ => rfl) (fun x u hu => by simp [encN, hdL] at hu; rcases hu with rfl | rfl | rfl <;> rfl) (cfN P.X.cI P.X.id P.X.N) (swoN P.X.cI P.X.id P.X.N) 38 #[.pointer (some ⟨pb, 0, none⟩)] g 0 cap d wr eg hcmp hH hgl (by have := h.len; omega)
    change Calls Ybaz.prog 37 _ _ _ at hcon
    rw [hv, ← hds]
    refine hcon.mono ?_
    rintro e w' ⟨rfl, d', n, os, ⟨hz, _, hperm⟩, _, rfl⟩
    have hb : ∀ {b : Nat}, b ≠ g → b < wr.heap.size → (sortWorldK (encN P.X.cw P.X.id P.X.s P.X.N) 3 wr g 0 n d' os).heap[b]? = wr.heap[b]? := fun {b} h1 h2 => sw_block _ _ _ _ _ _ _ _ h1 h2
    have hp2 : (d'.toList.map (·.1)).Perm nl := by
      rw [← hd]
      refine List.Perm.map _ ?_
      have e1 : d'.extract 0 d.size = d' := by rw [← hz]; simp
      have e2 : d.extract 0 d.size = d := by simp
      rw [e1, e2] at hperm
      exact hperm
    have hl2 : (d'.toList.map (·.1)).length = nl.length := hp2.length_eq
    have hF : Fr wr (sortWorldK (encN P.X.cw P.X.id P.X.s P.X.N) 3 wr g 0 n d' os) [g] := ⟨rfl, rfl, rfl, by show _ ≤ ((wr.heap.modify g _) ++ os).size; simp, fun b h1 h2 => hb (by simpa using h2) h1⟩
    have hl0 : ob P.lv0 = [] := by rw [hlv]; rfl
    refine ⟨rfl, d'.toList.map (·.1), hp2, ?_, lg.fr hF (by simp; exact hng _ (by simp)) (by rw [hl0]; simp), (World.cell?_of_block (a := ⟨pb, 0, none⟩) (hb hpg (World.block_lt_of_cell? _ _ cp))).trans cp⟩
    exact {
      st := h.st
      node := ⟨h.node.row.of_block (hb (hng _ (by simp)) h.node.row.lt), h.node.r0, h.node.r1, h.node.r2⟩
      jrow := h.jrow.of_block (hb (hng _ (by simp)) h.jrow.lt)
      asked := h.asked.of_block (hb (hng _ (by simp)) h.asked.lt)
      awaited := h.awaited.of_block (hb (hng _ (by simp)) h.awaited.lt)
      wanted := h.wanted.of_block (hb (hng _ (by simp)) h.wanted.lt)
      own := by
        rw [hl2, hv]
        refine ⟨by rw [hd_len, hl2]; omega, .inr ⟨g, cap, _, rfl, Nat.zero_le _, sw_own _ _ _ _ _ _ _ _ hg, hc, hm, by simp [putCells, hs], ?_⟩⟩
        apply List.ext_getElem?
        intro t
        by_cases htt : t < nl.length * 3
        · rw [List.getElem?_take, if_pos htt]
          obtain ⟨j, hj, hget⟩ := hds_get P.X.cw P.X.id P.X.s (d'.toList.map (·.1)) t (by rw [hl2]; exact htt)
          rw [hget]
          have hcs : t < cur.size := by rw [hs]; have := Nat.mul_le_mul_right 3 hc; omega
          have hdz : d'.size = nl.length := by rw [hz, hds]
          have e1 : (putCells id 0 (flatK (encN P.X.cw P.X.id P.X.s P.X.N) 3 d') cur).toList[t]? = some ((flatK (encN P.X.cw P.X.id P.X.s P.X.N) 3 d')[t]!) := by
            rw [Array.getElem?_toList]
            unfold putCells
            rw [Array.getElem?_mapIdx]
            simp [hcs, hdz, htt]
          rw [e1, get_flatK _ _ _ t (by rw [hdz]; exact htt)]
          have hdj : d'[t / 3]!.1 = j := by
            have h1 : t / 3 < d'.size := by omega
            rw [getElem!_pos d' _ h1]
            simp [h1] at hj
            exact hj
          unfold encN
          rw [hdj]
        · rw [List.getElem?_eq_none (by rw [List.length_take]; omega), List.getElem?_eq_none (by rw [hd_len, hl2]; omega)]
      net := h.net.of_blocks (hb (hng _ (by simp)) h.net.ids.lt) (hb (hng _ (by simp)) h.net.cost.lt) (hb (hng _ (by simp)) (World.block_lt_of_cell? _ _ h.net.var))
      log := ⟨P.lv0, lg.fr hF (by simp; exact hng _ (by simp)) (by rw [hl0]; simp), by rw [hl0]; simp⟩
      fr := h.fr.trans (hF.mono (by rw [hob]; simp))
      nlt := fun j hj => by
        obtain ⟨x, _, rfl⟩ := List.mem_map.1 hj
        exact x.2
      len := by rw [hl2]; exact h.len }

end Go.Proofs.YbulkbtkoGreatFmt
