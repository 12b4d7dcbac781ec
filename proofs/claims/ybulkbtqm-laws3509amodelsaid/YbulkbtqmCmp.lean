import Derived.Test.YbulkbtqmLeaf
import Derived.Laws.BytesArg
namespace Go.Proofs.Ybulkbtqm
open Go.RowKit

/-! the two-letter keys -/
def kb0 (i : Nat) : Nat := 97 + i / 26
def kb1 (i : Nat) : Nat := 97 + i % 26
def keyStr (i : Nat) : ByteArray := strOfNums [(kb0 i : Int), (kb1 i : Int)]
def keyLe (i : Nat) (mk : ByteArray) : Bool := Op.bytesLess (keyStr i).toList mk.toList || ((keyStr i).toList == mk.toList)

theorem toList_eq (s : ByteArray) : s.toList = s.data.toList := ByteArray.toList_eq s
theorem key_list (i : Nat) : (keyStr i).toList = [UInt8.ofNat (kb0 i), UInt8.ofNat (kb1 i)] := by
  rw [toList_eq]; simp [keyStr, strOfNums]
theorem ofNat_lt {a b : Nat} (ha : a < 256) (hb : b < 256) : (UInt8.ofNat a < UInt8.ofNat b) ↔ a < b := by
  rw [UInt8.lt_iff_toNat_lt]; simp; omega
theorem le_two (a b : UInt8) : ∀ l : List UInt8, (Op.bytesLess [a, b] l || ([a, b] == l)) = match l with
    | [] => false
    | [x] => decide (a < x)
    | x :: y :: _ => decide (a < x) || (a == x && (decide (b < y) || b == y))
  | [] => by simp [Op.bytesLess]
  | [x] => by simp [Op.bytesLess]
  | x :: y :: [] => by
    simp [Op.bytesLess]
    cases h : (a == x) <;> simp_all
  | x :: y :: z :: r => by simp [Op.bytesLess]

theorem keyLe_mono (i j : Nat) (mk : ByteArray) (h : i ≤ j) (hj : j < 600) (hle : keyLe j mk = true) : keyLe i mk = true := by
  unfold keyLe at hle ⊢
  rw [key_list, le_two] at hle ⊢
  generalize mk.toList = l at hle ⊢
  have a1 : kb0 i ≤ kb0 j := by unfold kb0; omega
  have a2 : kb0 i = kb0 j → kb1 i ≤ kb1 j := by unfold kb0 kb1; omega
  have b1 : kb0 j < 256 := by unfold kb0; omega
  have b2 : kb1 j < 256 := by unfold kb1; omega
  have b3 : kb1 i < 256 := by unfold kb1; omega
  generalize kb0 i = p at *
  generalize kb0 j = q at *
  generalize kb1 i = r at *
  generalize kb1 j = s at *
  match l, hle with
  | [x], hle =>
    simp only [decide_eq_true_eq, UInt8.lt_iff_toNat_lt] at hle ⊢
    simp at hle ⊢; omega
  | x :: y :: t, hle =>
    simp only [Bool.or_eq_true, Bool.and_eq_true, decide_eq_true_eq, beq_iff_eq, UInt8.lt_iff_toNat_lt, ← UInt8.toNat_inj] at hle ⊢
    simp at hle ⊢; omega

/-- Whether item i is at or before the mark. -/
def inB (g : Nat → Nat) (mg : Nat) (mk : ByteArray) (i : Nat) : Bool :=
  if g i < mg then true else if g i = mg then (mk.toList == [] || keyLe i mk) else false

theorem inB_mono (g : Nat → Nat) (hg : ∀ i j, i ≤ j → g i ≤ g j) (mg : Nat) (mk : ByteArray) (i j : Nat) (h : i ≤ j) (hj : j < 600) (hin : inB g mg mk j = true) : inB g mg mk i = true := by
  have := hg i j h
  unfold inB at hin ⊢
  by_cases c1 : g i < mg
  · simp [c1]
  · by_cases c2 : g j < mg
    · omega
    · rw [if_neg c2] at hin
      by_cases c3 : g j = mg
      · rw [if_pos c3] at hin
        rw [if_neg c1, if_pos (by omega)]
        simp only [Bool.or_eq_true] at hin ⊢
        exact hin.imp id (keyLe_mono i j mk h hj)
      · rw [if_neg c3] at hin; cases hin

/-! bytes.Compare of two ids -/
def cmpI (g h : Nat) : Int := if g < h then -1 else if h < g then 1 else 0
def idBytes (x : UInt8) : List UInt8 := [0, 0, 0, 0, 0, 0, 0, 0, 0, 0, 0, 0, 0, 0, 0, 0, 0, 0, 0, x]

theorem run_loadBytes (w : World) (b : Nat) : ∀ (l : List UInt8) (o : Nat) (acc : ByteArray), (∀ j (hj : j < l.length), w.cell? ⟨b, o + j, none⟩ = some (.int .u8 (l[j].toNat : Int))) →
    (Extern.Bytes.loadBytes ⟨b, o, none⟩ l.length acc).run Yba.prog w = .ok ⟨acc.data ++ l.toArray⟩ w
  | [], o, acc, _ => by simp [Extern.Bytes.loadBytes]
  | x :: l, o, acc, h => by
    have h0 := h 0 (by simp)
    have ih := run_loadBytes w b l (o + 1) (acc.push x) (fun j hj => by
      have := h (j + 1) (by simpa using hj)
      rw [show o + 1 + j = o + (j + 1) from by omega]; simpa using this)
    simp only [List.length_cons, Extern.Bytes.loadBytes, Sem.run_bind]
    rw [run_load]
    simp at h0
    simp [h0, Addr.add_mid]
    rw [ih]
    simp [ByteArray.push]

theorem cmp_ids (x y : UInt8) : Extern.BytealgCompare.cmp ⟨(idBytes x).toArray⟩ ⟨(idBytes y).toArray⟩ = if x < y then -1 else if y < x then 1 else 0 := by
  by_cases h : x = y
  · subst h
    unfold Extern.BytealgCompare.cmp
    rw [List.find?_eq_none.2 (by simp)]
    simp
  · have e : (List.range 20).find? (fun i => (ByteArray.mk (idBytes x).toArray)[i]! != (ByteArray.mk (idBytes y).toArray)[i]!) = some 19 := by
      rw [List.find?_range_eq_some]
      refine ⟨?_, by simp, fun j hj => ?_⟩
      · show (x != y) = true
        simpa using h
      · match j, hj with
      | 0, _ => rfl
      | 1, _ => rfl
      | 2, _ => rfl
      | 3, _ => rfl
      | 4, _ => rfl
      | 5, _ => rfl
      | 6, _ => rfl
      | 7, _ => rfl
      | 8, _ => rfl
      | 9, _ => rfl
      | 10, _ => rfl
      | 11, _ => rfl
      | 12, _ => rfl
      | 13, _ => rfl
      | 14, _ => rfl
      | 15, _ => rfl
      | 16, _ => rfl
      | 17, _ => rfl
      | 18, _ => rfl
      | k + 19, hk => exact absurd hk (by omega)
    unfold Extern.BytealgCompare.cmp
    rw [show min (ByteArray.mk (idBytes x).toArray).size (ByteArray.mk (idBytes y).toArray).size = 20 from rfl, e]
    show (if x < y then (-1 : Int) else 1) = _
    by_cases h1 : x < y
    · simp [h1]
    · have h2 : y < x := by
        rw [UInt8.lt_iff_toNat_lt] at h1 ⊢
        have : x.toNat ≠ y.toNat := fun e => h (UInt8.toNat_inj.1 e)
        omega
      simp [h1, h2]

theorem idList_at (g : Nat) (hg : g ≤ 255) : ∀ j (hj : j < (idBytes (UInt8.ofNat g)).length), (idList g)[j]? = some (.int .u8 ((idBytes (UInt8.ofNat g))[j].toNat : Int)) := by
  intro j hj
  match j, hj with
  | 0, _ => rfl
  | 1, _ => rfl
  | 2, _ => rfl
  | 3, _ => rfl
  | 4, _ => rfl
  | 5, _ => rfl
  | 6, _ => rfl
  | 7, _ => rfl
  | 8, _ => rfl
  | 9, _ => rfl
  | 10, _ => rfl
  | 11, _ => rfl
  | 12, _ => rfl
  | 13, _ => rfl
  | 14, _ => rfl
  | 15, _ => rfl
  | 16, _ => rfl
  | 17, _ => rfl
  | 18, _ => rfl
  | 19, _ =>
    show some (Value.int .u8 (g : Int)) = some (Value.int .u8 ((UInt8.ofNat g).toNat : Int))
    simp; omega
  | k + 20, hk => exact absurd hk (by simp [idBytes])

theorem run_compare (w : World) (b1 o1 b2 o2 g h : Nat) (hg : g ≤ 255) (hh : h ≤ 255) (r1 : w.rangeAt b1 o1 (idList g)) (r2 : w.rangeAt b2 o2 (idList h)) (c1 c2 : Nat) :
    (callFunc 15 #[.slice (some ⟨b1, o1, none⟩) 20 c1, .slice (some ⟨b2, o2, none⟩) 20 c2]).run Yba.prog w = .ok (.value (.int .i64 (cmpI g h))) w := by
  rw [@run_callFunc_extern Yba.prog 15 _ Extern.BytealgCompare.compare Yba.func15 (by kernel_rfl) (by kernel_rfl) (by kernel_rfl) (by kernel_rfl)]
  have l1 := run_loadBytes w b1 (idBytes (UInt8.ofNat g)) o1 .empty (fun j hj => r1 j _ (idList_at g hg j hj))
  have l2 := run_loadBytes w b2 (idBytes (UInt8.ofNat h)) o2 .empty (fun j hj => r2 j _ (idList_at h hh j hj))
  have e1 : (idBytes (UInt8.ofNat g)).length = 20 := rfl
  have e2 : (idBytes (UInt8.ofNat h)).length = 20 := rfl
  rw [e1] at l1
  rw [e2] at l2
  have q : ∀ x : UInt8, (ByteArray.mk (ByteArray.empty.data ++ (idBytes x).toArray)) = ⟨(idBytes x).toArray⟩ := fun x => by
    have : ByteArray.empty.data = #[] := rfl
    rw [this]; simp
  rw [q] at l1 l2
  have ec : Extern.BytealgCompare.compare #[.slice (some ⟨b1, o1, none⟩) 20 c1, .slice (some ⟨b2, o2, none⟩) 20 c2] = (do pure (goInt (Extern.BytealgCompare.cmp (← Extern.Bytes.bytesOf (.slice (some ⟨b1, o1, none⟩) 20 c1)) (← Extern.Bytes.bytesOf (.slice (some ⟨b2, o2, none⟩) 20 c2))))) := rfl
  rw [ec]
  simp only [Extern.Bytes.bytesOf, Sem.run_bind, l1, l2, Result.andThen_ok, Sem.run_pure, goInt, cmp_ids, ofNat_lt (show g < 256 by omega) (show h < 256 by omega), ofNat_lt (show h < 256 by omega) (show g < 256 by omega)]
  rfl

theorem compare_any (w : World) (b1 o1 b2 o2 g h : Nat) (hg : g ≤ 255) (hh : h ≤ 255) (r1 : w.rangeAt b1 o1 (idList g)) (r2 : w.rangeAt b2 o2 (idList h)) (c1 c2 : Nat) :
    Calls Yba.prog 13 #[.slice (some ⟨b1, o1, none⟩) 20 c1, .slice (some ⟨b2, o2, none⟩) 20 c2] w fun e w' => e = .returned (.int .i64 (cmpI g h)) ∧ w' = w := by
  have hrun := run_compare w b1 o1 b2 o2 g h hg hh r1 r2 c1 c2
  have R1 := hide r1
  have R2 := hide r2
  clear r1 r2
  go_enter Yba.func13, Yba.ntmps13
  go_wp2
  go_ret
  exact ⟨rfl, rfl⟩

end Go.Proofs.Ybulkbtqm
