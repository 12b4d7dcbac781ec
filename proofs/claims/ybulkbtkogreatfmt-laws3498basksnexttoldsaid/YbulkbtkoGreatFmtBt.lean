import Derived.Test.YbulkbtkoGreatFmtBk
namespace Go.Proofs.YbulkbtkoGreatFmt
open Go.RowKit
set_option linter.unusedVariables false
set_option linter.unusedSimpArgs false

def sndSeq : Code → Code | .seq _ b => b | c => c
/-- What is left of the body behind its k-th statement: taken out of the loaded function, not typed. -/
noncomputable def tail5 : Code := sndSeq (sndSeq (sndSeq (sndSeq (sndSeq (Ybaz.f5.body.getD .skip)))))
noncomputable def tail9 : Code := sndSeq (sndSeq (sndSeq (sndSeq (sndSeq (sndSeq (sndSeq (sndSeq (sndSeq (Ybaz.f5.body.getD .skip)))))))))
noncomputable def tail17 : Code := sndSeq (sndSeq (sndSeq (sndSeq (sndSeq (sndSeq (sndSeq (sndSeq (sndSeq (sndSeq (sndSeq (sndSeq (sndSeq (sndSeq (sndSeq (sndSeq (sndSeq (Ybaz.f5.body.getD .skip)))))))))))))))))
noncomputable def tail21 : Code := sndSeq (sndSeq (sndSeq (sndSeq (sndSeq (sndSeq (sndSeq (sndSeq (sndSeq (sndSeq (sndSeq (sndSeq (sndSeq (sndSeq (sndSeq (sndSeq (sndSeq (sndSeq (sndSeq (sndSeq (sndSeq (Ybaz.f5.body.getD .skip)))))))))))))))))))))
noncomputable def tail23 : Code := sndSeq (sndSeq (sndSeq (sndSeq (sndSeq (sndSeq (sndSeq (sndSeq (sndSeq (sndSeq (sndSeq (sndSeq (sndSeq (sndSeq (sndSeq (sndSeq (sndSeq (sndSeq (sndSeq (sndSeq (sndSeq (sndSeq (sndSeq (Ybaz.f5.body.getD .skip)))))))))))))))))))))))
noncomputable def tail28 : Code := sndSeq (sndSeq (sndSeq (sndSeq (sndSeq (sndSeq (sndSeq (sndSeq (sndSeq (sndSeq (sndSeq (sndSeq (sndSeq (sndSeq (sndSeq (sndSeq (sndSeq (sndSeq (sndSeq (sndSeq (sndSeq (sndSeq (sndSeq (sndSeq (sndSeq (sndSeq (sndSeq (sndSeq (Ybaz.f5.body.getD .skip))))))))))))))))))))))))))))
noncomputable def tail29 : Code := sndSeq (sndSeq (sndSeq (sndSeq (sndSeq (sndSeq (sndSeq (sndSeq (sndSeq (sndSeq (sndSeq (sndSeq (sndSeq (sndSeq (sndSeq (sndSeq (sndSeq (sndSeq (sndSeq (sndSeq (sndSeq (sndSeq (sndSeq (sndSeq (sndSeq (sndSeq (sndSeq (sndSeq (sndSeq (Ybaz.f5.body.getD .skip)))))))))))))))))))))))))))))

/-- The message: kind 8, the nodes, the backpointers. -/
def mcOf (nv bv : Value) : Array Value := #[.int .u8 8, .int .u64 0, .int .i64 0, .int .i64 0, .int .i64 0, .int .i64 0, .int .i64 0, .int .u64 0, nv, bv, .bool false, .bool false, .bool false, .bool false, .bool false]
theorem build37 (na ba : Option Addr) (nn nc bn bc : Nat) (w : World) : (Instr.build 37 #[(0, .int .u8 8), (8, .slice na nn nc), (9, .slice ba bn bc)]).run Ybaz.prog w = .ok (.agg (mcOf (.slice na nn nc) (.slice ba bn bc))) w := by
  refine run_build w 37 _ _ ?_
  kernel_rfl

def BPost (w : World) : Ending → World → Prop := fun e w' => ∃ wsb X Y fv, e = .returned (.pointer (some ⟨wsb, 0, none⟩)) ∧ BW w w' wsb X Y fv

def wsL (nb jb : Nat) (ib N cb : Nat) (s snd : Int) (lb sb : Nat) (fv : Value) (wb : Nat) (hd : Bool) (pc : Int) (nv bv : Value) : Array Value :=
  #[.pointer (some ⟨nb, 0, none⟩), .pointer (some ⟨jb, 0, none⟩), .slice (some ⟨ib, 0, none⟩) N N, .slice (some ⟨cb, 0, none⟩) N N, .int .i64 s, .int .i64 snd, .slice (some ⟨lb, 0, none⟩) N N, .slice (some ⟨sb, 0, none⟩) N N, fv, .slice (some ⟨wb, 0, none⟩) N N, .bool hd, .int .i64 pc, .int .u8 8, .int .u64 0, .int .i64 0, .int .i64 0, .int .i64 0, .int .i64 0, .int .i64 0, .int .u64 0, nv, bv, .bool false, .bool false, .bool false, .bool false, .bool false]
theorem build39 (nb jb : Nat) (ib N cb : Nat) (s snd : Int) (lb sb : Nat) (fa : Option Addr) (fn fc : Nat) (wb : Nat) (hd : Bool) (pc : Int) (na ba : Option Addr) (nn nc bn bc : Nat) (w : World) :
    (Instr.build 39 #[(0, .pointer (some ⟨nb, 0, none⟩)), (1, .pointer (some ⟨jb, 0, none⟩)), (2, .slice (some ⟨ib, 0, none⟩) N N), (3, .slice (some ⟨cb, 0, none⟩) N N), (4, .int .i64 s), (5, .int .i64 snd), (6, .slice (some ⟨lb, 0, none⟩) N N), (7, .slice (some ⟨sb, 0, none⟩) N N), (8, .slice fa fn fc), (9, .slice (some ⟨wb, 0, none⟩) N N), (10, .bool hd), (11, .int .i64 pc), (12, .agg (mcOf (.slice na nn nc) (.slice ba bn bc)))]).run Ybaz.prog w
      = .ok (.agg (wsL nb jb ib N cb s snd lb sb (.slice fa fn fc) wb hd pc (.slice na nn nc) (.slice ba bn bc))) w := by
  refine run_build w 39 _ _ ?_
  kernel_rfl

end Go.Proofs.YbulkbtkoGreatFmt
