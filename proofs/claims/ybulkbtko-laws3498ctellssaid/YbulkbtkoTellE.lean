import Derived.Test.YbulkbtkoTellD
namespace Go.Proofs.Ybulkbtko
open Go.RowKit

set_option maxRecDepth 100000 in
set_option maxHeartbeats 1000000 in
theorem tells_long (ak av an af : Option Addr) (lk lv ln lf ck cv cn cf : Nat) (r j : Int) (w : World) (h : 1024 < lk ∨ 1024 < lv ∨ 1024 < ln ∨ 1024 < lf) (mk : lk ≤ maxLen) (mv : lv ≤ maxLen) (mn : ln ≤ maxLen) (mf : lf ≤ maxLen) :
    Calls Yba.prog 5 #[.slice ak lk ck, .slice av lv cv, .int .i64 r, .slice an ln cn, .slice af lf cf, .int .i64 j] w fun e w' => e = .returned (.bool true) ∧ Below w.heap.size w w' := by
  unfold maxLen at mk mv mn mf
  by_cases h1 : 1024 < lk
  · go_enter Yba.func5, Yba.ntmps5
    go_wp2
    go_ret
    exact ⟨rfl, Below.refl _ _⟩
  by_cases h2 : 1024 < lv
  · go_enter Yba.func5, Yba.ntmps5
    go_wp2
    go_ret
    exact ⟨rfl, Below.refl _ _⟩
  by_cases h3 : 1024 < ln
  · go_enter Yba.func5, Yba.ntmps5
    go_wp2
    go_ret
    exact ⟨rfl, Below.refl _ _⟩
  have h4 : 1024 < lf := by omega
  go_enter Yba.func5, Yba.ntmps5
  go_wp2
  go_ret
  exact ⟨rfl, Below.refl _ _⟩

end Go.Proofs.Ybulkbtko
