/-
  LawS0751BAdded, the great inputs.
-/
import Derived.Test.YbulkonkEv13
import Derived.Test.YbulkonkEvOpen
namespace Go.Proofs.Ybulkonk
open Go.RowKit

set_option maxHeartbeats 1000000 in
theorem addedB_big {a0 b0 : Option Addr} {n cap m cap2 : Nat} (w : World) (hn : ¬ n ≤ 1024 ∨ ¬ m ≤ 1024) (h1 : n ≤ maxLen) (h2 : m ≤ maxLen) :
    Calls Yba.prog 6 #[.slice a0 n cap, .slice b0 m cap2] w fun e w' => e = .returned (.bool true) ∧ Below w.heap.size w w' := by
  unfold maxLen at h1 h2
  by_cases h : n ≤ 1024
  · have hm : ¬ m ≤ 1024 := hn.elim (fun k => absurd h k) id
    clear hn
    go_enter Yba.func6, Yba.ntmps6
    go_wp2
    go_ret
    exact ⟨rfl, Below.refl _ _⟩
  · clear hn
    go_enter Yba.func6, Yba.ntmps6
    go_wp2
    go_ret
    exact ⟨rfl, Below.refl _ _⟩

end Go.Proofs.Ybulkonk
