import Derived.Test.YbulkcaggChecked
import Derived.WalkKit
import Derived.ProofKit
import Derived.Below
import Derived.WalkSpells
namespace Go.Proofs.Ybulkcagg
open Go.RowKit
set_option linter.unusedVariables false
set_option maxRecDepth 100000 in
set_option maxHeartbeats 1000000 in
theorem law_long1 (a0 a5 a6 : Option Addr) (L Y M c0 c5 c6 : Nat) (n8 r8 fa : Int) (om : Bool) (w : World) (h : (1024 : Int) < (L : Int)) :
    Calls Yba.prog 3 #[.slice a0 L c0, .int .u8 n8, .int .u8 r8, .int .u64 fa, .bool om, .slice a5 Y c5, .slice a6 M c6] w fun e w' => e = .returned (.bool true) ∧ Below w.heap.size w w' := by
  go_enter Yba.func3, Yba.ntmps3
  go_wp2
  go_ret
  exact ⟨rfl, Below.refl _ _⟩
set_option maxRecDepth 100000 in
set_option maxHeartbeats 1000000 in
theorem law_long2 (a0 a5 a6 : Option Addr) (L Y M c0 c5 c6 : Nat) (n8 r8 fa : Int) (om : Bool) (w : World) (h1 : ¬ (1024 : Int) < (L : Int)) (h : (1024 : Int) < (Y : Int)) :
    Calls Yba.prog 3 #[.slice a0 L c0, .int .u8 n8, .int .u8 r8, .int .u64 fa, .bool om, .slice a5 Y c5, .slice a6 M c6] w fun e w' => e = .returned (.bool true) ∧ Below w.heap.size w w' := by
  go_enter Yba.func3, Yba.ntmps3
  go_wp2
  go_ret
  exact ⟨rfl, Below.refl _ _⟩
set_option maxRecDepth 100000 in
set_option maxHeartbeats 1000000 in
theorem law_long3 (a0 a5 a6 : Option Addr) (L Y M c0 c5 c6 : Nat) (n8 r8 fa : Int) (om : Bool) (w : World) (h1 : ¬ (1024 : Int) < (L : Int)) (h2 : ¬ (1024 : Int) < (Y : Int)) (h : (1024 : Int) < (M : Int)) :
    Calls Yba.prog 3 #[.slice a0 L c0, .int .u8 n8, .int .u8 r8, .int .u64 fa, .bool om, .slice a5 Y c5, .slice a6 M c6] w fun e w' => e = .returned (.bool true) ∧ Below w.heap.size w w' := by
  go_enter Yba.func3, Yba.ntmps3
  go_wp2
  go_ret
  exact ⟨rfl, Below.refl _ _⟩
end Go.Proofs.Ybulkcagg
