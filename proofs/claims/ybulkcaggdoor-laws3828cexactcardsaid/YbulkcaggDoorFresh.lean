import Derived.Test.YbulkcaggDoorChecked
import Derived.WalkKit
import Derived.ProofKit
import Derived.Below
import Derived.WalkSpells
import Derived.WalkSmall
import Derived.BigQuiet
import Derived.Deep.QuietTactic
import Derived.Deep.RegionWith
import Derived.RegionTactic
import Derived.BigRegion
namespace Go.Proofs.YbulkcaggDoor
open Go.RowKit
set_option linter.unusedVariables false
set_option linter.unusedSimpArgs false

/-- A fresh process's thirteen cells. -/
def proc (n com rd id v : Int) (c : Nat) (a1 a2 a3 a4 : Addr) : Array Value :=
  #[.int .i64 id, .int .i64 n, .int .i64 com, .int .i64 rd, .int .i64 v, .bool false, .bool false, .slice (some a1) 0 c, .slice (some a2) 0 c, .int .u64 0, .int .u64 0, .slice (some a3) 0 c, .slice (some a4) 0 c]

def ProcAt (w : World) (b : Nat) (n com rd id v : Int) (c : Nat) : Prop := ∃ a1 a2 a3 a4, w.heap[b]? = some (.cells (proc n com rd id v c a1 a2 a3 a4) 47 (0, 0))

set_option maxRecDepth 100000 in
set_option maxHeartbeats 2000000 in
theorem fresh_any (b : Nat) (c : Nat) (com rd id v : Int) (w : World) (h : ProcAt w b c com rd id v c) :
    Calls Ybad.prog 7 #[.pointer (some ⟨b, 0, none⟩), .int .i64 c, .int .i64 com, .int .i64 rd, .int .i64 id, .int .i64 v] w fun e w' => e = .returned (.bool true) ∧ w' = w := by
  obtain ⟨a1, a2, a3, a4, h⟩ := h
  have k : ∀ j, w.cell? ⟨b, j, none⟩ = (proc c com rd id v c a1 a2 a3 a4)[j]? := fun j => cell_of_row _ _ _ _ _ _ h
  have k0 : w.cell? ⟨b, 0, none⟩ = some (.int .i64 id) := k 0
  have k1 : w.cell? ⟨b, 1, none⟩ = some (.int .i64 c) := k 1
  have k2 : w.cell? ⟨b, 2, none⟩ = some (.int .i64 com) := k 2
  have k3 : w.cell? ⟨b, 3, none⟩ = some (.int .i64 rd) := k 3
  have k4 : w.cell? ⟨b, 4, none⟩ = some (.int .i64 v) := k 4
  have k5 : w.cell? ⟨b, 5, none⟩ = some (.bool false) := k 5
  have k6 : w.cell? ⟨b, 6, none⟩ = some (.bool false) := k 6
  have k7 : w.cell? ⟨b, 7, none⟩ = some (.slice (some a1) 0 c) := k 7
  have k8 : w.cell? ⟨b, 8, none⟩ = some (.slice (some a2) 0 c) := k 8
  have k9 : w.cell? ⟨b, 9, none⟩ = some (.int .u64 0) := k 9
  have k10 : w.cell? ⟨b, 10, none⟩ = some (.int .u64 0) := k 10
  have k11 : w.cell? ⟨b, 11, none⟩ = some (.slice (some a3) 0 c) := k 11
  have k12 : w.cell? ⟨b, 12, none⟩ = some (.slice (some a4) 0 c) := k 12
  clear k h
  go_enter Ybad.func7, Ybad.ntmps7
  go_wp2
  go_loop [13] (fun i => ∃ j : Nat, j ≤ 2 ∧ i = .int .i64 j) (fun i => 2 - (intOf i).toNat)
  case atStart => exact ⟨0, by omega, rfl⟩
  case round =>
    obtain ⟨j, hj, rfl⟩ := hrel
    have hc : j = 0 ∨ j = 1 ∨ j = 2 := by omega
    rcases hc with rfl | rfl | rfl
    · go_wp2
      go_round
      case rel => exact ⟨1, by omega, by go_num⟩
      case measure => simp [intOf]
    · go_wp2
      go_round
      case rel => exact ⟨2, by omega, by go_num⟩
      case measure => simp [intOf]
    · go_wp2
      go_ret
      exact ⟨rfl, rfl⟩
end Go.Proofs.YbulkcaggDoor
