import Derived.Test.YbulkcaguDoorChecked
import Derived.WalkKit
import Derived.ProofKit
import Derived.Below
import Derived.WalkSpells
import Derived.WalkSmall
import Derived.LaidEqlPtr
namespace Go.Proofs.YbulkcaguDoor
open Go.RowKit
set_option linter.unusedVariables false
set_option linter.unusedSimpArgs false

set_option maxHeartbeats 1000000 in
theorem leaf_sh (r t : Nat) (x : Int) (w : World) (h0 : w.cell? ⟨0, 0, none⟩ = some (.int .i32 2147483647)) (h1 : w.cell? ⟨0, 1, none⟩ = some (.int .i32 2147483647))
    (c2 : w.cell? ⟨r, 2, none⟩ = some (.bool false)) (c4 : w.cell? ⟨r, 4, none⟩ = some (.pointer (some ⟨t, 0, none⟩))) (ct : w.cell? ⟨t, 3, none⟩ = some (.int .i64 x)) :
    Calls Ybad.prog 4 #[.pointer (some ⟨r, 0, none⟩)] w fun e w' => e = .returned (.agg #[.int .i32 (wrap32 x), .int .i32 2147483647]) ∧ Below w.heap.size w w' := by
  have hlt : 0 < w.heap.size := World.block_lt_of_cell? w _ h0
  have hr : r < w.heap.size := World.block_lt_of_cell? w _ c2
  have ht : t < w.heap.size := World.block_lt_of_cell? w _ ct
  go_enter Ybad.func4, Ybad.ntmps4
  go_wp2
  exact bodyPost_ret (v := .agg #[.int .i32 (wrap32 x), .int .i32 2147483647]) (by simp [results, Ybad.results4, go_sem]) rfl ⟨rfl, ((Below.refl _ _).alloc (Nat.le_refl _) _).alloc (by simp) _⟩

set_option maxHeartbeats 1000000 in
theorem leaf_ex (r t : Nat) (x : Int) (w : World) (h0 : w.cell? ⟨0, 0, none⟩ = some (.int .i32 2147483647)) (h1 : w.cell? ⟨0, 1, none⟩ = some (.int .i32 2147483647))
    (c2 : w.cell? ⟨r, 2, none⟩ = some (.bool true)) (c4 : w.cell? ⟨r, 4, none⟩ = some (.pointer (some ⟨t, 0, none⟩))) (ct : w.cell? ⟨t, 3, none⟩ = some (.int .i64 x)) :
    Calls Ybad.prog 4 #[.pointer (some ⟨r, 0, none⟩)] w fun e w' => e = .returned (.agg #[.int .i32 2147483647, .int .i32 (wrap32 x)]) ∧ Below w.heap.size w w' := by
  have hlt : 0 < w.heap.size := World.block_lt_of_cell? w _ h0
  have hr : r < w.heap.size := World.block_lt_of_cell? w _ c2
  have ht : t < w.heap.size := World.block_lt_of_cell? w _ ct
  go_enter Ybad.func4, Ybad.ntmps4
  go_wp2
  exact bodyPost_ret (v := .agg #[.int .i32 2147483647, .int .i32 (wrap32 x)]) (by simp [results, Ybad.results4, go_sem]) rfl ⟨rfl, ((Below.refl _ _).alloc (Nat.le_refl _) _).alloc (by simp) _⟩

/-- Two new blocks read as they did behind a call that has turned nothing old. -/
theorem two_kept {w w' : World} {A B : Array Value} {s t : TypeId} (h : Below ((w.alloc (.cells A s)).alloc (.cells B t)).heap.size ((w.alloc (.cells A s)).alloc (.cells B t)) w') :
    (∀ j, w'.cell? ⟨w.heap.size, j, none⟩ = A[j]?) ∧ (∀ j, w'.cell? ⟨w.heap.size + 1, j, none⟩ = B[j]?) ∧ Below w.heap.size w w' := by
  refine ⟨fun j => ?_, fun j => ?_, (((Below.refl _ w).alloc (Nat.le_refl _) _).alloc (by simp) _).trans (h.mono (by simp; omega))⟩
  · rw [h.cell (p := ⟨w.heap.size, j, none⟩) (by simp; omega), World.cell?_alloc_lt _ _ ⟨w.heap.size, j, none⟩ (by simp), World.cell?_alloc_new]
  · rw [h.cell (p := ⟨w.heap.size + 1, j, none⟩) (by simp)]
    have e : w.heap.size + 1 = (w.alloc (.cells A s)).heap.size := by simp
    rw [e, World.cell?_alloc_new]

theorem eq22 (a : Addr) (w : World) : (binOp .eql 22 (.pointer (some a)) (.pointer (some a))).run Ybad.prog w = .ok (.bool true) w := by
  have h : (Ybad.prog.info? 35).map (fun i => i.size) = some 14 := by kernel_rfl
  cases hi : Ybad.prog.info? 35 with
  | none => rw [hi] at h; simp at h
  | some i => exact run_eql_ptr_same w a Ybad.underlying22 hi

set_option maxRecDepth 100000 in
set_option maxHeartbeats 2000000 in
theorem law_any (x : Int) (b : Bool) (w : World) (h0 : w.cell? ⟨0, 0, none⟩ = some (.int .i32 2147483647)) (h1 : w.cell? ⟨0, 1, none⟩ = some (.int .i32 2147483647)) :
    Calls Ybad.prog 3 #[.int .i64 x, .bool b] w fun e w' => e = .returned (.bool true) ∧ Below w.heap.size w w' := by
  have hlt : 0 < w.heap.size := World.block_lt_of_cell? w _ h0
  cases b
  · go_enter Ybad.func3, Ybad.ntmps3
    go_wp2_with fail
    refine (leaf_sh (w.heap.size + 1) w.heap.size x _ (by simp [go_sem, hlt, h0]) (by simp [go_sem, hlt, h1]) (by simp [go_sem]) (by simp [go_sem]) (by simp [go_sem])).mono ?_
    rintro e w1 ⟨rfl, hb⟩
    obtain ⟨kA, kB, bel⟩ := two_kept hb
    have a3 := kA 3
    have b0 := kB 0
    have b1 := kB 1
    have b2 := kB 2
    have b3 := kB 3
    have b4 := kB 4
    have b5 := kB 5
    have b6 := kB 6
    have s1 : w.heap.size + 1 < w1.heap.size := by have := hb.size; simp at this; omega
    have s0 : w.heap.size < w1.heap.size := by omega
    simp at a3 b0 b1 b2 b3 b4 b5 b6
    clear kA kB hb
    have heq := eq22 ⟨w.heap.size, 0, none⟩
    go_wp2
    go_ret
    exact ⟨rfl, bel.alloc bel.size _⟩
  · go_enter Ybad.func3, Ybad.ntmps3
    go_wp2_with fail
    refine (leaf_ex (w.heap.size + 1) w.heap.size x _ (by simp [go_sem, hlt, h0]) (by simp [go_sem, hlt, h1]) (by simp [go_sem]) (by simp [go_sem]) (by simp [go_sem])).mono ?_
    rintro e w1 ⟨rfl, hb⟩
    obtain ⟨kA, kB, bel⟩ := two_kept hb
    have a3 := kA 3
    have b0 := kB 0
    have b1 := kB 1
    have b2 := kB 2
    have b3 := kB 3
    have b4 := kB 4
    have b5 := kB 5
    have b6 := kB 6
    have s1 : w.heap.size + 1 < w1.heap.size := by have := hb.size; simp at this; omega
    have s0 : w.heap.size < w1.heap.size := by omega
    simp at a3 b0 b1 b2 b3 b4 b5 b6
    clear kA kB hb
    have heq := eq22 ⟨w.heap.size, 0, none⟩
    go_wp2
    go_ret
    exact ⟨rfl, bel.alloc bel.size _⟩
end Go.Proofs.YbulkcaguDoor
