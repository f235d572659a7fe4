import Derived.Test.YbulkcaggDoorFresh
namespace Go.Proofs.YbulkcaggDoor
open Go.RowKit
set_option linter.unusedVariables false
set_option linter.unusedSimpArgs false

theorem info3 : ∃ i, Ybad.prog.info? 3 = some i ∧ i.zero = some (.int .i64 0) ∧ i.size = 1 ∧ i.bytes = 8 := by
  have h : (Ybad.prog.info? 3).map (fun i => (i.zero, i.size, i.bytes)) = some (some (.int .i64 0), 1, 8) := by kernel_rfl
  cases hi : Ybad.prog.info? 3 with
  | none => rw [hi] at h; simp at h
  | some i => rw [hi] at h; simp at h; exact ⟨i, rfl, h.1, h.2.1, h.2.2⟩

def zeros (n : Nat) : Array Value := madeCells #[.int .i64 0] n

theorem mk42 (n : Nat) (hn : n ≤ 1024) (w : World) : (Instr.makeSlice 42 (.int .i64 0) (.int .i64 n)).run Ybad.prog w = .ok (.slice (some ⟨w.heap.size, 0, none⟩) 0 n) (w.alloc (.cells (zeros n) 3)) := by
  obtain ⟨i, hi, hz, hs, hb⟩ := info3
  have h := run_make (P := Ybad.prog) w 42 3 i _ Ybad.underlying42 hi hz .i64 .i64 (0 : Int) (n : Int) (by omega) (by omega) (by rw [hb]; omega) (by omega)
  rw [hs, Nat.mul_one] at h
  exact h

theorem four_new (w : World) (A : Array Value) (t : TypeId) (x y z u : Obj) : ((((((w.alloc (.cells A t)).alloc x).alloc y).alloc z).alloc u).drew.drew.drew.drew).heap[w.heap.size]? = some (.cells A t (0, 0)) ∧
    Below w.heap.size w ((((((w.alloc (.cells A t)).alloc x).alloc y).alloc z).alloc u).drew.drew.drew.drew) := by
  refine ⟨?_, ?_⟩
  · show (((((w.alloc (.cells A t)).alloc x).alloc y).alloc z).alloc u).heap[w.heap.size]? = _
    rw [Below.heap_alloc _ _ _ (by simp; omega), Below.heap_alloc _ _ _ (by simp; omega), Below.heap_alloc _ _ _ (by simp; omega), Below.heap_alloc _ _ _ (by simp), heap_alloc_new]
  · exact ((((((Below.refl _ w).alloc (Nat.le_refl _) _).alloc (by simp) _).alloc (by simp; omega) _).alloc (by simp; omega) _).alloc (by simp; omega) _).drew.drew.drew.drew

set_option maxRecDepth 100000 in
set_option maxHeartbeats 2000000 in
theorem new_any (c : Nat) (com rd id : Int) (w : World) (hc : c ≤ 64) :
    Calls Ybad.prog 11 #[.int .i64 c, .int .i64 com, .int .i64 rd, .int .i64 id] w fun e w' => e = .returned (.pointer (some ⟨w.heap.size, 0, none⟩)) ∧ ProcAt w' w.heap.size c com rd id 0 c ∧ Below w.heap.size w w' := by
  have mk := mk42 c (by omega)
  go_enter Ybad.func11, Ybad.ntmps11
  go_wp2
  refine wp_loop_rounds 3 ?_
  rw [rounds_succ]
  go_wp2
  go_region
  go_wp2
  go_region
  go_wp2
  rw [rounds_succ]
  go_wp2
  go_region
  go_wp2
  go_region
  go_wp2
  rw [rounds_succ]
  go_wp2
  go_ret
  have hw := four_new w (proc c com rd id 0 c ⟨w.heap.size + 1, 0, none⟩ ⟨w.heap.size + 1 + 1 + 1, 0, none⟩ ⟨w.heap.size + 1 + 1, 0, none⟩ ⟨w.heap.size + 1 + 1 + 1 + 1, 0, none⟩) 47 (.cells (zeros c) 3) (.cells (zeros c) 3) (.cells (zeros c) 3) (.cells (zeros c) 3)
  exact ⟨rfl, ⟨⟨w.heap.size + 1, 0, none⟩, ⟨w.heap.size + 1 + 1 + 1, 0, none⟩, ⟨w.heap.size + 1 + 1, 0, none⟩, ⟨w.heap.size + 1 + 1 + 1 + 1, 0, none⟩, hw.1⟩, hw.2⟩
end Go.Proofs.YbulkcaggDoor
