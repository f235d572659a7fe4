import Derived.Test.YbulkcadaParse
import Derived.WalkSmall
namespace Go.Proofs.Ybulkcada
open Go.RowKit
set_option linter.unusedVariables false

/-- The first k of the sixteen bytes have been copied from the box 'N' into the row 'N + 1' (which has 17 cells). -/
structure Copying (w wr : World) (z : Nat → Int) (k : Nat) : Prop where
  below : Below w.heap.size w wr
  size : wr.heap.size = w.heap.size + 2
  src : ∀ j, j < 16 → wr.cell? ⟨w.heap.size, j, none⟩ = some (.int .u8 (z j))
  done : ∀ j, j < k → wr.cell? ⟨w.heap.size + 1, j, none⟩ = some (.int .u8 (z j))
  left : ∀ j, k ≤ j → j < 17 → wr.cell? ⟨w.heap.size + 1, j, none⟩ = some (.int .u8 0)
  free : ∀ j, wr.frozen? ⟨w.heap.size + 1, j, none⟩ = false

theorem Copying.step {w wr : World} {z : Nat → Int} {k : Nat} (h : Copying w wr z k) (hk : k < 16) : Copying w (wr.setCell ⟨w.heap.size + 1, k, none⟩ (.int .u8 (z k))) z (k + 1) where
  below := h.below.setCell (by simp) _
  size := by simp [World.setCell, h.size]
  src j hj := by rw [World.cell?_setCell_other _ _ _ _ (by first | (simp; done) | (simp; omega))]; exact h.src j hj
  done j hj := by
    by_cases e : j = k
    · subst e; exact World.cell?_setCell_same _ _ _ (h.left j (by omega) (by omega))
    · rw [World.cell?_setCell_other _ _ _ _ (by first | (simp; done) | (simp; omega))]; exact h.done j (by omega)
  left j h1 h2 := by rw [World.cell?_setCell_other _ _ _ _ (by first | (simp; done) | (simp; omega))]; exact h.left j (by omega) h2
  free j := by rw [World.frozen?_setCell]; exact h.free j

def zeros17 : Array Value := #[.int .u8 0, .int .u8 0, .int .u8 0, .int .u8 0, .int .u8 0, .int .u8 0, .int .u8 0, .int .u8 0, .int .u8 0, .int .u8 0, .int .u8 0, .int .u8 0, .int .u8 0, .int .u8 0, .int .u8 0, .int .u8 0, .int .u8 0]
def cells16 (z : Nat → Int) : Array Value := #[.int .u8 (z 0), .int .u8 (z 1), .int .u8 (z 2), .int .u8 (z 3), .int .u8 (z 4), .int .u8 (z 5), .int .u8 (z 6), .int .u8 (z 7), .int .u8 (z 8), .int .u8 (z 9), .int .u8 (z 10), .int .u8 (z 11), .int .u8 (z 12), .int .u8 (z 13), .int .u8 (z 14), .int .u8 (z 15)]

theorem zeros17_at (j : Nat) (h : j < 17) : zeros17[j]? = some (.int .u8 0) := by
  have : j = 0 ∨ j = 1 ∨ j = 2 ∨ j = 3 ∨ j = 4 ∨ j = 5 ∨ j = 6 ∨ j = 7 ∨ j = 8 ∨ j = 9 ∨ j = 10 ∨ j = 11 ∨ j = 12 ∨ j = 13 ∨ j = 14 ∨ j = 15 ∨ j = 16 := by omega
  rcases this with rfl | rfl | rfl | rfl | rfl | rfl | rfl | rfl | rfl | rfl | rfl | rfl | rfl | rfl | rfl | rfl | rfl <;> rfl
theorem cells16_at (z : Nat → Int) (j : Nat) (h : j < 16) : (cells16 z)[j]? = some (.int .u8 (z j)) := by
  have : j = 0 ∨ j = 1 ∨ j = 2 ∨ j = 3 ∨ j = 4 ∨ j = 5 ∨ j = 6 ∨ j = 7 ∨ j = 8 ∨ j = 9 ∨ j = 10 ∨ j = 11 ∨ j = 12 ∨ j = 13 ∨ j = 14 ∨ j = 15 := by omega
  rcases this with rfl | rfl | rfl | rfl | rfl | rfl | rfl | rfl | rfl | rfl | rfl | rfl | rfl | rfl | rfl | rfl <;> rfl

theorem Copying.start (w : World) (z : Nat → Int) : Copying w ((w.alloc (.cells (cells16 z) 31)).alloc (.cells zeros17 5)) z 0 where
  below := ((Below.refl _ _).alloc (Nat.le_refl _) _).alloc (by simp) _
  size := by simp
  src j hj := by
    rw [World.cell?_alloc_old _ _ _ (by simp), World.cell?_alloc_new]; exact cells16_at z j hj
  done j hj := by omega
  left j _ hj := by
    have e : w.heap.size + 1 = (w.alloc (.cells (cells16 z) 31)).heap.size := by simp
    rw [e, World.cell?_alloc_new]; exact zeros17_at j hj
  free j := by
    have e : w.heap.size + 1 = (w.alloc (.cells (cells16 z) 31)).heap.size := by simp
    rw [e]; simp

/-- The sixteen bytes lie twice: in the box 'N' and in the row 'N + 1', whose seventeenth cell is free. -/
structure Held (w wr : World) (z : Nat → Int) : Prop where
  below : Below w.heap.size w wr
  size : w.heap.size + 2 ≤ wr.heap.size
  src : ∀ j, j < 16 → wr.cell? ⟨w.heap.size, j, none⟩ = some (.int .u8 (z j))
  row : ∀ j, j < 16 → wr.cell? ⟨w.heap.size + 1, j, none⟩ = some (.int .u8 (z j))
  last : wr.cell? ⟨w.heap.size + 1, 16, none⟩ = some (.int .u8 0)
  free : ∀ j, wr.frozen? ⟨w.heap.size + 1, j, none⟩ = false

theorem Copying.held {w wr : World} {z : Nat → Int} (h : Copying w wr z 16) : Held w wr z :=
  ⟨h.below, by rw [h.size]; exact Nat.le_refl _, h.src, h.done, h.left 16 (by omega) (by omega), h.free⟩

theorem Held.later {w wr wr' : World} {z : Nat → Int} (h : Held w wr z) (hb : Below wr.heap.size wr wr') : Held w wr' z where
  below := h.below.trans (hb.mono (by have := h.size; omega))
  size := Nat.le_trans h.size hb.size
  src j hj := by rw [hb.cell (p := ⟨w.heap.size, j, none⟩) (by have := h.size; simp; omega)]; exact h.src j hj
  row j hj := by rw [hb.cell (p := ⟨w.heap.size + 1, j, none⟩) (by have := h.size; simp; omega)]; exact h.row j hj
  last := by rw [hb.cell (p := ⟨w.heap.size + 1, 16, none⟩) (by have := h.size; simp; omega)]; exact h.last
  free j := by rw [hb.frozen (p := ⟨w.heap.size + 1, j, none⟩) (by have := h.size; simp; omega)]; exact h.free j

theorem Held.alloc {w wr : World} {z : Nat → Int} (h : Held w wr z) (o : Obj) : Held w (wr.alloc o) z := h.later ((Below.refl _ _).alloc (Nat.le_refl _) _)

theorem Held.rowSrc {w wr : World} {z : Nat → Int} (h : Held w wr z) : Row16 wr w.heap.size 0 z := fun k hk => by rw [Nat.zero_add]; exact h.src k hk
theorem Held.rowRow {w wr : World} {z : Nat → Int} (h : Held w wr z) : Row16 wr (w.heap.size + 1) 0 z := fun k hk => by rw [Nat.zero_add]; exact h.row k hk

set_option maxHeartbeats 1000000 in
theorem array_any (z : Nat → Int) (x : Int) (w : World) (hz : ∀ k, k < 16 → 0 ≤ z k ∧ z k ≤ 255) :
    Calls Yba.prog 4 #[.agg (cells16 z), .int .u8 x] w fun e w' => e = .returned (.bool true) ∧ Below w.heap.size w w' := by
  have hmk : ∀ w, (Instr.makeSlice 22 (.int .i64 16) (.int .i64 17)).run Yba.prog w = .ok (.slice (some ⟨w.heap.size, 0, none⟩) 16 17) (w.alloc (.cells zeros17 5)) := fun _ => by kernel_rfl
  go_enter Yba.func4, Yba.ntmps4
  go_wp2_with fail
  have hst := Copying.start w z
  generalize (w.alloc (Obj.cells (cells16 z) 31)).alloc (Obj.cells zeros17 5) = W0 at hst ⊢
  go_loopw [6] (fun i wr => ∃ k : Nat, k ≤ 16 ∧ i = .int .i64 k ∧ Copying w wr z k) (fun i _ => 16 - (intOf i).toNat)
  case atStart => exact ⟨0, by omega, rfl, hst⟩
  case round =>
    obtain ⟨k, hk, rfl, hcp⟩ := hrel
    by_cases hlt : k < 16
    · have h1 := hcp.src k hlt
      have h2 := hcp.left k (by omega) (by omega)
      have h3 := hcp.free k
      have h4 := hcp.step hlt
      go_wp2
      go_roundw
      case rel => exact ⟨k + 1, by omega, by go_num, h4⟩
      case measure => simp [intOf]; omega
    · obtain rfl : k = 16 := by omega
      go_wp2_with fail
      have hh := hcp.held
      clear hcp hst
      refine (parse_yes (w.heap.size + 1) 0 17 z _ hz hh.rowRow (by omega)).mono ?_
      rintro e w1 ⟨rfl, hb1⟩
      have hh1 := hh.later hb1
      clear hb1 hh
      go_wp2_with fail
      have hh2 := hh1.alloc (.cells #[.int .u64 (horner z 0 8), .int .u64 (horner z 8 8)] 25)
      refine (model_any w.heap.size 0 16 z _ hz hh2.rowSrc).mono ?_
      rintro e w2 ⟨rfl, rfl⟩
      go_wp2_with fail
      generalize w1.alloc (Obj.cells #[Value.int IntKind.u64 (horner z 0 8), Value.int IntKind.u64 (horner z 8 8)] 25) = W2 at hh2 ⊢
      clear hh1
      go_loopw [11] (fun i wr => ∃ k : Nat, k ≤ 16 ∧ i = .int .i64 k ∧ Held w wr z) (fun i _ => 16 - (intOf i).toNat)
      case atStart => exact ⟨0, by omega, rfl, hh2⟩
      case round =>
        obtain ⟨k, hk2, rfl, hh3⟩ := hrel
        by_cases hlt2 : k < 16
        · have h1 := hh3.src k hlt2
          have h2 := hh3.row k hlt2
          go_wp2
          go_quiet (fail)
          go_wp2
          go_roundw
          case rel => exact ⟨k + 1, by omega, by go_num, hh3.later (below_drewN (Below.refl _ _) _)⟩
          case measure => simp [intOf]; omega
        · obtain rfl : k = 16 := by omega
          have hl := hh3.last
          have hf := hh3.free 16
          have hs : w.heap.size + 1 < wr.heap.size := by have := hh3.size; omega
          go_wp2_with fail
          have bel := (hh3.below.setCell (p := ⟨w.heap.size + 1, 16, none⟩) (by simp) (Value.int IntKind.u8 x)).alloc (by simp [World.setCell]; omega) (Obj.cells #[Value.int IntKind.u8 x] 5)
          refine (parse_no _ 17 17 _ (by decide)).mono ?_
          rintro e w3 ⟨rfl, hb3⟩
          have bel3 := bel.trans (hb3.mono (by simp [World.setCell]; omega))
          clear hb3 bel hl hf
          go_wp2_with fail
          refine (parse_no _ 15 17 _ (by decide)).mono ?_
          rintro e w4 ⟨rfl, hb4⟩
          have bel4 := (bel3.alloc bel3.size (.cells #[.int .u64 0, .int .u64 0] 25)).trans (hb4.mono (by have := bel3.size; simp; omega))
          clear hb4
          go_wp2
          go_ret
          exact ⟨rfl, bel4.alloc bel4.size _⟩
end Go.Proofs.Ybulkcada
