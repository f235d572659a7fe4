import Derived.Test.YbulkcaggDoorNew
namespace Go.Proofs.YbulkcaggDoor
open Go.RowKit
set_option linter.unusedVariables false
set_option linter.unusedSimpArgs false

theorem holds_yes (lo hi v : Int) (w : World) (h1 : lo ≤ v) (h2 : v ≤ hi) :
    Calls Ybad.prog 23 #[.agg #[.int .i64 lo, .int .i64 hi], .int .i64 v] w fun e w' => e = .returned (.bool true) ∧ Below w.heap.size w w' := by
  go_enter Ybad.func23, Ybad.ntmps23
  go_wp2
  go_ret
  exact ⟨rfl, (Below.refl _ _).alloc (Nat.le_refl _) _⟩

theorem holds_no (lo hi v : Int) (w : World) (h : v < lo ∨ hi < v) :
    Calls Ybad.prog 23 #[.agg #[.int .i64 lo, .int .i64 hi], .int .i64 v] w fun e w' => e = .returned (.bool false) ∧ Below w.heap.size w w' := by
  by_cases h1 : lo ≤ v
  · have h2 : ¬ v ≤ hi := by omega
    go_enter Ybad.func23, Ybad.ntmps23
    go_wp2
    go_ret
    exact ⟨rfl, (Below.refl _ _).alloc (Nat.le_refl _) _⟩
  · go_enter Ybad.func23, Ybad.ntmps23
    go_wp2
    go_ret
    exact ⟨rfl, (Below.refl _ _).alloc (Nat.le_refl _) _⟩

/-- A range error's four cells. -/
def ErrAt (w : World) (b : Nat) (nm : ByteArray) (v lo hi : Int) : Prop := w.heap[b]? = some (.cells #[.string nm, .int .i64 v, .int .i64 lo, .int .i64 hi] 34 (0, 0))

theorem refuse_any (lo hi v : Int) (nm : ByteArray) (w : World) :
    Calls Ybad.prog 24 #[.agg #[.int .i64 lo, .int .i64 hi], .string nm, .int .i64 v] w fun e w' => e = .returned (.iface 30 (.pointer (some ⟨w.heap.size + 1, 0, none⟩))) ∧ ErrAt w' (w.heap.size + 1) nm v lo hi ∧ Below w.heap.size w w' := by
  go_enter Ybad.func24, Ybad.ntmps24
  go_wp2
  go_ret
  refine ⟨rfl, ?_, ((Below.refl _ _).alloc (Nat.le_refl _) _).alloc (by simp) _⟩
  unfold ErrAt
  have e : w.heap.size + 1 = (w.alloc (.cells #[.int .i64 lo, .int .i64 hi] 63)).heap.size := by simp
  rw [e, heap_alloc_new]

/-- Three numbers, each with its name and its span, lie in block g. -/
structure Nums (w : World) (g : Nat) (nm : Nat → ByteArray) (v lo hi : Nat → Int) : Prop where
  lt : g < w.heap.size
  c0 : ∀ j, j < 3 → w.cell? ⟨g, j * 4, none⟩ = some (.string (nm j))
  c1 : ∀ j, j < 3 → w.cell? ⟨g, j * 4 + 1, none⟩ = some (.int .i64 (v j))
  c2 : ∀ j, j < 3 → w.cell? ⟨g, j * 4 + 2, none⟩ = some (.int .i64 (lo j))
  c3 : ∀ j, j < 3 → w.cell? ⟨g, j * 4 + 3, none⟩ = some (.int .i64 (hi j))

theorem Nums.below {w w' : World} {g : Nat} {nm : Nat → ByteArray} {v lo hi : Nat → Int} (h : Nums w g nm v lo hi) (hb : Below w.heap.size w w') : Nums w' g nm v lo hi where
  lt := Nat.lt_of_lt_of_le h.lt hb.size
  c0 j hj := by rw [hb.cell (p := ⟨g, j * 4, none⟩) h.lt]; exact h.c0 j hj
  c1 j hj := by rw [hb.cell (p := ⟨g, j * 4 + 1, none⟩) h.lt]; exact h.c1 j hj
  c2 j hj := by rw [hb.cell (p := ⟨g, j * 4 + 2, none⟩) h.lt]; exact h.c2 j hj
  c3 j hj := by rw [hb.cell (p := ⟨g, j * 4 + 3, none⟩) h.lt]; exact h.c3 j hj

set_option maxHeartbeats 1000000 in
theorem first_ok (g : Nat) (nm : Nat → ByteArray) (v lo hi : Nat → Int) (w : World) (h : Nums w g nm v lo hi) (hin : ∀ j, j < 3 → lo j ≤ v j ∧ v j ≤ hi j) :
    Calls Ybad.prog 17 #[.slice (some ⟨g, 0, none⟩) 3 3] w fun e w' => e = .returned .nilIface ∧ Below w.heap.size w w' := by
  go_enter Ybad.func17, Ybad.ntmps17
  go_wp2
  go_loopw [7] (fun cv wr => ∃ j : Nat, j ≤ 3 ∧ cv = .int .i64 j ∧ Below w.heap.size w wr) (fun cv _ => 3 - (intOf cv).toNat)
  case atStart => exact ⟨0, by omega, rfl, Below.refl _ _⟩
  case round =>
    obtain ⟨j, hj, rfl, hb⟩ := hrel
    have hn := h.below hb
    by_cases hj3 : j < 3
    · have k0 := hn.c0 j hj3
      have k1 := hn.c1 j hj3
      have k2 := hn.c2 j hj3
      have k3 := hn.c3 j hj3
      have hji : (j : Int) < 3 := by omega
      obtain ⟨i1, i2⟩ := hin j hj3
      go_wp2_with fail
      refine (holds_yes (lo j) (hi j) (v j) _ i1 i2).mono ?_
      rintro e w2 ⟨rfl, hb2⟩
      have hb3 := (hb.alloc hb.size (.cells #[.string (nm j), .int .i64 (v j), .int .i64 (lo j), .int .i64 (hi j)] 65)).trans (hb2.mono (by have := hb.size; simp; omega))
      go_wp2
      go_roundw
      case rel => exact ⟨j + 1, by omega, by go_num, hb3⟩
      case measure => simp [intOf]; omega
    · obtain rfl : j = 3 := by omega
      go_wp2
      go_ret
      exact ⟨rfl, hb⟩

set_option maxHeartbeats 1000000 in
theorem first_bad (g k : Nat) (nm : Nat → ByteArray) (v lo hi : Nat → Int) (w : World) (h : Nums w g nm v lo hi) (hk : k < 3) (hin : ∀ j, j < k → lo j ≤ v j ∧ v j ≤ hi j) (hout : v k < lo k ∨ hi k < v k) :
    Calls Ybad.prog 17 #[.slice (some ⟨g, 0, none⟩) 3 3] w fun e w' => ∃ b, w.heap.size ≤ b ∧ e = .returned (.iface 30 (.pointer (some ⟨b, 0, none⟩))) ∧ ErrAt w' b (nm k) (v k) (lo k) (hi k) ∧ Below w.heap.size w w' := by
  go_enter Ybad.func17, Ybad.ntmps17
  go_wp2
  go_loopw [7] (fun cv wr => ∃ j : Nat, j ≤ k ∧ cv = .int .i64 j ∧ Below w.heap.size w wr) (fun cv _ => 3 - (intOf cv).toNat)
  case atStart => exact ⟨0, by omega, rfl, Below.refl _ _⟩
  case round =>
    obtain ⟨j, hj, rfl, hb⟩ := hrel
    have hn := h.below hb
    have k0 := hn.c0 j (by omega)
    have k1 := hn.c1 j (by omega)
    have k2 := hn.c2 j (by omega)
    have k3 := hn.c3 j (by omega)
    have hji : (j : Int) < 3 := by omega
    by_cases hjk : j < k
    · obtain ⟨i1, i2⟩ := hin j hjk
      clear hout
      go_wp2_with fail
      refine (holds_yes (lo j) (hi j) (v j) _ i1 i2).mono ?_
      rintro e w2 ⟨rfl, hb2⟩
      have hb3 := (hb.alloc hb.size (.cells #[.string (nm j), .int .i64 (v j), .int .i64 (lo j), .int .i64 (hi j)] 65)).trans (hb2.mono (by have := hb.size; simp; omega))
      go_wp2
      go_roundw
      case rel => exact ⟨j + 1, by omega, by go_num, hb3⟩
      case measure => simp [intOf]; omega
    · obtain rfl : j = k := by omega
      have HO : Hid (v j < lo j ∨ hi j < v j) := hout
      clear hout
      go_wp2_with fail
      refine (holds_no (lo j) (hi j) (v j) _ HO.out).mono ?_
      rintro e w2 ⟨rfl, hb2⟩
      have hb3 := (hb.alloc hb.size (.cells #[.string (nm j), .int .i64 (v j), .int .i64 (lo j), .int .i64 (hi j)] 65)).trans (hb2.mono (by have := hb.size; simp; omega))
      have own : ∀ i, w2.cell? ⟨wr.heap.size, i, none⟩ = (wr.alloc (.cells #[.string (nm j), .int .i64 (v j), .int .i64 (lo j), .int .i64 (hi j)] 65)).cell? ⟨wr.heap.size, i, none⟩ := fun i => hb2.cell (p := ⟨wr.heap.size, i, none⟩) (by simp)
      have m0 : w2.cell? ⟨wr.heap.size, 0, none⟩ = some (.string (nm j)) := by rw [own]; simp
      have m1 : w2.cell? ⟨wr.heap.size, 1, none⟩ = some (.int .i64 (v j)) := by rw [own]; simp
      have m2 : w2.cell? ⟨wr.heap.size, 2, none⟩ = some (.int .i64 (lo j)) := by rw [own]; simp
      have m3 : w2.cell? ⟨wr.heap.size, 3, none⟩ = some (.int .i64 (hi j)) := by rw [own]; simp
      clear own
      go_wp2_with fail
      refine (refuse_any (lo j) (hi j) (v j) (nm j) _).mono ?_
      rintro e w3 ⟨rfl, he, hb4⟩
      go_wp2
      go_ret
      exact ⟨w2.heap.size + 1, by have := hb3.size; omega, rfl, he, hb3.trans (hb4.mono hb3.size)⟩
end Go.Proofs.YbulkcaggDoor
