import Derived.Test.YbulkcaggDoorFirst
namespace Go.Proofs.YbulkcaggDoor
open Go.RowKit
set_option linter.unusedVariables false
set_option linter.unusedSimpArgs false

/-- The three spans that the package lays. -/
structure Glob (w : World) : Prop where
  lt : 3 < w.heap.size
  p0 : w.cell? ⟨1, 0, none⟩ = some (.int .i64 1)
  p1 : w.cell? ⟨1, 1, none⟩ = some (.int .i64 64)
  v0 : w.cell? ⟨2, 0, none⟩ = some (.int .i64 0)
  v1 : w.cell? ⟨2, 1, none⟩ = some (.int .i64 1)
  r0 : w.cell? ⟨3, 0, none⟩ = some (.int .i64 1)
  r1 : w.cell? ⟨3, 1, none⟩ = some (.int .i64 1000)

theorem Glob.below {w w' : World} (h : Glob w) (hb : Below w.heap.size w w') : Glob w' where
  lt := Nat.lt_of_lt_of_le h.lt hb.size
  p0 := by rw [hb.cell (p := ⟨1, 0, none⟩) (by have := h.lt; simp; omega)]; exact h.p0
  p1 := by rw [hb.cell (p := ⟨1, 1, none⟩) (by have := h.lt; simp; omega)]; exact h.p1
  v0 := by rw [hb.cell (p := ⟨2, 0, none⟩) (by have := h.lt; simp; omega)]; exact h.v0
  v1 := by rw [hb.cell (p := ⟨2, 1, none⟩) (by have := h.lt; simp; omega)]; exact h.v1
  r0 := by rw [hb.cell (p := ⟨3, 0, none⟩) (by have := h.lt; simp; omega)]; exact h.r0
  r1 := by rw [hb.cell (p := ⟨3, 1, none⟩) (by have := h.lt; simp; omega)]; exact h.r1

def three {α : Type} (a b c : α) (j : Nat) : α := if j = 0 then a else if j = 1 then b else c

theorem nums_new (w : World) (n0 n1 n2 : ByteArray) (v0 v1 v2 l0 l1 l2 h0 h1 h2 : Int) :
    Nums (w.alloc (.cells #[.string n0, .int .i64 v0, .int .i64 l0, .int .i64 h0, .string n1, .int .i64 v1, .int .i64 l1, .int .i64 h1, .string n2, .int .i64 v2, .int .i64 l2, .int .i64 h2] 65)) w.heap.size
      (three n0 n1 n2) (three v0 v1 v2) (three l0 l1 l2) (three h0 h1 h2) := by
  refine ⟨by simp, ?_, ?_, ?_, ?_⟩
  all_goals
    intro j hj
    have hc : j = 0 ∨ j = 1 ∨ j = 2 := by omega
    rcases hc with rfl | rfl | rfl <;> simp [three]

theorem Nums.drew {w : World} {g : Nat} {nm : Nat → ByteArray} {v lo hi : Nat → Int} (h : Nums w g nm v lo hi) : Nums w.drew g nm v lo hi := ⟨h.lt, h.c0, h.c1, h.c2, h.c3⟩

set_option maxHeartbeats 400000 in
theorem faulty_any (n : Int) (w : World) : Calls Ybad.prog 22 #[.int .i64 n] w fun e w' => e = .returned (.agg #[.int .i64 0, .int .i64 (wrap64 (n - 1))]) ∧ w' = w.alloc (.cells #[.int .i64 0, .int .i64 (wrap64 (n - 1))] 63) := by
  go_enter Ybad.func22, Ybad.ntmps22
  go_wp2
  exact bodyPost_ret (v := .agg #[.int .i64 0, .int .i64 (wrap64 (n - 1))]) (by simp [results, Ybad.results22, go_sem]) rfl ⟨rfl, rfl⟩

set_option maxHeartbeats 400000 in
theorem ids_any (n : Int) (w : World) : Calls Ybad.prog 18 #[.int .i64 n] w fun e w' => e = .returned (.agg #[.int .i64 0, .int .i64 (wrap64 (n - 1))]) ∧ w' = w.alloc (.cells #[.int .i64 0, .int .i64 (wrap64 (n - 1))] 63) := by
  go_enter Ybad.func18, Ybad.ntmps18
  go_wp2
  exact bodyPost_ret (v := .agg #[.int .i64 0, .int .i64 (wrap64 (n - 1))]) (by simp [results, Ybad.results18, go_sem]) rfl ⟨rfl, rfl⟩

/-- The slice of numbers that CheckSize builds, and the block that lies ahead of it. -/
theorem nums_second (w : World) (n0 n1 n2 : ByteArray) (v0 v1 v2 l0 l1 l2 h0 h1 h2 : Int) (X : Obj) :
    Nums ((w.alloc X).alloc (.cells #[.string n0, .int .i64 v0, .int .i64 l0, .int .i64 h0, .string n1, .int .i64 v1, .int .i64 l1, .int .i64 h1, .string n2, .int .i64 v2, .int .i64 l2, .int .i64 h2] 65)).drew (w.heap.size + 1)
      (three n0 n1 n2) (three v0 v1 v2) (three l0 l1 l2) (three h0 h1 h2) := by
  have h := nums_new (w.alloc X) n0 n1 n2 v0 v1 v2 l0 l1 l2 h0 h1 h2
  rw [show (w.alloc X).heap.size = w.heap.size + 1 from by simp] at h
  exact h.drew

theorem below_second {w w' : World} {X Y : Obj} (h : Below ((w.alloc X).alloc Y).drew.heap.size ((w.alloc X).alloc Y).drew w') : Below w.heap.size w w' :=
  ((((Below.refl _ w).alloc (Nat.le_refl _) X).alloc (by simp) Y).drew).trans (h.mono (by simp; omega))

theorem hide {p : Prop} (h : p) : Hid p := h
theorem unhide {p : Prop} (h : Hid p) : p := h
theorem wrap_in (n : Int) (h1 : -9223372036854775808 ≤ n) (h2 : n ≤ 9223372036854775807) : wrap64 n = n := by unfold wrap64; omega

def nmN : ByteArray := { data := #[110] }
def nmF : ByteArray := { data := #[102] }
def nmRounds : ByteArray := { data := #[114, 111, 117, 110, 100, 115] }
def nmId : ByteArray := { data := #[105, 100] }
def nmInput : ByteArray := { data := #[105, 110, 112, 117, 116] }
def nmCommander : ByteArray := { data := #[99, 111, 109, 109, 97, 110, 100, 101, 114] }

set_option maxRecDepth 100000 in
set_option maxHeartbeats 1000000 in
/-- CheckSize answers whatever firstOutside answers of its three numbers. -/
theorem size_any (n f r : Int) (w : World) (hg : Glob w) (R : Value → World → Prop)
    (H0 : Calls Ybad.prog 17 #[.slice (some ⟨w.heap.size + 1, 0, none⟩) 3 3] ((w.alloc (.cells #[.int .i64 0, .int .i64 (wrap64 (n - 1))] 63)).alloc (.cells #[.string { data := #[110] }, .int .i64 n, .int .i64 1, .int .i64 64, .string { data := #[102] }, .int .i64 f, .int .i64 0, .int .i64 (wrap64 (n - 1)), .string { data := #[114, 111, 117, 110, 100, 115] }, .int .i64 r, .int .i64 1, .int .i64 1000] 65)).drew fun e w' => ∃ v, e = .returned v ∧ R v w') :
    Calls Ybad.prog 16 #[.int .i64 n, .int .i64 f, .int .i64 r] w fun e w' => ∃ v, e = .returned v ∧ R v w' := by
  obtain ⟨lt, p0, p1, v0, v1, r0, r1⟩ := hg
  have lt1 : 1 < w.heap.size := by omega
  have H := hide H0
  clear H0
  go_enter Ybad.func16, Ybad.ntmps16
  go_wp2
  go_region_with (first
    | (go_at_call 22; refine (faulty_any n _).mono ?_; rintro e w' ⟨rfl, rfl⟩)
    | (go_at_call 17; refine (unhide H).mono ?_; rintro e w' ⟨v, rfl, hb⟩))
  all_goals
    go_wp2
    go_ret
    exact ⟨v, rfl, hb⟩

set_option maxRecDepth 100000 in
set_option maxHeartbeats 1000000 in
/-- CheckProcess answers whatever firstOutside answers of its three numbers. -/
theorem process_any (n id v : Int) (w : World) (hg : Glob w) (R : Value → World → Prop)
    (H0 : Calls Ybad.prog 17 #[.slice (some ⟨w.heap.size + 1, 0, none⟩) 3 3] ((w.alloc (.cells #[.int .i64 0, .int .i64 (wrap64 (n - 1))] 63)).alloc (.cells #[.string { data := #[110] }, .int .i64 n, .int .i64 1, .int .i64 64, .string { data := #[105, 100] }, .int .i64 id, .int .i64 0, .int .i64 (wrap64 (n - 1)), .string { data := #[105, 110, 112, 117, 116] }, .int .i64 v, .int .i64 0, .int .i64 1] 65)).drew fun e w' => ∃ v, e = .returned v ∧ R v w') :
    Calls Ybad.prog 10 #[.int .i64 n, .int .i64 id, .int .i64 v] w fun e w' => ∃ v, e = .returned v ∧ R v w' := by
  obtain ⟨lt, p0, p1, v0, v1, r0, r1⟩ := hg
  have lt1 : 1 < w.heap.size := by omega
  have lt2 : 2 < w.heap.size := by omega
  have H := hide H0
  clear H0
  go_enter Ybad.func10, Ybad.ntmps10
  go_wp2
  go_region_with (first
    | (go_at_call 18; refine (ids_any n _).mono ?_; rintro e w' ⟨rfl, rfl⟩)
    | (go_at_call 17; refine (unhide H).mono ?_; rintro e w' ⟨u, rfl, hb⟩))
  all_goals
    go_wp2
    go_ret
    exact ⟨u, rfl, hb⟩
end Go.Proofs.YbulkcaggDoor
