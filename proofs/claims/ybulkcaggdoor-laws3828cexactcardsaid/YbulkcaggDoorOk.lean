import Derived.Test.YbulkcaggDoorCheck
namespace Go.Proofs.YbulkcaggDoor
open Go.RowKit
set_option linter.unusedVariables false
set_option linter.unusedSimpArgs false

/-- What a check that refuses nothing answers. -/
def NoErr (w : World) (v : Value) (w' : World) : Prop := v = .nilIface ∧ Below w.heap.size w w'
/-- What a check that refuses answers: a range error in a new block. -/
def Refuses (w : World) (nm : ByteArray) (x lo hi : Int) (v : Value) (w' : World) : Prop := ∃ b, w.heap.size ≤ b ∧ v = .iface 30 (.pointer (some ⟨b, 0, none⟩)) ∧ ErrAt w' b nm x lo hi ∧ Below w.heap.size w w'

theorem three_in {v0 v1 v2 l0 l1 l2 h0 h1 h2 : Int} (a : l0 ≤ v0 ∧ v0 ≤ h0) (b : l1 ≤ v1 ∧ v1 ≤ h1) (c : l2 ≤ v2 ∧ v2 ≤ h2) : ∀ j, j < 3 → three l0 l1 l2 j ≤ three v0 v1 v2 j ∧ three v0 v1 v2 j ≤ three h0 h1 h2 j := by
  intro j hj
  have hc : j = 0 ∨ j = 1 ∨ j = 2 := by omega
  rcases hc with rfl | rfl | rfl
  · exact a
  · exact b
  · exact c

section
variable {w : World} {n0 n1 n2 : ByteArray} {v0 v1 v2 l0 l1 l2 h0 h1 h2 : Int} {X : Obj}

theorem f_ok (a : l0 ≤ v0 ∧ v0 ≤ h0) (b : l1 ≤ v1 ∧ v1 ≤ h1) (c : l2 ≤ v2 ∧ v2 ≤ h2) :
    Calls Ybad.prog 17 #[.slice (some ⟨w.heap.size + 1, 0, none⟩) 3 3] ((w.alloc X).alloc (.cells #[.string n0, .int .i64 v0, .int .i64 l0, .int .i64 h0, .string n1, .int .i64 v1, .int .i64 l1, .int .i64 h1, .string n2, .int .i64 v2, .int .i64 l2, .int .i64 h2] 65)).drew fun e w' => ∃ v, e = .returned v ∧ NoErr w v w' :=
  (first_ok (w.heap.size + 1) _ _ _ _ _ (nums_second w n0 n1 n2 v0 v1 v2 l0 l1 l2 h0 h1 h2 X) (three_in a b c)).mono fun e w' h => ⟨_, h.1, rfl, below_second h.2⟩

theorem f_bad (k : Nat) (hk : k < 3) (hin : ∀ j, j < k → three l0 l1 l2 j ≤ three v0 v1 v2 j ∧ three v0 v1 v2 j ≤ three h0 h1 h2 j) (hout : three v0 v1 v2 k < three l0 l1 l2 k ∨ three h0 h1 h2 k < three v0 v1 v2 k) :
    Calls Ybad.prog 17 #[.slice (some ⟨w.heap.size + 1, 0, none⟩) 3 3] ((w.alloc X).alloc (.cells #[.string n0, .int .i64 v0, .int .i64 l0, .int .i64 h0, .string n1, .int .i64 v1, .int .i64 l1, .int .i64 h1, .string n2, .int .i64 v2, .int .i64 l2, .int .i64 h2] 65)).drew
      fun e w' => ∃ v, e = .returned v ∧ Refuses w (three n0 n1 n2 k) (three v0 v1 v2 k) (three l0 l1 l2 k) (three h0 h1 h2 k) v w' :=
  (first_bad (w.heap.size + 1) k _ _ _ _ _ (nums_second w n0 n1 n2 v0 v1 v2 l0 l1 l2 h0 h1 h2 X) hk hin hout).mono fun e w' ⟨b, hb, he, hE, hB⟩ => ⟨_, he, b, by simp at hb; omega, rfl, hE, below_second hB⟩
end

theorem size_ok (n f r : Int) (w : World) (hg : Glob w) (h1 : 1 ≤ n) (h2 : n ≤ 64) (h3 : 0 ≤ f) (h4 : f ≤ n - 1) (h5 : 1 ≤ r) (h6 : r ≤ 1000) :
    Calls Ybad.prog 16 #[.int .i64 n, .int .i64 f, .int .i64 r] w fun e w' => ∃ v, e = .returned v ∧ NoErr w v w' :=
  size_any n f r w hg _ (f_ok ⟨h1, h2⟩ ⟨h3, by rw [wrap_in _ (by omega) (by omega)]; exact h4⟩ ⟨h5, h6⟩)

theorem process_ok (n id v : Int) (w : World) (hg : Glob w) (h1 : 1 ≤ n) (h2 : n ≤ 64) (h3 : 0 ≤ id) (h4 : id ≤ n - 1) (h5 : 0 ≤ v) (h6 : v ≤ 1) :
    Calls Ybad.prog 10 #[.int .i64 n, .int .i64 id, .int .i64 v] w fun e w' => ∃ v, e = .returned v ∧ NoErr w v w' :=
  process_any n id v w hg _ (f_ok ⟨h1, h2⟩ ⟨h3, by rw [wrap_in _ (by omega) (by omega)]; exact h4⟩ ⟨h5, h6⟩)

theorem heap_eq {w : World} {b : Nat} {o : Obj} (h : w.heap[b]? = some o) : b < w.heap.size := (Array.getElem?_eq_some_iff.1 h).1

set_option maxHeartbeats 1000000 in
theorem checkSize_ok (n f com r : Int) (w : World) (hg : Glob w) (h1 : 1 ≤ n) (h2 : n ≤ 64) (h3 : 0 ≤ f) (h4 : f ≤ n - 1) (h5 : 1 ≤ r) (h6 : r ≤ 1000) (h7 : 0 ≤ com) (h8 : com ≤ n - 1) :
    Calls Ybad.prog 9 #[.int .i64 n, .int .i64 f, .int .i64 com, .int .i64 r] w fun e w' => ∃ v, e = .returned v ∧ NoErr w v w' := by
  have h7' : ¬ com < 0 := by omega
  have h8' : ¬ n - 1 < com := by omega
  go_enter Ybad.func9, Ybad.ntmps9
  go_wp2_with fail
  refine (size_ok n f r w hg h1 h2 h3 h4 h5 h6).mono ?_
  rintro e w1 ⟨_, rfl, rfl, hb⟩
  go_wp2
  go_ret
  exact ⟨_, rfl, rfl, hb⟩

theorem ProcAt.value {w : World} {b : Nat} {n com rd id v : Int} {c : Nat} (h : ProcAt w b n com rd id v c) (u : Int) : ProcAt (w.setCell ⟨b, 4, none⟩ (.int .i64 u)) b n com rd id u c := by
  obtain ⟨a1, a2, a3, a4, h⟩ := h
  exact ⟨a1, a2, a3, a4, heap_setCell_same w b 4 _ 47 _ h⟩

set_option maxHeartbeats 1000000 in
theorem newProcess_ok (c : Nat) (f com r id v : Int) (w : World) (hg : Glob w) (h1 : 1 ≤ c) (h2 : c ≤ 64) (h3 : 0 ≤ f) (h4 : f ≤ (c : Int) - 1) (h5 : 1 ≤ r) (h6 : r ≤ 1000) (h7 : 0 ≤ com) (h8 : com ≤ (c : Int) - 1) (h9 : 0 ≤ id) (h10 : id ≤ (c : Int) - 1) (h11 : 0 ≤ v) (h12 : v ≤ 1) :
    Calls Ybad.prog 6 #[.int .i64 c, .int .i64 f, .int .i64 com, .int .i64 r, .int .i64 id, .int .i64 v] w fun e w' => ∃ b, w.heap.size ≤ b ∧ e = .returned (.tuple #[.pointer (some ⟨b, 0, none⟩), .nilIface]) ∧ ProcAt w' b c com r id v c ∧ Below w.heap.size w w' := by
  go_enter Ybad.func6, Ybad.ntmps6
  go_wp2_with fail
  refine (checkSize_ok c f com r w hg (by omega) (by omega) h3 h4 h5 h6 h7 h8).mono ?_
  rintro e w1 ⟨_, rfl, rfl, hb⟩
  go_wp2_with fail
  refine (process_ok c id v w1 (hg.below hb) (by omega) (by omega) h9 h10 h11 h12).mono ?_
  rintro e w2 ⟨_, rfl, rfl, hb2⟩
  have hb3 := hb.trans (hb2.mono hb.size)
  clear hb hb2
  go_wp2_with fail
  refine (new_any c com r id w2 h2).mono ?_
  rintro e w3 ⟨rfl, hp, hb4⟩
  obtain ⟨a1, a2, a3, a4, hh⟩ := hp
  have k4 : w3.cell? ⟨w2.heap.size, 4, none⟩ = some (.int .i64 0) := by rw [cell_of_row _ _ _ _ _ _ hh]; rfl
  have f4 : w3.frozen? ⟨w2.heap.size, 4, none⟩ = false := frozen_of_row _ _ _ _ _ hh
  have hv : ProcAt (w3.setCell ⟨w2.heap.size, 4, none⟩ (.int .i64 v)) w2.heap.size c com r id v c := ProcAt.value ⟨a1, a2, a3, a4, hh⟩ v
  clear hh
  go_wp2
  go_ret2
  exact ⟨w2.heap.size, hb3.size, rfl, hv, (hb3.trans (hb4.mono hb3.size)).setCell hb3.size _⟩
end Go.Proofs.YbulkcaggDoor
