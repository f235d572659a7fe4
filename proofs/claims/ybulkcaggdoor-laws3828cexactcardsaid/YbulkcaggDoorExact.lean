import Derived.Test.YbulkcaggDoorExpect
namespace Go.Proofs.YbulkcaggDoor
open Go.RowKit
set_option linter.unusedVariables false
set_option linter.unusedSimpArgs false

/-- The variable errors.errorType: the handle of the type 'error'. -/
def Handle (w : World) : Prop := w.cell? ⟨0, 0, none⟩ = some (.iface 69 (.agg #[.pointer (some ⟨4, 26, none⟩)]))

set_option maxHeartbeats 1000000 in
theorem exact_ok (c : Nat) (f com r id v : Int) (w : World) (hg : Glob w) (h1 : 1 ≤ c) (h2 : c ≤ 64) (h3 : 0 ≤ f) (h4 : f ≤ (c : Int) - 1) (h5 : 1 ≤ r) (h6 : r ≤ 1000) (h7 : 0 ≤ com) (h8 : com ≤ (c : Int) - 1) (h9 : 0 ≤ id) (h10 : id ≤ (c : Int) - 1) (h11 : 0 ≤ v) (h12 : v ≤ 1) :
    Calls Ybad.prog 3 #[.int .i64 c, .int .i64 f, .int .i64 com, .int .i64 r, .int .i64 id, .int .i64 v] w fun e w' => e = .returned (.bool true) ∧ Below w.heap.size w w' := by
  have H1 := hide (expect_ok c f com r id v w (by omega) (by omega) (by omega) (by omega) (by omega) (by omega) (by omega) (by omega) (by omega) (by omega) (by omega) (by omega))
  have H2 := hide (newProcess_ok c f com r id v w hg h1 h2 h3 h4 h5 h6 h7 h8 h9 h10 h11 h12)
  go_enter Ybad.func3, Ybad.ntmps3
  go_wp2_with fail
  refine (unhide H1).mono ?_
  rintro e w1 ⟨rfl, rfl⟩
  unfold expV
  go_wp2_with fail
  refine (unhide H2).mono ?_
  clear H1 H2
  rintro ev w1 ⟨p, hp, rfl, hpr, hb⟩
  go_wp2_with fail
  refine (fresh_any p c com r id v w1 hpr).mono ?_
  rintro ev w2 ⟨rfl, rfl⟩
  go_wp2
  go_ret
  exact ⟨rfl, hb⟩

/-- Behind errors.As: the target holds the error's pointer; of what was there ahead of the target's variable nothing has turned. -/
theorem as_after {w1 : World} {e : Addr} {A B C D E : Obj} {w2 : World} (h : w2 = (((((w1.alloc A).alloc B).alloc C).alloc D).alloc E).setCell ⟨w1.heap.size, 0, none⟩ (.pointer (some e))) (hA : ∃ x, A = .cells #[x] 30) :
    w2.cell? ⟨w1.heap.size, 0, none⟩ = some (.pointer (some e)) ∧ Below w1.heap.size w1 w2 := by
  subst h
  obtain ⟨x, rfl⟩ := hA
  refine ⟨World.cell?_setCell_same _ _ _ (u := x) ?_, Below.setCell (p := ⟨w1.heap.size, 0, none⟩) ?_ (Nat.le_refl _) _⟩
  · rw [World.cell?_alloc_lt _ _ ⟨w1.heap.size, 0, none⟩ (by simp; omega), World.cell?_alloc_lt _ _ ⟨w1.heap.size, 0, none⟩ (by simp; omega), World.cell?_alloc_lt _ _ ⟨w1.heap.size, 0, none⟩ (by simp; omega), World.cell?_alloc_lt _ _ ⟨w1.heap.size, 0, none⟩ (by simp), World.cell?_alloc_new]
    rfl
  · exact (((((Below.refl _ w1).alloc (Nat.le_refl _) _).alloc (by simp) _).alloc (by simp; omega) _).alloc (by simp; omega) _).alloc (by simp; omega) _

set_option maxRecDepth 100000 in
set_option maxHeartbeats 2000000 in
theorem exact_bad (n f com r id v : Int) (nm : ByteArray) (x lo hi : Int) (w : World) (hh : Handle w)
    (hE : Calls Ybad.prog 5 #[.int .i64 n, .int .i64 f, .int .i64 com, .int .i64 r, .int .i64 id, .int .i64 v] w fun e w' => e = .returned (expV nm x lo hi false) ∧ w' = w)
    (hN : Calls Ybad.prog 6 #[.int .i64 n, .int .i64 f, .int .i64 com, .int .i64 r, .int .i64 id, .int .i64 v] w fun e w' => NoProc w nm x lo hi e w') :
    Calls Ybad.prog 3 #[.int .i64 n, .int .i64 f, .int .i64 com, .int .i64 r, .int .i64 id, .int .i64 v] w fun e w' => e = .returned (.bool true) ∧ Below w.heap.size w w' := by
  have H1 := hide hE
  have H2 := hide hN
  clear hE hN
  have hlt : 0 < w.heap.size := World.block_lt_of_cell? w _ hh
  go_enter Ybad.func3, Ybad.ntmps3
  go_wp2_with fail
  refine (unhide H1).mono ?_
  rintro e w1 ⟨rfl, rfl⟩
  unfold expV
  go_wp2_with fail
  refine (unhide H2).mono ?_
  clear H1 H2
  rintro ev w2 ⟨b, hb, rfl, hEr, hB⟩
  have hbl : b < w2.heap.size := (Array.getElem?_eq_some_iff.1 hEr).1
  have hh2 : (w2.alloc (.cells #[.pointer none] 30)).cell? ⟨0, 0, none⟩ = some (.iface 69 (.agg #[.pointer (some ⟨4, 26, none⟩)])) := by
    rw [World.cell?_alloc_lt _ _ ⟨0, 0, none⟩ (by have := hB.size; simp; omega), hB.cell (p := ⟨0, 0, none⟩) hlt]; exact hh
  have HA := hide (as_hit ⟨b, 0, none⟩ ⟨w2.heap.size, 0, none⟩ (.pointer none) (w2.alloc (.cells #[.pointer none] 30)) hh2 (by simp) (by simp))
  clear hh2
  go_wp2_with fail
  refine (unhide HA).mono ?_
  clear HA
  rintro e w3 ⟨rfl, hw3⟩
  obtain ⟨ct, hB3⟩ := as_after hw3 ⟨_, rfl⟩
  clear hw3
  have hE3 : ErrAt w3 b nm x lo hi := (hB3.block b hbl).trans hEr
  have e0 : w3.cell? ⟨b, 0, none⟩ = some (.string nm) := by rw [cell_of_row _ _ _ _ _ _ hE3]; rfl
  have e1 : w3.cell? ⟨b, 1, none⟩ = some (.int .i64 x) := by rw [cell_of_row _ _ _ _ _ _ hE3]; rfl
  have e2 : w3.cell? ⟨b, 2, none⟩ = some (.int .i64 lo) := by rw [cell_of_row _ _ _ _ _ _ hE3]; rfl
  have e3 : w3.cell? ⟨b, 3, none⟩ = some (.int .i64 hi) := by rw [cell_of_row _ _ _ _ _ _ hE3]; rfl
  go_wp2
  go_ret
  exact ⟨rfl, hB.trans (hB3.mono hB.size)⟩

/-- At every six integers the law returns true. -/
theorem exact_any (n f com r id v : Int) (w : World) (hg : Glob w) (hh : Handle w) :
    Calls Ybad.prog 3 #[.int .i64 n, .int .i64 f, .int .i64 com, .int .i64 r, .int .i64 id, .int .i64 v] w fun e w' => e = .returned (.bool true) ∧ Below w.heap.size w w' := by
  by_cases cn : n < 1 ∨ 64 < n
  · exact exact_bad n f com r id v _ _ _ _ w hh (expect_n n f com r id v w cn) (newProcess_bad1 n f com r id v _ _ _ _ w (checkSize_fwd n f com r _ _ _ _ w (size_bad 0 n f r w hg (by omega) (fun j hj => by omega) cn)))
  have n1 : 1 ≤ n := by omega
  have n2 : n ≤ 64 := by omega
  have hw : wrap64 (n - 1) = n - 1 := wrap_in _ (by omega) (by omega)
  by_cases cf : f < 0 ∨ n - 1 < f
  · have h := size_bad 1 n f r w hg (by omega) (fun j hj => by obtain rfl : j = 0 := (by omega); exact ⟨n1, n2⟩) (by rw [hw]; exact cf)
    have e : (three 64 (wrap64 (n - 1)) 1000 1 : Int) = n - 1 := by rw [hw]; rfl
    rw [e] at h
    exact exact_bad n f com r id v _ _ _ _ w hh (expect_f n f com r id v w (by omega) (by omega) cf) (newProcess_bad1 n f com r id v _ _ _ _ w (checkSize_fwd n f com r _ _ _ _ w h))
  have f1 : 0 ≤ f := by omega
  have f2 : f ≤ n - 1 := by omega
  by_cases cr : r < 1 ∨ 1000 < r
  · have h := size_bad 2 n f r w hg (by omega) (fun j hj => by
      have hc : j = 0 ∨ j = 1 := by omega
      rcases hc with rfl | rfl
      · exact ⟨n1, n2⟩
      · exact ⟨f1, by rw [hw]; exact f2⟩) cr
    exact exact_bad n f com r id v _ _ _ _ w hh (expect_r n f com r id v w (by omega) (by omega) (by omega) (by omega) cr) (newProcess_bad1 n f com r id v _ _ _ _ w (checkSize_fwd n f com r _ _ _ _ w h))
  have r1 : 1 ≤ r := by omega
  have r2 : r ≤ 1000 := by omega
  by_cases cc : com < 0 ∨ n - 1 < com
  · exact exact_bad n f com r id v _ _ _ _ w hh (expect_com n f com r id v w (by omega) (by omega) (by omega) (by omega) (by omega) (by omega) cc) (newProcess_bad1 n f com r id v _ _ _ _ w (checkSize_com n f com r w hg n1 n2 f1 f2 r1 r2 cc))
  have c1 : 0 ≤ com := by omega
  have c2 : com ≤ n - 1 := by omega
  have hs := checkSize_ok n f com r w hg n1 n2 f1 f2 r1 r2 c1 c2
  by_cases ci : id < 0 ∨ n - 1 < id
  · have h : ∀ w1, Glob w1 → Calls Ybad.prog 10 #[.int .i64 n, .int .i64 id, .int .i64 v] w1 fun e w' => ∃ v', e = .returned v' ∧ Refuses w1 { data := #[105, 100] } id 0 (n - 1) v' w' := fun w1 g1 => by
      have h := process_bad 1 n id v w1 g1 (by omega) (fun j hj => by obtain rfl : j = 0 := (by omega); exact ⟨n1, n2⟩) (by rw [hw]; exact ci)
      have e : (three 64 (wrap64 (n - 1)) 1 1 : Int) = n - 1 := by rw [hw]; rfl
      rw [e] at h
      exact h
    exact exact_bad n f com r id v _ _ _ _ w hh (expect_id n f com r id v w (by omega) (by omega) (by omega) (by omega) (by omega) (by omega) (by omega) (by omega) ci) (newProcess_bad2 n f com r id v _ _ _ _ w hg hs h)
  have i1 : 0 ≤ id := by omega
  have i2 : id ≤ n - 1 := by omega
  by_cases cv : v < 0 ∨ 1 < v
  · have h : ∀ w1, Glob w1 → Calls Ybad.prog 10 #[.int .i64 n, .int .i64 id, .int .i64 v] w1 fun e w' => ∃ v', e = .returned v' ∧ Refuses w1 { data := #[105, 110, 112, 117, 116] } v 0 1 v' w' := fun w1 g1 =>
      process_bad 2 n id v w1 g1 (by omega) (fun j hj => by
        have hc : j = 0 ∨ j = 1 := by omega
        rcases hc with rfl | rfl
        · exact ⟨n1, n2⟩
        · exact ⟨i1, by rw [hw]; exact i2⟩) cv
    exact exact_bad n f com r id v _ _ _ _ w hh (expect_v n f com r id v w (by omega) (by omega) (by omega) (by omega) (by omega) (by omega) (by omega) (by omega) (by omega) (by omega) cv) (newProcess_bad2 n f com r id v _ _ _ _ w hg hs h)
  obtain ⟨c, rfl⟩ := Int.eq_ofNat_of_zero_le (show 0 ≤ n by omega)
  exact exact_ok c f com r id v w hg (by omega) (by omega) f1 f2 r1 r2 c1 c2 i1 i2 (by omega) (by omega)
end Go.Proofs.YbulkcaggDoor
