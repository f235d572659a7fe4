import Derived.Test.YbulkcadaModel
namespace Go.Proofs.Ybulkcada
open Go.RowKit
set_option linter.unusedVariables false

/-- Sixteen bytes lie from place o of block g on. -/
def Row16 (w : World) (g o : Nat) (z : Nat → Int) : Prop := ∀ k, k < 16 → w.cell? ⟨g, o + k, none⟩ = some (.int .u8 (z k))

theorem Row16.lt {w : World} {g o : Nat} {z : Nat → Int} (h : Row16 w g o z) : g < w.heap.size := block_lt_of_cell (h 0 (by omega))

theorem Row16.below {w w' : World} {g o B : Nat} {z : Nat → Int} (h : Row16 w g o z) (hb : Below B w w') (hB : g < B) : Row16 w' g o z :=
  fun k hk => by rw [hb.cell (p := ⟨g, o + k, none⟩) hB]; exact h k hk

theorem Row16.alloc {w : World} {g o : Nat} {z : Nat → Int} (h : Row16 w g o z) (x : Obj) : Row16 (w.alloc x) g o z :=
  h.below ((Below.refl _ w).alloc (Nat.le_refl _) x) h.lt

theorem Row16.drew {w : World} {g o : Nat} {z : Nat → Int} (h : Row16 w g o z) : Row16 w.drew g o z := h

theorem uint64_row (g o n c s : Nat) (z : Nat → Int) (w : World) (hn : 8 ≤ n) (hs : s ≤ 8) (hz : ∀ k, k < 16 → 0 ≤ z k ∧ z k ≤ 255) (hr : Row16 w g o z) :
    Calls Yba.prog 7 #[.agg #[], .slice (some ⟨g, o + s, none⟩) n c] w fun e w' => e = .returned (.int .u64 (horner z s 8)) ∧ Below w.heap.size w w' := by
  rw [horner_8]
  have hc : ∀ k, k < 8 → w.cell? ⟨g, o + s + k, none⟩ = some (.int .u8 (z (s + k))) := fun k hk => by
    rw [Nat.add_assoc]; exact hr (s + k) (by omega)
  exact uint64_any g (o + s) n c _ _ _ _ _ _ _ _ w hn (hz _ (by omega)) (hz _ (by omega)) (hz _ (by omega)) (hz _ (by omega)) (hz _ (by omega)) (hz _ (by omega)) (hz _ (by omega)) (hz _ (by omega))
    (hc 0 (by omega)) (hc 1 (by omega)) (hc 2 (by omega)) (hc 3 (by omega)) (hc 4 (by omega)) (hc 5 (by omega)) (hc 6 (by omega)) (hc 7 (by omega))

theorem uint64_row0 (g o n c : Nat) (z : Nat → Int) (w : World) (hn : 8 ≤ n) (hz : ∀ k, k < 16 → 0 ≤ z k ∧ z k ≤ 255) (hr : Row16 w g o z) :
    Calls Yba.prog 7 #[.agg #[], .slice (some ⟨g, o, none⟩) n c] w fun e w' => e = .returned (.int .u64 (horner z 0 8)) ∧ Below w.heap.size w w' :=
  uint64_row g o n c 0 z w hn (by omega) hz hr

theorem bcell {W w1 : World} (hb : Below W.heap.size W w1) : (∀ b o, b < W.heap.size → w1.cell? ⟨b, o, none⟩ = W.cell? ⟨b, o, none⟩) ∧ (∀ b o, b < W.heap.size → w1.frozen? ⟨b, o, none⟩ = W.frozen? ⟨b, o, none⟩) :=
  ⟨fun b o h => hb.cell (p := ⟨b, o, none⟩) h, fun b o h => hb.frozen (p := ⟨b, o, none⟩) h⟩

theorem own_kept {w w1 w2 : World} (hb1 : Below (w.alloc (.cells #[.int .u64 0, .int .u64 0] 25)).drew.heap.size (w.alloc (.cells #[.int .u64 0, .int .u64 0] 25)).drew w1) (hb2 : Below w1.heap.size w1 w2) :
    w2.cell? ⟨w.heap.size, 0, none⟩ = some (.int .u64 0) ∧ w2.cell? ⟨w.heap.size, 1, none⟩ = some (.int .u64 0) ∧ w2.frozen? ⟨w.heap.size, 0, none⟩ = false ∧ w2.frozen? ⟨w.heap.size, 1, none⟩ = false ∧ w.heap.size < w2.heap.size ∧ Below w.heap.size w w2 := by
  have e1 : w.heap.size < w1.heap.size := by have := hb1.size; simp at this; omega
  have e2 : w.heap.size < w2.heap.size := by have := hb2.size; omega
  have e0 : w.heap.size < (w.alloc (.cells #[.int .u64 0, .int .u64 0] 25)).drew.heap.size := by simp
  refine ⟨?_, ?_, ?_, ?_, e2, ?_⟩
  · rw [hb2.cell (p := ⟨w.heap.size, 0, none⟩) e1, hb1.cell (p := ⟨w.heap.size, 0, none⟩) e0]; simp
  · rw [hb2.cell (p := ⟨w.heap.size, 1, none⟩) e1, hb1.cell (p := ⟨w.heap.size, 1, none⟩) e0]; simp
  · rw [hb2.frozen (p := ⟨w.heap.size, 0, none⟩) e1, hb1.frozen (p := ⟨w.heap.size, 0, none⟩) e0]; simp
  · rw [hb2.frozen (p := ⟨w.heap.size, 1, none⟩) e1, hb1.frozen (p := ⟨w.heap.size, 1, none⟩) e0]; simp
  · exact (((Below.refl _ w).alloc (Nat.le_refl _) _).drew.trans (hb1.mono (by simp))).trans (hb2.mono (by omega))

set_option maxHeartbeats 400000 in
theorem parse_no (a : Option Addr) (n c : Nat) (w : World) (hn : ((n : Int) == 16) = false) :
    Calls Yba.prog 5 #[.slice a n c] w fun e w' => e = .returned (.tuple #[.agg #[.int .u64 0, .int .u64 0], .bool false]) ∧ Below w.heap.size w w' := by
  go_enter Yba.func5, Yba.ntmps5
  go_wp2
  exact bodyPost_ret (v := .tuple #[.agg #[.int .u64 0, .int .u64 0], .bool false]) (by simp [results, Yba.results5, go_sem]) rfl ⟨rfl, (Below.refl _ _).alloc (Nat.le_refl _) _⟩

set_option maxHeartbeats 1000000 in
theorem parse_yes (g o c : Nat) (z : Nat → Int) (w : World) (hz : ∀ k, k < 16 → 0 ≤ z k ∧ z k ≤ 255) (hr : Row16 w g o z) (hc : 16 ≤ c) :
    Calls Yba.prog 5 #[.slice (some ⟨g, o, none⟩) 16 c] w fun e w' => e = .returned (.tuple #[.agg #[.int .u64 (horner z 0 8), .int .u64 (horner z 8 8)], .bool true]) ∧ Below w.heap.size w w' := by
  have hlt := hr.lt
  go_enter Yba.func5, Yba.ntmps5
  go_wp2
  go_region_with (first
    | (go_at_call_of 7 (Value.slice (some ⟨g, o, none⟩) 16 c)
       refine (uint64_row0 g o 16 c z _ (by omega) hz ?_).mono ?_
       exact (hr.alloc _).drew
       rintro e w1 ⟨rfl, hb1⟩)
    | (go_at_call 7; go_must ((refine (uint64_row g o 8 (c - 8) 8 z _ (by omega) (by omega) hz ?_).mono ?_); (exact (hr.alloc _).drew.below hb1 (by simp; omega)); (rintro e w2 ⟨rfl, hb2⟩); (obtain ⟨s0, s1, f0, f1, sz, bel⟩ := own_kept hb1 hb2))))
  all_goals
    go_wp2
    exact bodyPost_ret (v := .tuple #[.agg #[.int .u64 (horner z 0 8), .int .u64 (horner z 8 8)], .bool true]) (by simp [results, Yba.results5, go_sem, s0, s1]) rfl ⟨rfl, (bel.setCell (Nat.le_refl _) _).setCell (Nat.le_refl _) _⟩
end Go.Proofs.Ybulkcada
