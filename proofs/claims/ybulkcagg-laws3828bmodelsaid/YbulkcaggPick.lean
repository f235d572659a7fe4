import Derived.Test.YbulkcaggChecked
import Derived.Test.YbulkcaggPure
import Derived.WalkSpells
import Derived.BigQuiet
import Derived.Deep.QuietTactic
import Derived.Deep.RegionWith
import Derived.RegionTactic
namespace Go.Proofs.Ybulkcagg
open Go.RowKit
set_option linter.unusedVariables false

set_option maxHeartbeats 400000 in
theorem has_any (f : Int) (p : Nat) (w : World) (hp : p < 64) :
    Calls Yba.prog 6 #[.int .u64 f, .int .i64 p] w fun e w' => e = .returned (.bool (bitB f p)) ∧ w' = w := by
  go_enter Yba.func6, Yba.ntmps6
  go_wp2
  go_ret
  exact ⟨rfl, rfl⟩

/-- The four cells of a pin in block K. -/
def PinAt (w : World) (K : Nat) (x : Pin) : Prop := w.heap[K]? = some (.cells x.cells.toArray 29 (0, 0))

theorem PinAt.cell {w : World} {K : Nat} {x : Pin} (h : PinAt w K x) (j : Nat) : w.cell? ⟨K, j, none⟩ = x.cells[j]? := by
  rw [cell_of_row _ _ _ _ _ _ h]; simp
theorem PinAt.free {w : World} {K : Nat} {x : Pin} (h : PinAt w K x) (j : Nat) : w.frozen? ⟨K, j, none⟩ = false := frozen_of_row _ _ _ _ _ h
theorem PinAt.set2 {w : World} {K : Nat} {x : Pin} (h : PinAt w K x) (v : Int) : PinAt (w.setCell ⟨K, 2, none⟩ (.int .u64 v)) K { x with ov := v } := heap_setCell_same w K 2 _ 29 _ h
theorem PinAt.set3 {w : World} {K : Nat} {x : Pin} (h : PinAt w K x) (v : Int) : PinAt (w.setCell ⟨K, 3, none⟩ (.int .u64 v)) K { x with tv := v } := heap_setCell_same w K 3 _ 29 _ h

/-- The numbers zs lie in block G from its start on. -/
def Ints (w : World) (G : Nat) (zs : List Int) : Prop := G < w.heap.size ∧ ∀ j, j < zs.length → w.cell? ⟨G, j, none⟩ = some (.int .i64 (nth zs j))
theorem Ints.kept {S : Nat → Prop} {w w' : World} {G : Nat} {zs : List Int} (h : Ints w G zs) (k : Kept S w w') (hs : ¬ S G) : Ints w' G zs :=
  ⟨Nat.lt_of_lt_of_le h.1 k.size, fun j hj => by rw [k.cell (p := ⟨G, j, none⟩) h.1 hs]; exact h.2 j hj⟩

set_option maxHeartbeats 1000000 in
theorem pick_any (K G : Nat) (x : Pin) (zs : List Int) (i n : Nat) (R : List Int × Int × Int) (w : World) (hn : n ≤ 64) (hi : i ≤ zs.length) (hL : zs.length ≤ 1024) (hKG : K ≠ G)
    (hx0 : x.ov = 0) (hx1 : x.tv = 0) (hk : PinAt w K x) (hc : Ints w G zs) (hR : Hid (picks x.p n 0 (zs.drop i) 0 0 = R)) :
    Calls Yba.prog 5 #[.pointer (some ⟨K, 0, none⟩), .slice (some ⟨G, 0, none⟩) zs.length zs.length, .int .i64 i, .int .i64 n] w fun e w' =>
      ∃ i' : Nat, i' ≤ zs.length ∧ e = .returned (.int .i64 i') ∧ IsDrop R.1 zs i' ∧ PinAt w' K ⟨x.p, x.r, R.2.1, R.2.2⟩ ∧ Kept (fun k => k = K) w w' ∧ w'.heap.size = w.heap.size := by
  go_enter Yba.func5, Yba.ntmps5
  go_wp2
  go_loopw [2, 9] (fun iv qv wr => ∃ (i q : Nat) (ov tv : Int), i ≤ zs.length ∧ q ≤ n ∧ iv = .int .i64 i ∧ qv = .int .i64 q ∧ PinAt wr K ⟨x.p, x.r, ov, tv⟩ ∧ Kept (fun k => k = K) w wr ∧ wr.heap.size = w.heap.size ∧ Hid (picks x.p (n - q) q (zs.drop i) ov tv = R)) (fun iv qv _ => n - (intOf qv).toNat)
  case atStart => exact ⟨i, 0, 0, 0, hi, Nat.zero_le _, rfl, rfl, by obtain ⟨a, b, c, d⟩ := x; simp only at hx0 hx1; subst hx0 hx1; exact hk, Kept.refl _ _, rfl, hR⟩
  case round =>
    clear hk
    obtain ⟨i, q, ov, tv, hi, hq, rfl, rfl, hk, hkp, hsz, hR'⟩ := hrel
    by_cases hqn : q < n
    · obtain ⟨f, hf⟩ : ∃ f, n - q = f + 1 := ⟨n - q - 1, by omega⟩
      have hf' : n - (q + 1) = f := by omega
      by_cases hil : i < zs.length
      · have c0 : wr.cell? ⟨K, 0, none⟩ = some (.int .i64 x.p) := by rw [hk.cell]; rfl
        have HF : Hid (n - q = f + 1 ∧ n - (q + 1) = f) := ⟨hf, hf'⟩
        clear hf hf'
        by_cases hqp : ((q : Int) == x.p) = true
        · have hN : Hid (picks x.p (n - (q + 1)) (q + 1) (zs.drop i) ov tv = R) := by
            have := hR'.out
            rw [HF.out.1, drop_at hil, picks_self _ _ _ _ _ _ _ hqp, ← drop_at hil] at this
            rw [HF.out.2]; exact this
          go_wp2
          go_roundw
          case rel => exact ⟨i, q + 1, ov, tv, hi, by omega, rfl, by go_num, hk, hkp, hsz, hN⟩
          case measure => simp [intOf]; omega
        · have hqp' : ((q : Int) == x.p) = false := by simpa using hqp
          clear hqp
          have c2 : wr.cell? ⟨K, 2, none⟩ = some (.int .u64 ov) := by rw [hk.cell]; rfl
          have c3 : wr.cell? ⟨K, 3, none⟩ = some (.int .u64 tv) := by rw [hk.cell]; rfl
          have f2 := hk.free 2
          have f3 := hk.free 3
          have hcz : wr.cell? ⟨G, i, none⟩ = some (.int .i64 (nth zs i)) := (hc.kept hkp (fun e => hKG e.symm)).2 i hil
          have hcz2 : (wr.setCell ⟨K, 2, none⟩ (.int .u64 (orB ov q))).cell? ⟨G, i, none⟩ = some (.int .i64 (nth zs i)) := by
            rw [World.cell?_setCell_other _ _ _ _ (by simp)]; exact hcz
          by_cases hx : (nth zs i == 1) = true
          · have hN : Hid (picks x.p (n - (q + 1)) (q + 1) (zs.drop (i + 1)) (orB ov q) (orB tv q) = R) := by
              have := hR'.out
              rw [HF.out.1, drop_at hil, picks_one _ _ _ _ _ _ _ hqp' hx] at this
              rw [HF.out.2]; exact this
            have hk2 := (hk.set2 (orB ov q)).set3 (orB tv q)
            have hkp2 := (hkp.setCell ⟨K, 2, none⟩ (fun _ => rfl) (.int .u64 (orB ov q))).setCell ⟨K, 3, none⟩ (fun _ => rfl) (.int .u64 (orB tv q))
            unfold orB at *
            go_wp2
            go_roundw
            case rel => exact ⟨i + 1, q + 1, _, _, by omega, by omega, by go_num, by go_num, hk2, hkp2, by simp [World.setCell, hsz], hN⟩
            case measure => simp [intOf]; omega
          · have hx' : (nth zs i == 1) = false := by simpa using hx
            clear hx
            have hN : Hid (picks x.p (n - (q + 1)) (q + 1) (zs.drop (i + 1)) (orB ov q) tv = R) := by
              have := hR'.out
              rw [HF.out.1, drop_at hil, picks_other _ _ _ _ _ _ _ hqp' hx'] at this
              rw [HF.out.2]; exact this
            have hk2 := (hk.set2 (orB ov q))
            have hkp2 := (hkp.setCell ⟨K, 2, none⟩ (fun _ => rfl) (.int .u64 (orB ov q)))
            unfold orB at *
            go_wp2
            go_roundw
            case rel => exact ⟨i + 1, q + 1, _, _, by omega, by omega, by go_num, by go_num, hk2, hkp2, by simp [World.setCell, hsz], hN⟩
            case measure => simp [intOf]; omega
      · obtain rfl : i = zs.length := by omega
        have hN : R = (zs.drop zs.length, ov, tv) := by
          have := hR'.out
          rw [List.drop_length, picks_nil] at this
          rw [List.drop_length]; exact this.symm
        subst hN
        clear hR' hR
        go_wp2
        go_ret
        exact ⟨zs.length, Nat.le_refl _, rfl, (List.drop_length).symm, hk, hkp, hsz⟩
    · obtain rfl : q = n := by omega
      have hN : R = (zs.drop i, ov, tv) := by
        have := hR'.out
        rw [Nat.sub_self, picks_zero] at this
        exact this.symm
      subst hN
      clear hR' hR
      by_cases hil : i < zs.length
      all_goals
        go_wp2
        go_ret
        exact ⟨i, hi, rfl, rfl, hk, hkp, hsz⟩
end Go.Proofs.Ybulkcagg
