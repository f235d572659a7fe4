import Derived.Test.YbulkcaggApp
namespace Go.Proofs.Ybulkcagg
open Go.RowKit
set_option linter.unusedVariables false

/-- The receiver's eleven cells. -/
def recv (n rd : Nat) (om : Bool) (fa : Int) (av pv : Value) : Array Value :=
  #[.pointer none, .int .i64 n, .int .i64 rd, .slice none 0 0, .slice none 0 0, .pointer none, .bool om, .int .u64 fa, .int .u64 0, av, pv]

def RecvAt (w : World) (C : Nat) (n rd : Nat) (om : Bool) (fa : Int) (av pv : Value) : Prop := w.heap[C]? = some (.cells (recv n rd om fa av pv) 35 (0, 0))

theorem RecvAt.cell {w : World} {C n rd : Nat} {om : Bool} {fa : Int} {av pv : Value} (h : RecvAt w C n rd om fa av pv) (j : Nat) : w.cell? ⟨C, j, none⟩ = (recv n rd om fa av pv)[j]? := cell_of_row _ _ _ _ _ _ h
theorem RecvAt.free {w : World} {C n rd : Nat} {om : Bool} {fa : Int} {av pv : Value} (h : RecvAt w C n rd om fa av pv) (j : Nat) : w.frozen? ⟨C, j, none⟩ = false := frozen_of_row _ _ _ _ _ h
theorem RecvAt.lt {w : World} {C n rd : Nat} {om : Bool} {fa : Int} {av pv : Value} (h : RecvAt w C n rd om fa av pv) : C < w.heap.size := (Array.getElem?_eq_some_iff.1 h).1
theorem RecvAt.kept {S : Nat → Prop} {w w' : World} {C n rd : Nat} {om : Bool} {fa : Int} {av pv : Value} (h : RecvAt w C n rd om fa av pv) (k : Kept S w w') (hs : ¬ S C) : RecvAt w' C n rd om fa av pv :=
  (k.block C h.lt hs).trans h
theorem RecvAt.set {w : World} {C n rd : Nat} {om : Bool} {fa : Int} {av pv : Value} (h : RecvAt w C n rd om fa av pv) (v : Value) : RecvAt (w.setCell ⟨C, 10, none⟩ v) C n rd om fa av v := heap_setCell_same w C 10 _ 35 _ h

theorem slice_tail (G : Nat) (zs : List Int) (o : Nat) : Value.slice (if zs.length - o = 1 then some ⟨G, o, none⟩ else some ⟨G, o + 1, none⟩) (zs.length - o - 1) (zs.length - o - 1) =
    Value.slice (some ⟨G, if zs.length - o = 1 then o else o + 1, none⟩) (zs.length - (o + 1)) (zs.length - (o + 1)) := by
  rw [show zs.length - (o + 1) = zs.length - o - 1 from by omega]
  split <;> rfl

theorem grownBy_setCell (w : World) (b o : Nat) (v : Value) : w.grownBy (w.setCell ⟨b, o, none⟩ v) (some b) :=
  ⟨rfl, rfl, rfl, by simp [World.setCell], fun k _ hk => Below.heap_setCell _ _ _ _ (fun e => hk (by simp [e]))⟩

theorem grow_facts {wr w3 : World} {C n rd : Nat} {om : Bool} {fa : Int} {av pv : Value} {X : Obj} (hrr : RecvAt wr C n rd om fa av pv) (hpC : pv.ownBlock ≠ some C) (hgrow : (wr.alloc X).drew.grownBy w3 pv.ownBlock) :
    w3.cell? ⟨C, 10, none⟩ = some pv ∧ w3.frozen? ⟨C, 10, none⟩ = false ∧ RecvAt w3 C n rd om fa av pv ∧ Kept (fun k => some k = pv.ownBlock) wr w3 := by
  have k : Kept (fun k => some k = pv.ownBlock) wr w3 := ((Kept.refl _ wr).alloc X).drew.grown hgrow (fun k h _ => h.symm)
  have r := hrr.kept k (fun e => hpC e.symm)
  exact ⟨by rw [r.cell]; rfl, r.free 10, r, k⟩

theorem pin_end {B C n rd : Nat} {om : Bool} {fa : Int} {av pv : Value} {w wr w3 : World} {X : Obj} {m : Nat} {xs news : List Value} {g cap : Nat}
    (hrr : RecvAt wr C n rd om fa av pv) (hpC : pv.ownBlock ≠ some C) (hCs : C < w.heap.size) (hkp : Kept (fun _ => False) w wr) (hgrow : (wr.alloc X).drew.grownBy w3 pv.ownBlock)
    (hown : w3.ownsRow B 29 4 (.slice (some ⟨g, 0, none⟩) m cap) m (xs ++ news)) (hrow : ∀ k, (Value.slice (some ⟨g, 0, none⟩) m cap).ownBlock = some k → (wr.alloc X).drew.heap.size ≤ k ∨ pv.ownBlock = some k) :
    RecvAt (w3.setCell ⟨C, 10, none⟩ (.slice (some ⟨g, 0, none⟩) m cap)) C n rd om fa av (.slice (some ⟨g, 0, none⟩) m cap) ∧
    (w3.setCell ⟨C, 10, none⟩ (.slice (some ⟨g, 0, none⟩) m cap)).ownsRow B 29 4 (.slice (some ⟨g, 0, none⟩) m cap) m (xs ++ news) ∧
    Kept (fun k => k = C ∨ some k = pv.ownBlock) w (w3.setCell ⟨C, 10, none⟩ (.slice (some ⟨g, 0, none⟩) m cap)) ∧
    ∀ k, (Value.slice (some ⟨g, 0, none⟩) m cap).ownBlock = some k → w.heap.size ≤ k ∨ pv.ownBlock = some k := by
  obtain ⟨_, _, r3, k3⟩ := grow_facts hrr hpC hgrow
  have hsz : w.heap.size ≤ wr.heap.size := hkp.size
  have hgC : g ≠ C := by
    rintro rfl
    rcases hrow g rfl with h | h
    · simp at h; omega
    · exact hpC h
  refine ⟨r3.set _, hown.kept (grownBy_setCell w3 C 10 _) (.inr (by simp [Value.ownBlock, hgC])), ?_, fun k hk => ?_⟩
  · refine Kept.setCell ?_ _ (fun _ => .inl rfl) _
    exact (hkp.mono (T := fun k => k = C ∨ some k = pv.ownBlock) (fun _ _ h => h.elim)).then k3 (fun i _ h => .inr h)
  · rcases hrow k hk with h | h
    · left; simp at h; omega
    · exact .inr h

/-- What 'pin' leaves: the picks that are left, the receiver with its pins one longer. -/
def PinPost (B C G n rd : Nat) (om : Bool) (fa : Int) (av pv : Value) (ps : List Pin) (zs : List Int) (p r : Int) (R : List Int × Int × Int) (w : World) (e : Ending) (w' : World) : Prop :=
      ∃ (i' o' : Nat) (pv' : Value), i' ≤ zs.length ∧ (i' < zs.length → o' = i') ∧ e = .returned (.slice (some ⟨G, o', none⟩) (zs.length - i') (zs.length - i')) ∧ IsDrop R.1 zs i' ∧ RecvAt w' C n rd om fa av pv' ∧ 
        w'.ownsRow B 29 4 pv' (ps.length + 1) (pinsOf (ps ++ [⟨p, r, R.2.1, R.2.2⟩])) ∧ Kept (fun k => k = C ∨ some k = pv.ownBlock) w w' ∧ ∀ k, pv'.ownBlock = some k → w.heap.size ≤ k ∨ pv.ownBlock = some k

set_option maxHeartbeats 1000000 in
theorem pin_any (B C G : Nat) (n rd : Nat) (om : Bool) (fa : Int) (av pv : Value) (ps : List Pin) (zs : List Int) (p r : Int) (i o : Nat) (R : List Int × Int × Int) (w : World) (hn : n ≤ 64) (hi : i ≤ zs.length) (hL : zs.length ≤ 1024) (ho : i < zs.length → o = i)
    (hr : RecvAt w C n rd om fa av pv) (hc : Ints w G zs) (hCG : C ≠ G) (hps : w.ownsRow B 29 4 pv ps.length (pinsOf ps)) (hpC : pv.ownBlock ≠ some C) (hpG : pv.ownBlock ≠ some G) (hlen : ps.length ≤ 100000) (hB : B ≤ w.heap.size)
    (hR : Hid (picks p n 0 (zs.drop i) 0 0 = R)) :
    Calls Yba.prog 7 #[.pointer (some ⟨C, 0, none⟩), .int .i64 p, .int .i64 r, .slice (some ⟨G, o, none⟩) (zs.length - i) (zs.length - i)] w fun e w' =>
      PinPost B C G n rd om fa av pv ps zs p r R w e w' := by
  have hCs := hr.lt
  go_enter Yba.func7, Yba.ntmps7
  go_wp2
  have hst : PinAt (w.alloc (Obj.cells #[Value.int IntKind.i64 p, Value.int IntKind.i64 r, Value.int IntKind.u64 0, Value.int IntKind.u64 0] 29)) w.heap.size ⟨p, r, 0, 0⟩ := by unfold PinAt; rw [heap_alloc_new]; rfl
  have hkp0 := (Kept.refl (fun _ => False) w).alloc (Obj.cells #[Value.int IntKind.i64 p, Value.int IntKind.i64 r, Value.int IntKind.u64 0, Value.int IntKind.u64 0] 29)
  have hsz0 : (w.alloc (Obj.cells #[Value.int IntKind.i64 p, Value.int IntKind.i64 r, Value.int IntKind.u64 0, Value.int IntKind.u64 0] 29)).heap.size = w.heap.size + 1 := by simp
  generalize w.alloc (Obj.cells #[Value.int IntKind.i64 p, Value.int IntKind.i64 r, Value.int IntKind.u64 0, Value.int IntKind.u64 0] 29) = W0 at hst hkp0 hsz0 ⊢
  go_loopw [3, 10] (fun sv qv wr => ∃ (i q o : Nat) (ov tv : Int), i ≤ zs.length ∧ q ≤ n ∧ (i < zs.length → o = i) ∧ sv = .slice (some ⟨G, o, none⟩) (zs.length - i) (zs.length - i) ∧ qv = .int .i64 q ∧ PinAt wr w.heap.size ⟨p, r, ov, tv⟩ ∧ Kept (fun _ => False) w wr ∧ wr.heap.size = w.heap.size + 1 ∧ Hid (picks p (n - q) q (zs.drop i) ov tv = R)) (fun _ qv _ => n - (intOf qv).toNat)
  case atStart => exact ⟨i, 0, o, 0, 0, hi, Nat.zero_le _, ho, rfl, rfl, hst, hkp0, hsz0, hR⟩
  case round =>
    clear hst hkp0 hsz0 hR ho
    obtain ⟨i, q, o, ov, tv, hi, hq, ho, rfl, rfl, hk, hkp, hsz, hR'⟩ := hrel
    have hrr := hr.kept hkp (fun h => h)
    have cn : wr.cell? ⟨C, 1, none⟩ = some (.int .i64 n) := by rw [hrr.cell]; rfl
    by_cases hqn : q < n
    · by_cases hil : i < zs.length
      · obtain rfl : o = i := ho hil
        clear ho
        have HF : Hid (n - q = (n - q - 1) + 1 ∧ n - (q + 1) = n - q - 1) := ⟨by omega, by omega⟩
        have hpos : 0 < zs.length - o := by omega
        by_cases hqp : ((q : Int) == p) = true
        · have hN : Hid (picks p (n - (q + 1)) (q + 1) (zs.drop o) ov tv = R) := by
            have := hR'.out
            rw [HF.out.1, drop_at hil, picks_self _ _ _ _ _ _ _ hqp, ← drop_at hil] at this
            rw [HF.out.2]; exact this
          go_wp2
          go_roundw
          case rel => exact ⟨o, q + 1, o, ov, tv, hi, by omega, fun _ => rfl, rfl, by go_num, hk, hkp, hsz, hN⟩
          case measure => simp [intOf]; omega
        · have hqp' : ((q : Int) == p) = false := by simpa using hqp
          clear hqp
          have c2 : wr.cell? ⟨w.heap.size, 2, none⟩ = some (.int .u64 ov) := by rw [hk.cell]; rfl
          have c3 : wr.cell? ⟨w.heap.size, 3, none⟩ = some (.int .u64 tv) := by rw [hk.cell]; rfl
          have f2 := hk.free 2
          have f3 := hk.free 3
          have hGw : G < w.heap.size := hc.1
          have hcz : wr.cell? ⟨G, o, none⟩ = some (.int .i64 (nth zs o)) := (hc.kept hkp (fun e => e)).2 o hil
          by_cases hx : (nth zs o == 1) = true
          · have hN : Hid (picks p (n - (q + 1)) (q + 1) (zs.drop (o + 1)) (orB ov q) (orB tv q) = R) := by
              have := hR'.out
              rw [HF.out.1, drop_at hil, picks_one _ _ _ _ _ _ _ hqp' hx] at this
              rw [HF.out.2]; exact this
            have hk2 := (hk.set2 (orB ov q)).set3 (orB tv q)
            have hkp2 := (hkp.setCell ⟨w.heap.size, 2, none⟩ (fun h => by simp at h) (.int .u64 (orB ov q))).setCell ⟨w.heap.size, 3, none⟩ (fun h => by simp at h) (.int .u64 (orB tv q))
            unfold orB at *
            go_wp2
            go_region
            go_wp2
            go_region
            go_wp2
            go_roundw
            case rel => exact ⟨o + 1, q + 1, if zs.length - o = 1 then o else o + 1, _, _, by omega, by omega, fun h => if_neg (by omega), slice_tail G zs o, by go_num, hk2, hkp2.drew.drew, by simp [World.setCell, hsz], hN⟩
            case measure => simp [intOf]; omega
          · have hx' : (nth zs o == 1) = false := by simpa using hx
            clear hx
            have hN : Hid (picks p (n - (q + 1)) (q + 1) (zs.drop (o + 1)) (orB ov q) tv = R) := by
              have := hR'.out
              rw [HF.out.1, drop_at hil, picks_other _ _ _ _ _ _ _ hqp' hx'] at this
              rw [HF.out.2]; exact this
            have hk2 := (hk.set2 (orB ov q))
            have hkp2 := (hkp.setCell ⟨w.heap.size, 2, none⟩ (fun h => by simp at h) (.int .u64 (orB ov q)))
            unfold orB at *
            go_wp2
            go_region
            go_wp2
            go_roundw
            case rel => exact ⟨o + 1, q + 1, if zs.length - o = 1 then o else o + 1, _, _, by omega, by omega, fun h => if_neg (by omega), slice_tail G zs o, by go_num, hk2, hkp2.drew, by simp [World.setCell, hsz], hN⟩
            case measure => simp [intOf]; omega
      · obtain rfl : i = zs.length := by omega
        have hN : R = (zs.drop zs.length, ov, tv) := by
          have := hR'.out
          rw [List.drop_length, picks_nil] at this
          rw [List.drop_length]; exact this.symm
        subst hN
        clear hR'
        have hown := (hps.kept (row := none) ⟨hkp.os, hkp.tape, hkp.output, hkp.size, fun k hk _ => hkp.block k hk (fun h => h)⟩ (by cases pv.ownBlock <;> simp))
        have c10 : wr.cell? ⟨C, 10, none⟩ = some pv := by rw [hrr.cell]; rfl
        have d0 : wr.cell? ⟨w.heap.size, 0, none⟩ = some (.int .i64 p) := by rw [hk.cell]; rfl
        have d1 : wr.cell? ⟨w.heap.size, 1, none⟩ = some (.int .i64 r) := by rw [hk.cell]; rfl
        have d2 : wr.cell? ⟨w.heap.size, 2, none⟩ = some (.int .u64 ov) := by rw [hk.cell]; rfl
        have d3 : wr.cell? ⟨w.heap.size, 3, none⟩ = some (.int .u64 tv) := by rw [hk.cell]; rfl
        obtain ⟨i0, hi0, hz0, hz1, hz2⟩ := info29'
        go_wp2
        go_region_law ((refine step_append_own rfl (.tmp 52) (.tmp 54) 25 rfl B 29 i0 (.agg #[.int .i64 0, .int .i64 0, .int .u64 0, .int .u64 0]) 4 32 Yba.underlying25 hi0 hz0 hz1 hz2 rfl (by decide) pv ps.length (pinsOf ps) (by simp [Act.eval]) ?_ ⟨wr.heap.size, 0, none⟩ 1 1 (Pin.cells ⟨p, r, ov, tv⟩) (by simp [Act.eval]) rfl ?_ (one_cells _) ?_ ?_ ?_ ?_); (exact hown.alloc _); (exact cell_four_new wr ⟨p, r, ov, tv⟩ 29); (unfold maxLen; omega); omega; (simp; omega); (intro v' w3 hown' hgrow hrow); (obtain ⟨g, cap, hv⟩ := own_form hown' (by omega)); (subst hv); (obtain ⟨e10, g10, _, _⟩ := grow_facts hrr hpC hgrow))
        all_goals
          obtain ⟨a1, a2, a3, a4⟩ := pin_end hrr hpC hCs hkp hgrow hown' hrow
          go_wp2
          go_ret
          exact ⟨zs.length, o, _, by omega, fun h => by omega, by rw [Nat.sub_self]; rfl, rfl, a1, by rw [pinsOf_snoc]; exact a2, a3, a4⟩
    · obtain rfl : q = n := by omega
      have hN : R = (zs.drop i, ov, tv) := by
        have := hR'.out
        rw [Nat.sub_self, picks_zero] at this
        exact this.symm
      subst hN
      clear hR'
      have HO : Hid (i < zs.length → o = i) := ho
      clear ho
      have hown := (hps.kept (row := none) ⟨hkp.os, hkp.tape, hkp.output, hkp.size, fun k hk _ => hkp.block k hk (fun h => h)⟩ (by cases pv.ownBlock <;> simp))
      have c10 : wr.cell? ⟨C, 10, none⟩ = some pv := by rw [hrr.cell]; rfl
      have d0 : wr.cell? ⟨w.heap.size, 0, none⟩ = some (.int .i64 p) := by rw [hk.cell]; rfl
      have d1 : wr.cell? ⟨w.heap.size, 1, none⟩ = some (.int .i64 r) := by rw [hk.cell]; rfl
      have d2 : wr.cell? ⟨w.heap.size, 2, none⟩ = some (.int .u64 ov) := by rw [hk.cell]; rfl
      have d3 : wr.cell? ⟨w.heap.size, 3, none⟩ = some (.int .u64 tv) := by rw [hk.cell]; rfl
      obtain ⟨i0, hi0, hz0, hz1, hz2⟩ := info29'
      go_wp2
      go_region_law ((refine step_append_own rfl (.tmp 52) (.tmp 54) 25 rfl B 29 i0 (.agg #[.int .i64 0, .int .i64 0, .int .u64 0, .int .u64 0]) 4 32 Yba.underlying25 hi0 hz0 hz1 hz2 rfl (by decide) pv ps.length (pinsOf ps) (by simp [Act.eval]) ?_ ⟨wr.heap.size, 0, none⟩ 1 1 (Pin.cells ⟨p, r, ov, tv⟩) (by simp [Act.eval]) rfl ?_ (one_cells _) ?_ ?_ ?_ ?_); (exact hown.alloc _); (exact cell_four_new wr ⟨p, r, ov, tv⟩ 29); (unfold maxLen; omega); omega; (simp; omega); (intro v' w3 hown' hgrow hrow); (obtain ⟨g, cap, hv⟩ := own_form hown' (by omega)); (subst hv); (obtain ⟨e10, g10, _, _⟩ := grow_facts hrr hpC hgrow))
      all_goals
        obtain ⟨a1, a2, a3, a4⟩ := pin_end hrr hpC hCs hkp hgrow hown' hrow
        go_wp2
        go_ret
        exact ⟨i, o, _, by omega, HO.out, rfl, rfl, a1, by rw [pinsOf_snoc]; exact a2, a3, a4⟩
end Go.Proofs.Ybulkcagg
