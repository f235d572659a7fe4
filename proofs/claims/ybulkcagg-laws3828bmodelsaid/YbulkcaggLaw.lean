import Derived.Test.YbulkcaggMem
import Derived.Deep.DeepCutAuto
import Derived.Deep.LoopGhost
import Derived.Deep.Light
import Derived.Laws.StructEq
namespace Go.Proofs.Ybulkcagg
open Go.RowKit
set_option linter.unusedVariables false
set_option linter.unusedSimpArgs false

/-- The elements of the slice of old pins that came in. -/
def InPins (w : World) (a : Option Addr) (M : Nat) : Prop :=
  M = 0 ∨ ∃ b o, ∃ f : Nat → Pin, a = some ⟨b, o, none⟩ ∧ b < w.heap.size ∧ ∀ j, j < M → w.cell? ⟨b, o + j * 4, none⟩ = some (.int .i64 (f j).p) ∧ w.cell? ⟨b, o + j * 4 + 1, none⟩ = some (.int .i64 (f j).r) ∧ w.cell? ⟨b, o + j * 4 + 2, none⟩ = some (.int .u64 (f j).ov) ∧ w.cell? ⟨b, o + j * 4 + 3, none⟩ = some (.int .u64 (f j).tv)

/-- What has been laid ahead of 'c': the copy of the prefix and 'at'. -/
structure Pre (w wr : World) (zs av : List Int) (nn : Nat) : Prop where
  below : Below w.heap.size w wr
  size : wr.heap.size = w.heap.size + 2
  pre : Row wr w.heap.size zs
  row : Row wr (w.heap.size + 1) av
  len : av.length = nn

theorem Pre.setAt {w wr : World} {zs av : List Int} {nn : Nat} (h : Pre w wr zs av nn) (j : Nat) (hj : j < nn) (v : Int) : Pre w (wr.setCell ⟨w.heap.size + 1, j, none⟩ (.int .i64 v)) zs (av.set j v) nn where
  below := h.below.setCell (by simp) _
  size := by simp [World.setCell, h.size]
  pre := h.pre.kept ((Kept.refl (fun k => k = w.heap.size + 1) wr).setCell ⟨w.heap.size + 1, j, none⟩ (fun _ => rfl) _) (by omega)
  row := h.row.set j (by rw [h.len]; exact hj) v
  len := by simpa using h.len

/-- .. and the old pins. -/
structure Pins (w wr : World) (zs av : List Int) (nn j M : Nat) (xs : List Value) : Prop where
  below : Below w.heap.size w wr
  size : w.heap.size + 3 ≤ wr.heap.size
  pre : Row wr w.heap.size zs
  row : Row wr (w.heap.size + 1) av
  len : av.length = nn
  own : wr.ownsRow (w.heap.size + 2) 29 4 (.slice (some ⟨w.heap.size + 2, 0, none⟩) j M) j xs

theorem Pre.pins {w wr : World} {zs av : List Int} {nn M : Nat} (h : Pre w wr zs av nn) (hM : M ≤ 1024) : Pins w (wr.alloc (.cells (zeroPins M) 29)) zs av nn 0 M [] where
  below := h.below.alloc (by have := h.size; omega) _
  size := by have := h.size; simp; omega
  pre := h.pre.kept ((Kept.refl (fun _ => False) wr).alloc _) (fun h => h)
  row := h.row.kept ((Kept.refl (fun _ => False) wr).alloc _) (fun h => h)
  len := h.len
  own := by
    have := ownsRow_pins wr (w.heap.size + 2) M hM (by have := h.size; omega)
    rw [h.size] at this
    exact this

theorem Pins.append {w wr : World} {zs av : List Int} {nn j M : Nat} {xs : List Value} (h : Pins w wr zs av nn j M xs) (hM : M ≤ 1024) (x : Pin) (hj : j < M) :
    ∃ w', (Builtin.append_ #[25, 25] 25 #[.slice (some ⟨w.heap.size + 2, 0, none⟩) j M, .slice (some ⟨wr.heap.size + 1, 0, none⟩) 1 1]).run Yba.prog ((wr.alloc (.cells #[.int .i64 x.p, .int .i64 x.r, .int .u64 x.ov, .int .u64 x.tv] 27)).alloc (.cells #[.int .i64 x.p, .int .i64 x.r, .int .u64 x.ov, .int .u64 x.tv] 29)) = .ok (.slice (some ⟨w.heap.size + 2, 0, none⟩) (j + 1) M) w' ∧
      Pins w w' zs av nn (j + 1) M (xs ++ x.cells) := by
  obtain ⟨i0, hi0, hz0, hz1, hz2⟩ := info29'
  have hc := cell_four_new (wr.alloc (.cells #[.int .i64 x.p, .int .i64 x.r, .int .u64 x.ov, .int .u64 x.tv] 27)) x 29
  rw [show (wr.alloc (.cells #[.int .i64 x.p, .int .i64 x.r, .int .u64 x.ov, .int .u64 x.tv] 27)).heap.size = wr.heap.size + 1 from by simp] at hc
  obtain ⟨w', hrun, hown, hg⟩ := run_append_fits (P := Yba.prog) ((wr.alloc (.cells #[.int .i64 x.p, .int .i64 x.r, .int .u64 x.ov, .int .u64 x.tv] 27)).alloc (.cells #[.int .i64 x.p, .int .i64 x.r, .int .u64 x.ov, .int .u64 x.tv] 29)) (w.heap.size + 2) 25 25 29 i0 4 Yba.underlying25 hi0 hz1 (w.heap.size + 2) j M xs ((h.own.alloc _).alloc _) ⟨wr.heap.size + 1, 0, none⟩ 1 1 x.cells rfl hc (one_cells x) (by omega)
  have k : Kept (fun k => k = w.heap.size + 2) wr w' := (((Kept.refl _ wr).alloc _).alloc _).grown hg (fun k e _ => by simpa using e.symm)
  have hs := h.size
  refine ⟨w', hrun, ?_, ?_, h.pre.kept k (by omega), h.row.kept k (by omega), h.len, hown⟩
  · exact h.below.trans (k.below (B := w.heap.size) (by omega) (fun i hi e => by omega))
  · have := k.size; omega

/-- The box of 'c'. -/
theorem Pins.box {w wr : World} {zs av : List Int} {nn M : Nat} {xs : List Value} (h : Pins w wr zs av nn M M xs) (rd : Nat) (om : Bool) (fa : Int) :
    RecvAt (wr.alloc (.cells #[.pointer none, .int .i64 nn, .int .i64 rd, .slice none 0 0, .slice none 0 0, .pointer none, .bool om, .int .u64 fa, .int .u64 0, .slice (some ⟨w.heap.size + 1, 0, none⟩) nn nn, .slice (some ⟨w.heap.size + 2, 0, none⟩) M M] 35)) wr.heap.size nn rd om fa (.slice (some ⟨w.heap.size + 1, 0, none⟩) nn nn) (.slice (some ⟨w.heap.size + 2, 0, none⟩) M M) ∧
    Ints (wr.alloc (.cells #[.pointer none, .int .i64 nn, .int .i64 rd, .slice none 0 0, .slice none 0 0, .pointer none, .bool om, .int .u64 fa, .int .u64 0, .slice (some ⟨w.heap.size + 1, 0, none⟩) nn nn, .slice (some ⟨w.heap.size + 2, 0, none⟩) M M] 35)) w.heap.size zs ∧
    Row (wr.alloc (.cells #[.pointer none, .int .i64 nn, .int .i64 rd, .slice none 0 0, .slice none 0 0, .pointer none, .bool om, .int .u64 fa, .int .u64 0, .slice (some ⟨w.heap.size + 1, 0, none⟩) nn nn, .slice (some ⟨w.heap.size + 2, 0, none⟩) M M] 35)) (w.heap.size + 1) av ∧
    (wr.alloc (.cells #[.pointer none, .int .i64 nn, .int .i64 rd, .slice none 0 0, .slice none 0 0, .pointer none, .bool om, .int .u64 fa, .int .u64 0, .slice (some ⟨w.heap.size + 1, 0, none⟩) nn nn, .slice (some ⟨w.heap.size + 2, 0, none⟩) M M] 35)).ownsRow (w.heap.size + 2) 29 4 (.slice (some ⟨w.heap.size + 2, 0, none⟩) M M) M xs ∧
    Apart (w.heap.size + 2) wr.heap.size w.heap.size (w.heap.size + 1) (w.heap.size + 2) (wr.alloc (.cells #[.pointer none, .int .i64 nn, .int .i64 rd, .slice none 0 0, .slice none 0 0, .pointer none, .bool om, .int .u64 fa, .int .u64 0, .slice (some ⟨w.heap.size + 1, 0, none⟩) nn nn, .slice (some ⟨w.heap.size + 2, 0, none⟩) M M] 35)) := by
  have hs := h.size
  generalize hX : Obj.cells #[.pointer none, .int .i64 nn, .int .i64 rd, .slice none 0 0, .slice none 0 0, .pointer none, .bool om, .int .u64 fa, .int .u64 0, .slice (some ⟨w.heap.size + 1, 0, none⟩) nn nn, .slice (some ⟨w.heap.size + 2, 0, none⟩) M M] 35 = X
  have k := (Kept.refl (fun _ => False) wr).alloc X
  have sz : (wr.alloc X).heap.size = wr.heap.size + 1 := by simp
  refine ⟨?_, h.pre.ints.kept k (fun e => e), h.row.kept k (fun e => e), h.own.alloc X, ?_⟩
  · unfold RecvAt; rw [heap_alloc_new, ← hX]; rfl
  · exact ⟨by omega, by omega, by omega, by omega, by omega, by omega, by omega, by omega, by omega, by omega, by omega⟩

/-- What stands behind 'fix'. -/
structure Done (w w2 : World) (C nn rd : Nat) (om : Bool) (fa : Int) (zs : List Int) (R : List Int × List Pin × Int) (ao : Option Addr) (cap : Nat) : Prop where
  below : Below w.heap.size w w2
  cw : C < w2.heap.size
  nw : w.heap.size + 3 ≤ w2.heap.size
  recv : RecvAt w2 C nn rd om fa (.slice (some ⟨w.heap.size + 1, 0, none⟩) nn nn) (.slice ao R.2.1.length cap)
  pre : Ints w2 w.heap.size zs
  row : Ints w2 (w.heap.size + 1) R.1
  len : R.1.length = nn
  pins : 0 < R.2.1.length → ∃ g, ao = some ⟨g, 0, none⟩ ∧ g < w2.heap.size ∧ ∀ j, j < R.2.1.length * 4 → w2.cell? ⟨g, j, none⟩ = (pinsOf R.2.1)[j]?

theorem Pins.done {w wr w2 : World} {zs av : List Int} {nn M rd : Nat} {om : Bool} {fa : Int} {xs : List Value} {R : List Int × List Pin × Int} {pv : Value} {X : Obj} (h : Pins w wr zs av nn M M xs)
    (st : FixSt (w.heap.size + 2) wr.heap.size w.heap.size (w.heap.size + 1) (w.heap.size + 2) nn rd om fa zs (wr.alloc X) w2 R.1 R.2.1 pv) :
    ∃ (ao : Option Addr) (cap : Nat), pv = .slice ao R.2.1.length cap ∧ Done w w2 wr.heap.size nn rd om fa zs R ao cap := by
  have hs := h.size
  have sz : (wr.alloc X).heap.size = wr.heap.size + 1 := by simp
  have s2 := st.kept.size
  have b1 : Below w.heap.size w (wr.alloc X) := h.below.alloc (by omega) X
  have b2 : Below w.heap.size (wr.alloc X) w2 := st.kept.below (by omega) (fun k hk => by omega)
  have pr : Ints w2 w.heap.size zs := (h.pre.ints.kept ((Kept.refl (fun _ => False) wr).alloc X) (fun e => e)).kept st.kept (by omega)
  rcases st.own.2 with ⟨hv, h0⟩ | ⟨g, cap, cur, hv, hb, hh, _⟩
  · refine ⟨none, 0, by rw [hv, h0], b1.trans b2, by omega, by omega, by rw [h0, ← hv]; exact st.recv, pr, st.row.ints, st.len, fun h => by omega⟩
  · have hlt : g < w2.heap.size := (Array.getElem?_eq_some_iff.1 hh).1
    refine ⟨some ⟨g, 0, none⟩, cap, hv, b1.trans b2, by omega, by omega, by rw [← hv]; exact st.recv, pr, st.row.ints, st.len, fun _ => ⟨g, rfl, hlt, fun j hj => ?_⟩⟩
    have := st.own
    rw [hv] at this
    exact this.cellAt j hj

/-- Nothing has been written since, and no block made. -/
def After (w2 wr : World) : Prop := Below w2.heap.size w2 wr ∧ wr.heap.size = w2.heap.size
theorem After.refl (w : World) : After w w := ⟨Below.refl _ _, rfl⟩
theorem After.drewN {w2 wr : World} (h : After w2 wr) (n : Nat) : After w2 (wr.drewN n) := ⟨below_drewN h.1 n, h.2⟩
theorem After.kept {w2 wr : World} (h : After w2 wr) : Kept (fun _ => False) w2 wr := ⟨h.1.os, h.1.tape, h.1.output, h.1.size, fun k hk _ => h.1.block k hk⟩

/-- The model's work: 'wantAt' lies in the first block behind 'fix', 'wantPins' behind it. -/
structure Mo (w2 wr : World) (nn : Nat) (av : List Int) (ps : List Pin) (pv : Value) : Prop where
  below : Below w2.heap.size w2 wr
  size : w2.heap.size + 1 ≤ wr.heap.size
  row : Row wr w2.heap.size av
  len : av.length = nn
  own : wr.ownsRow (w2.heap.size + 1) 29 4 pv ps.length (pinsOf ps)

theorem After.mo {w2 wr : World} (af : After w2 wr) (nn : Nat) : Mo w2 (wr.alloc (.cells (zeros nn) 3)) nn (List.replicate nn 0) [] (.slice none 0 0) where
  below := af.1.alloc (by rw [af.2]; exact Nat.le_refl _) _
  size := by have := af.2; simp; omega
  row := by have := Row.made wr nn; rw [af.2] at this; exact this
  len := by simp
  own := World.ownsRow_nil _ _ _ _

theorem bit_no {fa : Int} {p : Nat} (h0 : 0 ≤ fa) (h1 : fa ≤ 18446744073709551615) (h : bitB fa p = false) : (bits BinOp.and IntKind.u64 (fa / 2 ^ p) 1 == 0) = true := by
  unfold bitB at h
  have hp : (0 : Int) < 2 ^ p := Int.pow_pos (by decide)
  have a : 0 ≤ fa / 2 ^ p := Int.ediv_nonneg h0 (Int.le_of_lt hp)
  have b : fa / 2 ^ p ≤ fa := Int.ediv_le_self _ h0
  rw [and_one_u64 _ a (by omega)] at h ⊢
  simp only [beq_eq_false_iff_ne, beq_iff_eq] at h ⊢
  omega
theorem bit_yes {fa : Int} {p : Nat} (h : bitB fa p = true) : (bits BinOp.and IntKind.u64 (fa / 2 ^ p) 1 == 0) = false := by
  unfold bitB at h
  simp only [beq_iff_eq] at h
  rw [h]; rfl

/-- What holds at the head of each round of the model. -/
def InvM (nn rd : Nat) (om : Bool) (fa : Int) (zs : List Int) (R : List Int × List Pin × Int) (w2 : World) (pv iv lv cv : Value) (wr : World) : Prop :=
  ∃ (p i : Nat) (av : List Int) (ps : List Pin) (last : Int), p ≤ nn ∧ i ≤ zs.length ∧ ps.length ≤ p * 256 ∧ iv = .int .i64 i ∧ lv = .int .i64 last ∧ cv = .int .i64 p ∧
    Mo w2 wr nn av ps pv ∧ outer nn fa om rd (nn - p) p (zs.drop i) av ps last = R

theorem Done.pre' {w w2 wr : World} {C nn rd : Nat} {om : Bool} {fa : Int} {zs : List Int} {R : List Int × List Pin × Int} {ao : Option Addr} {cap : Nat} (h : Done w w2 C nn rd om fa zs R ao cap) (hb : Below w2.heap.size w2 wr) : Ints wr w.heap.size zs :=
  h.pre.kept (S := fun _ => False) ⟨hb.os, hb.tape, hb.output, hb.size, fun k hk _ => hb.block k hk⟩ (fun e => e)

theorem Mo.setAt {w2 wr : World} {nn : Nat} {av : List Int} {ps : List Pin} {pv : Value} (h : Mo w2 wr nn av ps pv) (p : Nat) (hp : p < nn) (v : Int) : Mo w2 (wr.setCell ⟨w2.heap.size, p, none⟩ (.int .i64 v)) nn (av.set p v) ps pv where
  below := h.below.setCell (Nat.le_refl _) _
  size := by simpa [World.setCell] using h.size
  row := h.row.set p (by rw [h.len]; exact hp) v
  len := by simpa using h.len
  own := h.own.kept (grownBy_setCell wr w2.heap.size p _) (.inr (fun e => by have := (h.own.lt _ e).1; omega))

/-- .. and of its loop over the rounds. -/
def InvR (nn rd p : Nat) (zs av : List Int) (I : List Int × List Pin × Int) (w2 : World) (pv iv lv cv : Value) (wr : World) : Prop :=
  ∃ (r i : Nat) (ps : List Pin) (last : Int), 1 ≤ r ∧ r ≤ rd + 1 ∧ i ≤ zs.length ∧ ps.length ≤ p * 256 + (r - 1) ∧ iv = .int .i64 i ∧ lv = .int .i64 last ∧ cv = .int .i64 r ∧
    Mo w2 wr nn av ps pv ∧ inner nn p (rd + 1 - r) r (zs.drop i) ps last = I

theorem pinAt_new (wr : World) (p r : Int) (K : Nat) (hK : K = wr.heap.size) : PinAt (wr.alloc (.cells #[.int .i64 p, .int .i64 r, .int .u64 0, .int .u64 0] 29)) K ⟨p, r, 0, 0⟩ := by
  subst hK; unfold PinAt; rw [heap_alloc_new]; rfl

theorem ints_alloc {wr : World} {G : Nat} {zs : List Int} (h : Ints wr G zs) (X : Obj) : Ints (wr.alloc X) G zs := h.kept ((Kept.refl (fun _ => False) wr).alloc X) (fun e => e)

theorem Mo.append {w2 wr w3 : World} {nn : Nat} {av : List Int} {ps : List Pin} {pv : Value} {X : Obj} {K : Nat} (h : Mo w2 wr nn av ps pv) (kp : Kept (fun k => k = K) (wr.alloc X) w3) (hs : w3.heap.size = (wr.alloc X).heap.size) (hK : K = wr.heap.size) (x : Pin) (hlen : ps.length ≤ 100000) :
    ∃ pv' w4, (Builtin.append_ #[25, 25] 25 #[pv, .slice (some ⟨w3.heap.size, 0, none⟩) 1 1]).run Yba.prog (w3.alloc (.cells #[.int .i64 x.p, .int .i64 x.r, .int .u64 x.ov, .int .u64 x.tv] 29)) = .ok pv' w4 ∧ Mo w2 w4 nn av (ps ++ [x]) pv' := by
  subst hK
  obtain ⟨i0, hi0, hz0, hz1, hz2⟩ := info29'
  have hsz := h.size
  have s3 : w3.heap.size = wr.heap.size + 1 := by rw [hs]; simp
  have own3 : w3.ownsRow (w2.heap.size + 1) 29 4 pv ps.length (pinsOf ps) :=
    (h.own.alloc X).kept (row := some wr.heap.size) ⟨kp.os, kp.tape, kp.output, kp.size, fun k hk hne => kp.block k hk (fun e => hne (by rw [e]))⟩ (.inr (fun e => by have := (h.own.lt _ e).2; omega))
  obtain ⟨v', w', hrun, hown, hg, hrow⟩ := run_append_own2 (P := Yba.prog) (w3.alloc (.cells #[.int .i64 x.p, .int .i64 x.r, .int .u64 x.ov, .int .u64 x.tv] 29)) (w2.heap.size + 1) 25 25 29 i0 _ 4 32 Yba.underlying25 hi0 hz0 hz1 hz2 rfl (by decide) pv ps.length (pinsOf ps) (own3.alloc _) ⟨w3.heap.size, 0, none⟩ 1 1 x.cells rfl (cell_four_new w3 x 29) (one_cells x) (by unfold maxLen; omega) (by omega) (by simp; omega)
  have k1 : Kept (fun k => w2.heap.size < k) wr w' := by
    have a : Kept (fun k => w2.heap.size < k) wr w3 := ((Kept.refl _ wr).alloc X).then kp (fun i hi e => by omega)
    refine (a.alloc _).grown hg (fun k e _ => ?_)
    have := (h.own.lt k e).1
    omega
  refine ⟨v', w', hrun, ?_, ?_, h.row.kept k1 (by omega), h.len, ?_⟩
  · exact h.below.trans (k1.below (by omega) (fun k hk => by omega))
  · have := k1.size; omega
  · rw [List.length_append, pinsOf_snoc]; exact hown

theorem kept_of_below {w2 wr : World} (hb : Below w2.heap.size w2 wr) : Kept (fun _ => False) w2 wr := ⟨hb.os, hb.tape, hb.output, hb.size, fun k hk _ => hb.block k hk⟩

section
variable {w w2 wr : World} {C nn rd : Nat} {om : Bool} {fa : Int} {zs av : List Int} {ps : List Pin} {last : Int} {ao : Option Addr} {cap : Nat} {pv : Value}

theorem Done.recv' (h : Done w w2 C nn rd om fa zs (av, ps, last) ao cap) (hb : Below w2.heap.size w2 wr) : RecvAt wr C nn rd om fa (.slice (some ⟨w.heap.size + 1, 0, none⟩) nn nn) (.slice ao ps.length cap) := h.recv.kept (kept_of_below hb) (fun e => e)
theorem Done.row' (h : Done w w2 C nn rd om fa zs (av, ps, last) ao cap) (hb : Below w2.heap.size w2 wr) : Ints wr (w.heap.size + 1) av := h.row.kept (kept_of_below hb) (fun e => e)

theorem four_cells {wx : World} {g j : Nat} (hj : j < ps.length) (h : ∀ i, i < ps.length * 4 → wx.cell? ⟨g, i, none⟩ = (pinsOf ps)[i]?) :
    wx.cell? ⟨g, j * 4, none⟩ = some (.int .i64 ps[j].p) ∧ wx.cell? ⟨g, j * 4 + 1, none⟩ = some (.int .i64 ps[j].r) ∧ wx.cell? ⟨g, j * 4 + 2, none⟩ = some (.int .u64 ps[j].ov) ∧ wx.cell? ⟨g, j * 4 + 3, none⟩ = some (.int .u64 ps[j].tv) := by
  have a0 := pinsOf_at ps j hj 0 (by omega)
  have a1 := pinsOf_at ps j hj 1 (by omega)
  have a2 := pinsOf_at ps j hj 2 (by omega)
  have a3 := pinsOf_at ps j hj 3 (by omega)
  rw [Nat.add_zero] at a0
  refine ⟨?_, ?_, ?_, ?_⟩
  · rw [h _ (by omega), a0]; rfl
  · rw [h _ (by omega), a1]; rfl
  · rw [h _ (by omega), a2]; rfl
  · rw [h _ (by omega), a3]; rfl

theorem Done.pin' (h : Done w w2 C nn rd om fa zs (av, ps, last) ao cap) (hb : Below w2.heap.size w2 wr) (j : Nat) (hj : j < ps.length) :
    ∃ g, ao = some ⟨g, 0, none⟩ ∧ wr.cell? ⟨g, j * 4, none⟩ = some (.int .i64 ps[j].p) ∧ wr.cell? ⟨g, j * 4 + 1, none⟩ = some (.int .i64 ps[j].r) ∧ wr.cell? ⟨g, j * 4 + 2, none⟩ = some (.int .u64 ps[j].ov) ∧ wr.cell? ⟨g, j * 4 + 3, none⟩ = some (.int .u64 ps[j].tv) := by
  obtain ⟨g, e, hg, hc⟩ := h.pins (show 0 < ps.length by omega)
  exact ⟨g, e, four_cells hj (fun i hi => by rw [hb.cell (p := ⟨g, i, none⟩) hg]; exact hc i hi)⟩

theorem Mo.form (h : Mo w2 wr nn av ps pv) : ∃ (ao2 : Option Addr) (cap2 : Nat), pv = .slice ao2 ps.length cap2 ∧ (0 < ps.length → ∃ g, ao2 = some ⟨g, 0, none⟩) := by
  rcases h.own.2 with ⟨hv, h0⟩ | ⟨g, c, cur, hv, _⟩
  · exact ⟨none, 0, by rw [hv, h0], fun h => by omega⟩
  · exact ⟨some ⟨g, 0, none⟩, c, hv, fun _ => ⟨g, rfl⟩⟩

theorem Mo.pin' {ao2 : Option Addr} {cap2 : Nat} (h : Mo w2 wr nn av ps (.slice ao2 ps.length cap2)) (j : Nat) (hj : j < ps.length) :
    ∃ g, ao2 = some ⟨g, 0, none⟩ ∧ wr.cell? ⟨g, j * 4, none⟩ = some (.int .i64 ps[j].p) ∧ wr.cell? ⟨g, j * 4 + 1, none⟩ = some (.int .i64 ps[j].r) ∧ wr.cell? ⟨g, j * 4 + 2, none⟩ = some (.int .u64 ps[j].ov) ∧ wr.cell? ⟨g, j * 4 + 3, none⟩ = some (.int .u64 ps[j].tv) := by
  rcases h.own.2 with ⟨_, h0⟩ | ⟨g, c, cur, hv, _⟩
  · omega
  · simp only [Value.slice.injEq, true_and] at hv
    obtain ⟨rfl, rfl⟩ := hv
    exact ⟨g, rfl, four_cells hj (fun i hi => h.own.cellAt i hi)⟩

theorem Mo.drewN (h : Mo w2 wr nn av ps pv) (n : Nat) : Mo w2 (wr.drewN n) nn av ps pv := ⟨below_drewN h.below n, h.size, ⟨h.row.ints, h.row.free⟩, h.len, h.own⟩
end

set_option maxRecDepth 100000 in
set_option maxHeartbeats 4000000 in
theorem law_main (a0 a5 a6 : Option Addr) (c0 c5 c6 M : Nat) (zs ys : List Int) (n8 r8 : Nat) (fa : Int) (om : Bool) (w : World) (hn8 : n8 ≤ 255) (hr8 : r8 ≤ 255) (hf0 : 0 ≤ fa) (hf1 : fa ≤ 18446744073709551615) (hL : zs.length ≤ 1024) (hY : ys.length ≤ 1024) (hM : M ≤ 1024)
    (h0 : InRow w a0 zs) (h5 : InRow w a5 ys) (h6 : InPins w a6 M) :
    Calls Yba.prog 3 #[.slice a0 zs.length c0, .int .u8 n8, .int .u8 r8, .int .u64 fa, .bool om, .slice a5 ys.length c5, .slice a6 M c6] w fun e w' => e = .returned (.bool true) ∧ Below w.heap.size w w' := by
  obtain ⟨nn, hnn, hn64⟩ : ∃ nn : Nat, (n8 : Int) % 65 = (nn : Int) ∧ nn ≤ 64 := ⟨n8 % 65, by omega, by omega⟩
  have l0 : ¬ (1024 : Int) < (zs.length : Int) := by omega
  have l5 : ¬ (1024 : Int) < (ys.length : Int) := by omega
  have l6 : ¬ (1024 : Int) < (M : Int) := by omega
  have mk1 := mk22 zs.length hL
  have mk2 := mk22 nn (by omega)
  have r1 := Row.made w zs.length
  obtain ⟨w1, hcp, r2, k2, s2⟩ := run_copy _ _ a0 c0 zs r1 (h0.below ((Below.refl _ _).alloc (Nat.le_refl _) _)) 3
  go_enter Yba.func3, Yba.ntmps3
  go_upto_if 68 with fail
  rw [hnn]
  have p0 : Pre w (w1.alloc (.cells (zeros nn) 3)) zs (List.replicate nn 0) nn := by
    have e1 : w1.heap.size = w.heap.size + 1 := by rw [s2]; simp
    have b1 : Below w.heap.size w w1 := ((Below.refl _ w).alloc (Nat.le_refl _) _).trans (k2.below (by simp) (fun k hk e => by omega))
    refine ⟨b1.alloc (by omega) _, by simp [e1], r2.kept ((Kept.refl (fun _ => False) w1).alloc _) (fun h => h), ?_, by simp⟩
    have := Row.made w1 nn
    rw [e1] at this
    exact this
  generalize w1.alloc (.cells (zeros nn) 3) = W3 at p0 ⊢
  clear hcp k2 s2 r2 r1 mk1 hnn
  go_cut [19] (fun _ wc => ∃ av, Pre w wc zs av nn)
  case first =>
    by_cases hy : 0 < ys.length
    · as_aux_lemma =>
        obtain ⟨b, o, rfl, hb, hcell⟩ : ∃ b o, a5 = some ⟨b, o, none⟩ ∧ b < w.heap.size ∧ ∀ j, j < ys.length → w.cell? ⟨b, o + j, none⟩ = some (.int .i64 (nth ys j)) := by
          rcases h5 with h | h
          · omega
          · exact h
        go_wp2
        go_loopw [71] (fun cv wr => ∃ (j : Nat) (av : List Int), j ≤ nn ∧ cv = .int .i64 j ∧ Pre w wr zs av nn) (fun cv _ => nn - (intOf cv).toNat)
        case atStart => exact ⟨0, _, Nat.zero_le _, rfl, p0⟩
        case round =>
          clear p0
          obtain ⟨j, av, hj, rfl, p1⟩ := hrel
          by_cases hjn : j < nn
          · obtain ⟨m, hm, hml⟩ : ∃ m : Nat, (j : Int) % (ys.length : Int) = (m : Int) ∧ m < ys.length := ⟨j % ys.length, by omega, Nat.mod_lt _ hy⟩
            have hmi : (m : Int) < (ys.length : Int) := by omega
            have hji : (j : Int) < (nn : Int) := by omega
            have cm : wr.cell? ⟨b, o + m, none⟩ = some (.int .i64 (nth ys m)) := by rw [p1.below.cell (p := ⟨b, o + m, none⟩) hb]; exact hcell m hml
            have ca : wr.cell? ⟨w.heap.size + 1, j, none⟩ = some (.int .i64 (nth av j)) := p1.row.ints.2 j (by rw [p1.len]; exact hjn)
            have fr := p1.row.free j
            have p2 := p1.setAt j hjn (nth ys m)
            clear hcell
            go_wp2
            go_roundw
            case rel => exact ⟨j + 1, _, by omega, by go_num, p2⟩
            case measure => simp [intOf]; omega
          · go_wp2
            go_meet
            case rel => exact ⟨av, p1⟩
    · go_wp2
      go_meet
      case rel => exact ⟨_, p0⟩
  case rest =>
    obtain ⟨av, p1⟩ := hcut
    clear p0
    have mk3 := mk25 M hM
    have hsz := p1.size
    go_wp2
    have q0 : Pins w (wc.alloc (.cells (zeroPins M) 29)) zs av nn 0 M [] := p1.pins hM
    generalize wc.alloc (.cells (zeroPins M) 29) = W4 at q0 ⊢
    clear p1 mk3 hsz
    go_loopw [20, 90] (fun pv cv wr => ∃ (j : Nat) (xs : List Value), j ≤ M ∧ cv = .int .i64 j ∧ pv = .slice (some ⟨w.heap.size + 2, 0, none⟩) j M ∧ Pins w wr zs av nn j M xs) (fun _ cv _ => M - (intOf cv).toNat)
    case atStart => exact ⟨0, [], Nat.zero_le _, rfl, rfl, q0⟩
    case round =>
      clear q0
      obtain ⟨j, xs, hj, rfl, rfl, q1⟩ := hrel
      by_cases hjM : j < M
      · as_aux_lemma =>
          obtain ⟨b, o, f, rfl, hb, hcell⟩ : ∃ b o, ∃ f : Nat → Pin, a6 = some ⟨b, o, none⟩ ∧ b < w.heap.size ∧ ∀ j, j < M → w.cell? ⟨b, o + j * 4, none⟩ = some (.int .i64 (f j).p) ∧ w.cell? ⟨b, o + j * 4 + 1, none⟩ = some (.int .i64 (f j).r) ∧ w.cell? ⟨b, o + j * 4 + 2, none⟩ = some (.int .u64 (f j).ov) ∧ w.cell? ⟨b, o + j * 4 + 3, none⟩ = some (.int .u64 (f j).tv) := by
            rcases h6 with h | h
            · omega
            · exact h
          obtain ⟨d0, d1, d2, d3⟩ := hcell j hjM
          have e0 : wr.cell? ⟨b, o + j * 4, none⟩ = some (.int .i64 (f j).p) := by rw [q1.below.cell (p := ⟨b, o + j * 4, none⟩) hb]; exact d0
          have e1 : wr.cell? ⟨b, o + j * 4 + 1, none⟩ = some (.int .i64 (f j).r) := by rw [q1.below.cell (p := ⟨b, o + j * 4 + 1, none⟩) hb]; exact d1
          have e2 : wr.cell? ⟨b, o + j * 4 + 2, none⟩ = some (.int .u64 (f j).ov) := by rw [q1.below.cell (p := ⟨b, o + j * 4 + 2, none⟩) hb]; exact d2
          have e3 : wr.cell? ⟨b, o + j * 4 + 3, none⟩ = some (.int .u64 (f j).tv) := by rw [q1.below.cell (p := ⟨b, o + j * 4 + 3, none⟩) hb]; exact d3
          clear hcell d0 d1 d2 d3
          obtain ⟨w5, hrun, q2⟩ := q1.append hM (f j) hjM
          have hji : (j : Int) < (M : Int) := by omega
          go_wp2_with (at_builtin; refine wpList_append_run rfl _ _ 25 rfl _ _ rfl rfl hrun ?_)
          go_roundw
          case rel => exact ⟨j + 1, _, by omega, by go_num, rfl, q2⟩
          case measure => simp [intOf]; omega
      · obtain rfl : M = j := by omega
        obtain ⟨k, hk⟩ : ∃ k, (zs.length = k ∧ zs.length ≤ nn) ∨ (nn = k ∧ nn < zs.length) := by
          rcases Nat.lt_or_ge nn zs.length with h | h
          · exact ⟨nn, .inr ⟨rfl, h⟩⟩
          · exact ⟨zs.length, .inl ⟨rfl, h⟩⟩
        obtain ⟨R, HR⟩ : ∃ R, Hid (outer nn fa om r8 nn 0 (zs.drop k) (List.replicate nn 0) [] 0 = R) := ⟨_, rfl⟩
        have HK := hide hk
        clear hk
        go_wp2_with fail
        have bx := q1.box r8 om fa
        refine (fix_any (w.heap.size + 2) wr.heap.size w.heap.size (w.heap.size + 1) (w.heap.size + 2) nn r8 om fa av M M xs zs k R _ hn64 hr8 hL bx.1 bx.2.1 bx.2.2.1 q1.len bx.2.2.2.1 bx.2.2.2.2 HK.out HR).mono ?_
        intro e w2 hpost
        obtain ⟨pv, rfl, st⟩ := hpost
        obtain ⟨ao, cap, rfl, dn⟩ := q1.done st
        clear st bx q1
        generalize wr.heap.size = C at *
        go_upto_if 125 with fail
        have hkL : k ≤ zs.length := by rcases HK.out with h | h <;> omega
        have hkn : k ≤ nn := by rcases HK.out with h | h <;> omega
        go_cut [26] (fun kv wc => kv = .int .i64 k ∧ wc = w2)
        case first =>
          rcases HK.out with ⟨hk1, hk2⟩ | ⟨hk1, hk2⟩
          · have hk3 : ¬ nn < zs.length := by omega
            go_wp2
            go_meet
            case rel => exact ⟨by rw [hk1], rfl⟩
          · go_wp2
            go_meet
            case rel => exact ⟨by rw [hk1], rfl⟩
        case rest =>
          obtain ⟨rfl, rfl⟩ := hcut
          clear l0 l5 l6
          go_wp2
          go_loopw [27] (fun cv wr => ∃ j : Nat, j ≤ k ∧ cv = .int .i64 j ∧ After wc wr) (fun cv _ => k - (intOf cv).toNat)
          case atStart => exact ⟨0, Nat.zero_le _, rfl, After.refl _⟩
          case round =>
            obtain ⟨j, hj, rfl, af⟩ := hrel
            by_cases hjk : j < k
            · as_aux_lemma =>
                obtain ⟨b, o, rfl, hb, hcell⟩ : ∃ b o, a0 = some ⟨b, o, none⟩ ∧ b < w.heap.size ∧ ∀ j, j < zs.length → w.cell? ⟨b, o + j, none⟩ = some (.int .i64 (nth zs j)) := by
                  rcases h0 with h | h
                  · omega
                  · exact h
                have d1 := (dn.pre.kept af.kept (fun h => h)).2 j (by omega)
                have d2 : wr.cell? ⟨b, o + j, none⟩ = some (.int .i64 (nth zs j)) := by rw [(dn.below.trans (af.1.mono (by have := dn.nw; omega))).cell (p := ⟨b, o + j, none⟩) hb]; exact hcell j (by omega)
                have j1 : (j : Int) < (k : Int) := by omega
                have j2 : (j : Int) < (zs.length : Int) := by omega
                clear hcell
                go_wp2
                go_quiet (fail)
                go_wp2
                go_roundw
                case rel => exact ⟨j + 1, by omega, by go_num, af.drewN _⟩
                case measure => simp [intOf]; omega
            · obtain rfl : k = j := by omega
              go_wp2
              go_loopw [28, 147] (fun _ cv wr => ∃ j : Nat, j ≤ zs.length ∧ cv = .int .i64 j ∧ After wc wr) (fun _ cv _ => zs.length - (intOf cv).toNat)
              case atStart => exact ⟨0, Nat.zero_le _, rfl, af⟩
              case round =>
                clear af
                obtain ⟨j, hj, rfl, af⟩ := hrel
                by_cases hjk : j < zs.length
                · as_aux_lemma =>
                    obtain ⟨b, o, rfl, hb, hcell⟩ : ∃ b o, a0 = some ⟨b, o, none⟩ ∧ b < w.heap.size ∧ ∀ j, j < zs.length → w.cell? ⟨b, o + j, none⟩ = some (.int .i64 (nth zs j)) := by
                      rcases h0 with h | h
                      · omega
                      · exact h
                    have d1 := (dn.pre.kept af.kept (fun h => h)).2 j (by omega)
                    have d2 : wr.cell? ⟨b, o + j, none⟩ = some (.int .i64 (nth zs j)) := by rw [(dn.below.trans (af.1.mono (by have := dn.nw; omega))).cell (p := ⟨b, o + j, none⟩) hb]; exact hcell j (by omega)
                    have j2 : (j : Int) < (zs.length : Int) := by omega
                    clear hcell
                    go_wp2
                    go_quiet (fail)
                    go_wp2
                    go_roundw
                    case rel => exact ⟨j + 1, by omega, by go_num, af.drewN _⟩
                    case measure => simp [intOf]; omega
                · obtain rfl : j = zs.length := by omega
                  have hsz := af.2
                  have mo := af.mo nn
                  go_wp2
                  clear hsz
                  generalize wr.alloc (.cells (zeros nn) 3) = W6 at mo ⊢
                  clear af
                  go_loopw [30, 31, 32, 33] (fun pv iv lv cv wr => InvM nn r8 om fa zs R wc pv iv lv cv wr) (fun _ _ _ cv _ => nn - (intOf cv).toNat)
                  case atStart => exact ⟨0, k, _, [], 0, Nat.zero_le _, hkL, by simp, rfl, rfl, rfl, mo, HR.out⟩
                  case round =>
                    clear mo
                    obtain ⟨p, i, av, ps, last, hp, hi, hps, rfl, rfl, rfl, mo, hRR⟩ := hrel
                    have HRR := hide hRR
                    clear hRR
                    by_cases hpn : p < nn
                    · have HF : Hid (nn - p = (nn - p - 1) + 1 ∧ nn - (p + 1) = nn - p - 1) := ⟨by omega, by omega⟩
                      have hp64 : p < 64 := by omega
                      cases hb : bitB fa p
                      · as_aux_lemma =>
                          have hz : (bits BinOp.and IntKind.u64 (fa / 2 ^ p) 1 == 0) = true := bit_no hf0 hf1 hb
                          have HN : Hid (outer nn fa om r8 (nn - (p + 1)) (p + 1) (zs.drop i) av ps last = R) := by
                            have := HRR.out
                            rw [HF.out.1, outer_skip _ _ _ _ _ _ _ _ _ _ hb] at this
                            rw [HF.out.2]; exact this
                          clear HRR
                          go_wp2
                          go_roundw
                          case rel => exact ⟨p + 1, i, av, ps, last, by omega, hi, by omega, rfl, rfl, by go_num, mo, HN.out⟩
                          case measure => simp [intOf]; omega
                      · have hz : (bits BinOp.and IntKind.u64 (fa / 2 ^ p) 1 == 0) = false := bit_yes hb
                        cases om
                        · by_cases hil : i < zs.length
                          · as_aux_lemma =>
                              have cz : wr.cell? ⟨w.heap.size, i, none⟩ = some (.int .i64 (nth zs i)) := (dn.pre' mo.below).2 i hil
                              have ca : wr.cell? ⟨wc.heap.size, p, none⟩ = some (.int .i64 (nth av p)) := mo.row.ints.2 p (by rw [mo.len]; exact hpn)
                              have fr := mo.row.free p
                              have hii : (i : Int) < (zs.length : Int) := by omega
                              have hpi : (p : Int) < (nn : Int) := by omega
                              obtain ⟨J, HJ⟩ : ∃ J, Hid (picks p nn 0 (zs.drop (i + 1)) 0 0 = J) := ⟨_, rfl⟩
                              have HN : Hid (outer nn fa false r8 (nn - (p + 1)) (p + 1) J.1 (av.set p (wrap64 (nth zs i + 1))) (ps ++ [⟨p, wrap64 (nth zs i + 1), J.2.1, J.2.2⟩]) (mx last (wrap64 (nth zs i + 1))) = R) := by
                                have := HRR.out
                                rw [HF.out.1, drop_at hil, outer_cr _ _ _ _ _ _ _ _ _ _ hb J HJ.out] at this
                                rw [HF.out.2]; exact this
                              clear HRR
                              have mo1 := mo.setAt p hpn (wrap64 (nth zs i + 1))
                              have hpk := pick_any wr.heap.size w.heap.size ⟨p, wrap64 (nth zs i + 1), 0, 0⟩ zs (i + 1) nn J ((wr.setCell ⟨wc.heap.size, p, none⟩ (.int .i64 (wrap64 (nth zs i + 1)))).alloc (.cells #[.int .i64 p, .int .i64 (wrap64 (nth zs i + 1)), .int .u64 0, .int .u64 0] 29)) hn64 (by omega) hL (by have := mo.size; have := dn.nw; omega) rfl rfl (pinAt_new (wr.setCell ⟨wc.heap.size, p, none⟩ (.int .i64 (wrap64 (nth zs i + 1)))) p (wrap64 (nth zs i + 1)) wr.heap.size (by simp [World.setCell])) (ints_alloc (dn.pre' mo1.below) _) HJ
                              rw [show ((i + 1 : Nat) : Int) = (i : Int) + 1 from by omega] at hpk
                              have HP := hide hpk
                              clear hpk
                              go_wp2_with fail
                              refine (unhide HP).mono ?_
                              clear HP
                              rintro e w3 ⟨i', hi', rfl, hd, hpin, hkp, hsz⟩
                              obtain ⟨pv', w4, hrun, mo2⟩ := mo1.append hkp hsz (by simp [World.setCell]) ⟨p, wrap64 (nth zs i + 1), J.2.1, J.2.2⟩ (by omega)
                              clear hsz
                              have t0 : w3.cell? ⟨wr.heap.size, 0, none⟩ = some (.int .i64 p) := by rw [hpin.cell]; rfl
                              have t1 : w3.cell? ⟨wr.heap.size, 1, none⟩ = some (.int .i64 (wrap64 (nth zs i + 1))) := by rw [hpin.cell]; rfl
                              have t2 : w3.cell? ⟨wr.heap.size, 2, none⟩ = some (.int .u64 J.2.1) := by rw [hpin.cell]; rfl
                              have t3 : w3.cell? ⟨wr.heap.size, 3, none⟩ = some (.int .u64 J.2.2) := by rw [hpin.cell]; rfl
                              by_cases hlast : last < wrap64 (nth zs i + 1)
                              · have hmx : mx last (wrap64 (nth zs i + 1)) = wrap64 (nth zs i + 1) := if_pos hlast
                                rw [hmx] at HN
                                go_wp2_with (at_builtin; refine wpList_append_run rfl _ _ 25 rfl _ _ rfl rfl hrun ?_)
                                go_roundw
                                case rel => exact ⟨p + 1, i', _, _, _, by omega, hi', by simp; omega, rfl, rfl, by go_num, mo2, by have := HN.out; rw [hd] at this; exact this⟩
                                case measure => simp [intOf]; omega
                              · have hmx : mx last (wrap64 (nth zs i + 1)) = last := if_neg hlast
                                rw [hmx] at HN
                                go_wp2_with (at_builtin; refine wpList_append_run rfl _ _ 25 rfl _ _ rfl rfl hrun ?_)
                                go_roundw
                                case rel => exact ⟨p + 1, i', _, _, _, by omega, hi', by simp; omega, rfl, rfl, by go_num, mo2, by have := HN.out; rw [hd] at this; exact this⟩
                                case measure => simp [intOf]; omega
                          · as_aux_lemma =>
                              obtain rfl : i = zs.length := by omega
                              have HN : R = (av, ps, last) := by
                                have := HRR.out
                                rw [HF.out.1, List.drop_length, outer_end _ _ _ _ _ _ _ _ hb] at this
                                exact this.symm
                              subst HN
                              clear HRR HR
                              have hv := mo.own
                              obtain ⟨ao2, cap2, hpv, hpins2⟩ := mo.form
                              subst hpv
                              have rc : RecvAt wr C nn r8 false fa (.slice (some ⟨w.heap.size + 1, 0, none⟩) nn nn) (.slice ao ps.length cap) := dn.recv' mo.below
                              obtain ⟨_, _, _, _, x9, x10, _⟩ := cell_after rc
                              go_wp2
                              clear hv x9 x10 rc
                              go_loopw [38] (fun cv wr => ∃ j : Nat, j ≤ nn ∧ cv = .int .i64 j ∧ Mo wc wr nn av ps (.slice ao2 ps.length cap2)) (fun cv _ => nn - (intOf cv).toNat)
                              case atStart => exact ⟨0, Nat.zero_le _, rfl, mo⟩
                              case round =>
                                clear mo
                                obtain ⟨j, hj, rfl, mo⟩ := hrel
                                obtain ⟨_, _, _, _, x9, x10, _⟩ := cell_after (dn.recv' mo.below)
                                by_cases hjn : j < nn
                                · have y1 : wr.cell? ⟨w.heap.size + 1, j, none⟩ = some (.int .i64 (nth av j)) := (dn.row' mo.below).2 j (by rw [mo.len]; exact hjn)
                                  have y2 : wr.cell? ⟨wc.heap.size, j, none⟩ = some (.int .i64 (nth av j)) := mo.row.ints.2 j (by rw [mo.len]; exact hjn)
                                  have hji : (j : Int) < (nn : Int) := by omega
                                  go_wp2
                                  go_quiet (fail)
                                  go_wp2
                                  go_roundw
                                  case rel => exact ⟨j + 1, by omega, by go_num, mo.drewN _⟩
                                  case measure => simp [intOf]; omega
                                · obtain rfl : nn = j := by omega
                                  go_wp2
                                  go_loopw [39, 265] (fun _ cv wr => ∃ j : Nat, j ≤ ps.length ∧ cv = .int .i64 j ∧ Mo wc wr nn av ps (.slice ao2 ps.length cap2)) (fun _ cv _ => ps.length - (intOf cv).toNat)
                                  case atStart => exact ⟨0, Nat.zero_le _, rfl, mo⟩
                                  case round =>
                                    clear mo x9 x10
                                    obtain ⟨j, hj2, rfl, mo⟩ := hrel
                                    obtain ⟨_, _, _, _, x9, x10, _⟩ := cell_after (dn.recv' mo.below)
                                    by_cases hjl : j < ps.length
                                    · obtain ⟨g1, rfl, z10, z11, z12, z13⟩ := dn.pin' mo.below j hjl
                                      obtain ⟨g2, rfl, z20, z21, z22, z23⟩ := mo.pin' j hjl
                                      have hji : (j : Int) < (ps.length : Int) := by omega
                                      go_wp2
                                      go_quiet (fail)
                                      go_wp2
                                      go_roundw
                                      case rel => exact ⟨j + 1, by omega, by go_num, mo.drewN _⟩
                                      case measure => simp [intOf]; omega
                                    · obtain rfl : ps.length = j := by omega
                                      go_wp2
                                      go_ret
                                      exact ⟨rfl, dn.below.trans (mo.below.mono (by have := dn.nw; omega))⟩
                        · as_aux_lemma =>
                            obtain ⟨I, HI⟩ : ∃ I, Hid (inner nn p r8 1 (zs.drop i) ps last = I) := ⟨_, rfl⟩
                            have HN : Hid (outer nn fa true r8 (nn - (p + 1)) (p + 1) I.1 av I.2.1 I.2.2 = R) := by
                              have := HRR.out
                              rw [HF.out.1, outer_om _ _ _ _ _ _ _ _ _ hb I HI.out] at this
                              rw [HF.out.2]; exact this
                            clear HRR
                            go_wp2
                            go_loopw [30, 31, 32, 34] (fun pv iv lv cv wr => InvR nn r8 p zs av I wc pv iv lv cv wr) (fun _ _ _ cv _ => r8 + 1 - (intOf cv).toNat)
                            case atStart => exact ⟨1, i, ps, last, Nat.le_refl _, by omega, hi, by omega, rfl, rfl, rfl, mo, HI.out⟩
                            case round =>
                              clear HI mo hps hi
                              obtain ⟨r, i2, ps2, last2, h1, h2, hi2, hps2, rfl, rfl, rfl, mo2, hII⟩ := hrel
                              have HI2 := hide hII
                              clear hII
                              by_cases hr : r ≤ r8
                              · have HG : Hid (r8 + 1 - r = (r8 - r) + 1 ∧ r8 + 1 - (r + 1) = r8 - r) := ⟨by omega, by omega⟩
                                by_cases hil : i2 < zs.length
                                · have hii : (i2 : Int) < (zs.length : Int) := by omega
                                  obtain ⟨J, HJ⟩ : ∃ J, Hid (picks p nn 0 (zs.drop i2) 0 0 = J) := ⟨_, rfl⟩
                                  have HN2 : Hid (inner nn p (r8 + 1 - (r + 1)) (r + 1) J.1 (ps2 ++ [⟨p, r, J.2.1, J.2.2⟩]) r = I) := by
                                    have := HI2.out
                                    rw [HG.out.1, drop_at hil, inner_cons _ _ _ _ _ _ _ _ J (by rw [← drop_at hil]; exact HJ.out)] at this
                                    rw [HG.out.2]; exact this
                                  clear HI2
                                  have HP := hide (pick_any wr.heap.size w.heap.size ⟨p, r, 0, 0⟩ zs i2 nn J (wr.alloc (.cells #[.int .i64 p, .int .i64 r, .int .u64 0, .int .u64 0] 29)) hn64 hi2 hL (by have := mo2.size; have := dn.nw; omega) rfl rfl (pinAt_new wr p r wr.heap.size rfl) (ints_alloc (dn.pre' mo2.below) _) HJ)
                                  go_wp2_with fail
                                  refine (unhide HP).mono ?_
                                  clear HP
                                  rintro e w3 ⟨i', hi', rfl, hd, hpin, hkp, hsz⟩
                                  obtain ⟨pv', w4, hrun, mo3⟩ := mo2.append hkp hsz rfl ⟨p, r, J.2.1, J.2.2⟩ (by omega)
                                  clear hsz
                                  have t0 : w3.cell? ⟨wr.heap.size, 0, none⟩ = some (.int .i64 p) := by rw [hpin.cell]; rfl
                                  have t1 : w3.cell? ⟨wr.heap.size, 1, none⟩ = some (.int .i64 r) := by rw [hpin.cell]; rfl
                                  have t2 : w3.cell? ⟨wr.heap.size, 2, none⟩ = some (.int .u64 J.2.1) := by rw [hpin.cell]; rfl
                                  have t3 : w3.cell? ⟨wr.heap.size, 3, none⟩ = some (.int .u64 J.2.2) := by rw [hpin.cell]; rfl
                                  go_wp2_with (at_builtin; refine wpList_append_run rfl _ _ 25 rfl _ _ rfl rfl hrun ?_)
                                  go_roundw
                                  case rel => exact ⟨r + 1, i', _, r, by omega, by omega, hi', by simp; omega, rfl, rfl, by go_num, mo3, by have := HN2.out; rw [hd] at this; exact this⟩
                                  case measure => simp [intOf]; omega
                                · obtain rfl : i2 = zs.length := by omega
                                  have HN2 : I = (zs.drop zs.length, ps2, last2) := by
                                    have := HI2.out
                                    rw [List.drop_length, inner_nil] at this
                                    rw [List.drop_length]; exact this.symm
                                  subst HN2
                                  clear HI2
                                  go_wp2
                                  go_roundw
                                  case rel => exact ⟨p + 1, zs.length, av, ps2, last2, by omega, Nat.le_refl _, by omega, rfl, rfl, by go_num, mo2, HN.out⟩
                                  case measure => simp [intOf]; omega
                              · obtain rfl : r = r8 + 1 := by omega
                                have HN2 : I = (zs.drop i2, ps2, last2) := by
                                  have := HI2.out
                                  rw [Nat.sub_self, inner_zero] at this
                                  exact this.symm
                                subst HN2
                                clear HI2
                                have hr' : ¬ ((r8 : Int) + 1 ≤ (r8 : Int)) := by omega
                                go_wp2
                                go_roundw
                                case rel => exact ⟨p + 1, i2, av, ps2, last2, by omega, hi2, by omega, rfl, rfl, by go_num, mo2, HN.out⟩
                                case measure => simp [intOf]; omega
                    · as_aux_lemma =>
                        obtain rfl : p = nn := by omega
                        have HN : R = (av, ps, last) := by
                          have := HRR.out
                          rw [Nat.sub_self, outer_zero] at this
                          exact this.symm
                        subst HN
                        clear HRR HR
                        obtain ⟨nn, rfl⟩ : ∃ nn, nn = p := ⟨_, rfl⟩
                        have hv := mo.own
                        obtain ⟨ao2, cap2, hpv, hpins2⟩ := mo.form
                        subst hpv
                        have rc : RecvAt wr C nn r8 om fa (.slice (some ⟨w.heap.size + 1, 0, none⟩) nn nn) (.slice ao ps.length cap) := dn.recv' mo.below
                        obtain ⟨_, _, _, _, x9, x10, _⟩ := cell_after rc
                        go_wp2
                        clear hv x9 x10 rc
                        go_loopw [38] (fun cv wr => ∃ j : Nat, j ≤ nn ∧ cv = .int .i64 j ∧ Mo wc wr nn av ps (.slice ao2 ps.length cap2)) (fun cv _ => nn - (intOf cv).toNat)
                        case atStart => exact ⟨0, Nat.zero_le _, rfl, mo⟩
                        case round =>
                          clear mo
                          obtain ⟨j, hj, rfl, mo⟩ := hrel
                          obtain ⟨_, _, _, _, x9, x10, _⟩ := cell_after (dn.recv' mo.below)
                          by_cases hjn : j < nn
                          · have y1 : wr.cell? ⟨w.heap.size + 1, j, none⟩ = some (.int .i64 (nth av j)) := (dn.row' mo.below).2 j (by rw [mo.len]; exact hjn)
                            have y2 : wr.cell? ⟨wc.heap.size, j, none⟩ = some (.int .i64 (nth av j)) := mo.row.ints.2 j (by rw [mo.len]; exact hjn)
                            have hji : (j : Int) < (nn : Int) := by omega
                            go_wp2
                            go_quiet (fail)
                            go_wp2
                            go_roundw
                            case rel => exact ⟨j + 1, by omega, by go_num, mo.drewN _⟩
                            case measure => simp [intOf]; omega
                          · obtain rfl : nn = j := by omega
                            go_wp2
                            go_loopw [39, 265] (fun _ cv wr => ∃ j : Nat, j ≤ ps.length ∧ cv = .int .i64 j ∧ Mo wc wr nn av ps (.slice ao2 ps.length cap2)) (fun _ cv _ => ps.length - (intOf cv).toNat)
                            case atStart => exact ⟨0, Nat.zero_le _, rfl, mo⟩
                            case round =>
                              clear mo x9 x10
                              obtain ⟨j, hj2, rfl, mo⟩ := hrel
                              obtain ⟨_, _, _, _, x9, x10, _⟩ := cell_after (dn.recv' mo.below)
                              by_cases hjl : j < ps.length
                              · obtain ⟨g1, rfl, z10, z11, z12, z13⟩ := dn.pin' mo.below j hjl
                                obtain ⟨g2, rfl, z20, z21, z22, z23⟩ := mo.pin' j hjl
                                have hji : (j : Int) < (ps.length : Int) := by omega
                                go_wp2
                                go_quiet (fail)
                                go_wp2
                                go_roundw
                                case rel => exact ⟨j + 1, by omega, by go_num, mo.drewN _⟩
                                case measure => simp [intOf]; omega
                              · obtain rfl : ps.length = j := by omega
                                go_wp2
                                go_ret
                                exact ⟨rfl, dn.below.trans (mo.below.mono (by have := dn.nw; omega))⟩
end Go.Proofs.Ybulkcagg
