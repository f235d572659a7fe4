import Derived.Test.YbulkcaggPin
import Derived.Lib.SliceRun
namespace Go.Proofs.Ybulkcagg
open Go.RowKit
set_option linter.unusedVariables false
set_option linter.unusedSimpArgs false

theorem zero3 (w : World) : (zeroValue 3).run Yba.prog w = .ok (.int .i64 0) w := by kernel_rfl

/-- The numbers av lie in block A; it may be written. -/
structure Row (w : World) (A : Nat) (av : List Int) : Prop where
  ints : Ints w A av
  free : ∀ j, w.frozen? ⟨A, j, none⟩ = false

theorem Row.kept {S : Nat → Prop} {w w' : World} {A : Nat} {av : List Int} (h : Row w A av) (k : Kept S w w') (hs : ¬ S A) : Row w' A av :=
  ⟨h.ints.kept k hs, fun j => (World.frozen?_of_block (k.block A h.ints.1 hs)).trans (h.free j)⟩

theorem Row.set {w : World} {A : Nat} {av : List Int} (h : Row w A av) (p : Nat) (hp : p < av.length) (v : Int) : Row (w.setCell ⟨A, p, none⟩ (.int .i64 v)) A (av.set p v) := by
  refine ⟨⟨by simpa [World.setCell] using h.ints.1, fun j hj => ?_⟩, fun j => by rw [World.frozen?_setCell]; exact h.free j⟩
  simp only [List.length_set] at hj
  by_cases e : j = p
  · subst e
    rw [World.cell?_setCell_same _ _ _ (h.ints.2 j hj)]
    simp [nth, hp]
  · rw [World.cell?_setCell_other _ _ _ _ (by simp [Ne.symm e]), h.ints.2 j hj]
    simp [nth, Ne.symm e]

theorem setCells_kept (A : Nat) : ∀ (vs : List Value) (o : Nat) (w : World), Kept (fun k => k = A) w (w.setCells A o vs)
  | [], _, w => Kept.refl _ w
  | v :: r, o, w => by
    rw [World.setCells]
    exact ((Kept.refl (fun k => k = A) w).setCell ⟨A, o, none⟩ (fun _ => rfl) v).trans (setCells_kept A r (o + 1) _)

theorem run_clear (w : World) (A : Nat) (av : List Int) (h : Row w A av) (ty : TypeId) :
    ∃ w1, (Builtin.clear_ #[22] ty #[.slice (some ⟨A, 0, none⟩) av.length av.length]).run Yba.prog w = .ok (.tuple #[]) w1 ∧ Row w1 A (List.replicate av.length 0) ∧ Kept (fun k => k = A) w w1 := by
  by_cases h0 : av.length = 0
  · refine ⟨w, ?_, ?_, Kept.refl _ w⟩
    · rw [h0]; simp [Builtin.clear_, run_underlying Yba.underlying22]
    · rw [h0]; exact ⟨⟨h.ints.1, fun j hj => by simp at hj⟩, h.free⟩
  · have hc : ∀ j, j < av.length → (w.cell? ⟨A, 0 + j, none⟩).isSome = true := fun j hj => by rw [Nat.zero_add, h.ints.2 j hj]; rfl
    have hcl := Lib.run_clear_slice (P := Yba.prog) w 22 3 ty (.int .i64 0) Yba.underlying22 zero3 rfl rfl A 0 av.length av.length (by omega) hc (fun j _ => by rw [Nat.zero_add]; exact h.free j)
    have hk := setCells_kept A (List.replicate av.length (.int .i64 0)) 0 w
    refine ⟨_, hcl, ⟨⟨Nat.lt_of_lt_of_le h.ints.1 hk.size, fun j hj => ?_⟩, fun j => by rw [World.frozen?_setCells]; exact h.free j⟩, hk⟩
    simp only [List.length_replicate] at hj
    have := World.cell?_setCells_in A (List.replicate av.length (Value.int .i64 0)) 0 w (by simpa using hc) j (by simpa using hj)
    rw [Nat.zero_add] at this
    rw [this]
    simp [nth, hj]

/-- The state of 'fix' in mid-work. -/
structure FixSt (B C G A g n rd : Nat) (om : Bool) (fa : Int) (zs : List Int) (w wr : World) (av : List Int) (ps : List Pin) (pv : Value) : Prop where
  recv : RecvAt wr C n rd om fa (.slice (some ⟨A, 0, none⟩) n n) pv
  row : Row wr A av
  len : av.length = n
  own : wr.ownsRow B 29 4 pv ps.length (pinsOf ps)
  pvb : ∀ k, pv.ownBlock = some k → k = g ∨ w.heap.size ≤ k
  kept : Kept (fun k => k = C ∨ k = A ∨ k = g) w wr

/-- The blocks that 'fix' is handed: all of them were there, and no two are one. -/
structure Apart (B C G A g : Nat) (w : World) : Prop where
  bw : B ≤ w.heap.size
  cw : C < w.heap.size
  gw : G < w.heap.size
  aw : A < w.heap.size
  pw : g < w.heap.size
  cg : C ≠ G
  ca : C ≠ A
  ga : G ≠ A
  gC : g ≠ C
  gG : g ≠ G
  gA : g ≠ A

section
variable {B C G A g n rd : Nat} {om : Bool} {fa : Int} {zs : List Int} {w wr : World} {av : List Int} {ps : List Pin} {pv : Value}

theorem FixSt.pvC (st : FixSt B C G A g n rd om fa zs w wr av ps pv) (ap : Apart B C G A g w) : pv.ownBlock ≠ some C := fun e => by
  rcases st.pvb C e with h | h
  · exact ap.gC h.symm
  · have := ap.cw; omega
theorem FixSt.pvG (st : FixSt B C G A g n rd om fa zs w wr av ps pv) (ap : Apart B C G A g w) : pv.ownBlock ≠ some G := fun e => by
  rcases st.pvb G e with h | h
  · exact ap.gG h.symm
  · have := ap.gw; omega
theorem FixSt.pvA (st : FixSt B C G A g n rd om fa zs w wr av ps pv) (ap : Apart B C G A g w) : pv.ownBlock ≠ some A := fun e => by
  rcases st.pvb A e with h | h
  · exact ap.gA h.symm
  · have := ap.aw; omega
theorem FixSt.ints (st : FixSt B C G A g n rd om fa zs w wr av ps pv) (ap : Apart B C G A g w) (hc : Ints w G zs) : Ints wr G zs :=
  hc.kept st.kept (by rintro (h | h | h); exact ap.cg h.symm; exact ap.ga h; exact ap.gG h.symm)
theorem FixSt.bw (st : FixSt B C G A g n rd om fa zs w wr av ps pv) (ap : Apart B C G A g w) : B ≤ wr.heap.size := Nat.le_trans ap.bw st.kept.size

/-- Behind a draw. -/
theorem FixSt.drew (st : FixSt B C G A g n rd om fa zs w wr av ps pv) : FixSt B C G A g n rd om fa zs w wr.drew av ps pv :=
  ⟨st.recv, ⟨st.row.ints, st.row.free⟩, st.len, st.own, st.pvb, st.kept.drew⟩

/-- Behind a store into 'at'. -/
theorem FixSt.setAt (st : FixSt B C G A g n rd om fa zs w wr av ps pv) (ap : Apart B C G A g w) (p : Nat) (hp : p < n) (v : Int) :
    FixSt B C G A g n rd om fa zs w (wr.setCell ⟨A, p, none⟩ (.int .i64 v)) (av.set p v) ps pv where
  recv := st.recv.kept ((Kept.refl (fun k => k = A) wr).setCell ⟨A, p, none⟩ (fun _ => rfl) _) ap.ca
  row := st.row.set p (by rw [st.len]; exact hp) v
  len := by simpa using st.len
  own := st.own.kept (grownBy_setCell wr A p _) (.inr (st.pvA ap))
  pvb := st.pvb
  kept := st.kept.setCell _ (fun _ => .inr (.inl rfl)) _

/-- Behind a call of 'pin'. -/
theorem FixSt.pinned (st : FixSt B C G A g n rd om fa zs w wr av ps pv) (ap : Apart B C G A g w) {p r : Int} {R : List Int × Int × Int} {e : Ending} {w' : World}
    (h : PinPost B C G n rd om fa (.slice (some ⟨A, 0, none⟩) n n) pv ps zs p r R wr e w') :
    ∃ (i' o' : Nat) (pv' : Value), i' ≤ zs.length ∧ (i' < zs.length → o' = i') ∧ e = .returned (.slice (some ⟨G, o', none⟩) (zs.length - i') (zs.length - i')) ∧ IsDrop R.1 zs i' ∧
      FixSt B C G A g n rd om fa zs w w' av (ps ++ [⟨p, r, R.2.1, R.2.2⟩]) pv' := by
  obtain ⟨i', o', pv', h1, h2, h3, h4, h5, h6, h7, h8⟩ := h
  have hA : ¬ (A = C ∨ some A = pv.ownBlock) := by
    rintro (h | h)
    · exact ap.ca h.symm
    · exact st.pvA ap h.symm
  refine ⟨i', o', pv', h1, h2, h3, h4, h5, st.row.kept h7 hA, st.len, by rw [List.length_append]; exact h6, fun k hk => ?_, ?_⟩
  · rcases h8 k hk with h | h
    · exact .inr (Nat.le_trans st.kept.size h)
    · exact st.pvb k h
  · refine st.kept.then h7 (fun i hi hh => ?_)
    rcases hh with hh | hh
    · exact .inl hh
    · rcases st.pvb i hh.symm with h | h
      · exact .inr (.inr h)
      · omega
end

/-- What 'fix' leaves. -/
def FixPost (B C G A g n rd : Nat) (om : Bool) (fa : Int) (zs : List Int) (k : Nat) (R : List Int × List Pin × Int) (w : World) (e : Ending) (w' : World) : Prop :=
  ∃ pv, e = .returned (.tuple #[.slice (some ⟨G, 0, none⟩) k zs.length, .int .i64 R.2.2]) ∧ FixSt B C G A g n rd om fa zs w w' R.1 R.2.1 pv
end Go.Proofs.Ybulkcagg
