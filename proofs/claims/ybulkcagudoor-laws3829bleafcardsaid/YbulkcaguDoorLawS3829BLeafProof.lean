import Derived.Test.YbulkcaguDoorRows
import Derived.Test.YbulkcaguDoorTie
import Derived.Test.YbulkcaguDoorCards
import Derived.Test.YbulkcaguDoorWalk
import Derived.ProofKit
import Derived.LaidMore
import Derived.OpenShut
import Derived.ChangeOld
import Derived.MakeChecks
import Derived.Stop.Joined
import Derived.SevenTiedAt
namespace Go.Proofs.YbulkcaguDoor.lawS3829BLeaf
open Go.ChangeShapes Go.WideShapes Go.ChangeAt Go.RowKit
set_option linter.unusedVariables false

theorem own : ownKnob Ybad.prog.godebug = none := by kernel_rfl
theorem laidOut : laidOutB Ybad.prog = true := by kernel_rfl
theorem cells21 : Ybad.prog.cellsOf 21 = 1 := by kernel_rfl
theorem cells37 : Ybad.prog.cellsOf 37 = 2 := by kernel_rfl
/-- The name of the listed variable, as the given row names it. -/
def vN : String := Rows.lawS3829BLeafSpec.vars.getD 0 ""
theorem gN : Ybad.prog.globalNamed vN = some 0 := by kernel_rfl
theorem tN : (Ybad.prog.globals[0]?).map (fun g => g.type) = some 37 := by kernel_rfl

/-- Two int32 fields that read as a datum: the two cells. -/
theorem pair_of {H : Type} {enc : TypeId × Value → H} {W : World} {base : Nat} {sp : Nat → Bool} {held : Bool} {f : Nat} {cs : Array Value} {a b : Int} {p : List MemPlace}
    (h : DataW.trod enc Ybad.prog W base sp held f 37 cs.toList = some (.agg [.lit (.int .i32 a), .lit (.int .i32 b)], p)) : cs = #[.int .i32 a, .int .i32 b] := by
  obtain ⟨xs, k, hk, hx, hlen, hxl, hfd⟩ := DataW.trod_struct Ybad.underlying37 h
  rw [cells37] at hlen
  obtain ⟨l⟩ := cs
  match l, hlen with
  | [v0, v1], _ =>
    have hxl2 : xs.length = 2 := hxl
    have g0 : DataW.trod enc Ybad.prog W base sp held k 21 (([v0, v1].drop 0).take (Ybad.prog.cellsOf 21)) = xs[0]? := hfd 0 _ rfl
    have g1 : DataW.trod enc Ybad.prog W base sp held k 21 (([v0, v1].drop 1).take (Ybad.prog.cellsOf 21)) = xs[1]? := hfd 1 _ rfl
    match xs, hxl2 with
    | [y0, y1], _ =>
      rw [cells21] at g0 g1
      obtain ⟨n0, e0, q0, _⟩ := DataW.trod_int (x := y0) Ybad.underlying21 g0
      obtain ⟨n1, e1, q1, _⟩ := DataW.trod_int (x := y1) Ybad.underlying21 g1
      simp at e0 e1
      subst e0 e1 q0 q1
      simp only [List.map_cons, List.map_nil, Prod.mk.injEq, DataW.agg.injEq, List.cons.injEq, and_true, DataW.lit.injEq, Lit.int.injEq, true_and] at hx
      obtain ⟨⟨rfl, rfl⟩, _⟩ := hx
      rfl

/-- WHAT THE CONDITION GIVES THE WALKS: the variable's two cells. -/
theorem cells_of {W : World} (h : laidMetH Ybad.prog Rows.lawS3829BLeafRow.laid W) : W.cell? ⟨0, 0, none⟩ = some (.int .i32 2147483647) ∧ W.cell? ⟨0, 1, none⟩ = some (.int .i32 2147483647) := by
  rw [MakeChecks.laidMetH_plain _ _ _ (by kernel_rfl)] at h
  obtain ⟨ps, ⟨g0, t0, cs0, f0, p0, q0, hg0, ht0, hv0, hd0, _, _⟩, _, _⟩ := h
  obtain rfl := Option.some.inj (gN.symm.trans hg0)
  obtain rfl := Option.some.inj (tN.symm.trans ht0)
  obtain rfl := pair_of hd0
  exact ⟨World.var?_cell hg0 hv0 0, World.var?_cell hg0 hv0 1⟩

/-- The named variable reads as it did. -/
theorem var_below {H : Type} {enc : TypeId × Value → H} {W W' : World} (hb : Below W.heap.size W W') {ds : List (DataW H)} {ps : List MemPlace}
    (h : DataW.TrodVars enc Ybad.prog W (fun _ => true) [vN] ds ps) : (∃ d, ds = [d]) ∧ DataW.TrodVars enc Ybad.prog W' (fun b => decide (b < W.heap.size)) [vN] ds ps := by
  match ds, h with
  | [], h => exact absurd h (by intro h; cases h)
  | _ :: _ :: _, h => obtain ⟨_, _, _, _, _, _, _, _, _, _, h, _⟩ := h; exact absurd h (by intro h; cases h)
  | [d], h =>
    obtain ⟨g, t, cs, fuel, p, q, hg, ht, hv, hd, hr, hps⟩ := h
    obtain rfl := Option.some.inj (gN.symm.trans hg)
    obtain rfl := Option.some.inj (tN.symm.trans ht)
    have hT : DataW.Trod enc Ybad.prog W 0 (fun _ => true) true 37 (.agg cs) d p := ⟨fuel, hd⟩
    have hlt : ∀ x ∈ p, x.block < W.heap.size := DataW.trod_lt fuel _ _ _ hd
    obtain ⟨fuel', hd'⟩ := Below.trod laidOut (by kernel_rfl) (of_decide_eq_true (by kernel_rfl)) hT hb hlt
    have hgl : 0 < W.heap.size := by
      rcases Nat.eq_zero_or_pos W.heap.size with h | h
      · simp [World.var?, hg, h] at hv
      · exact h
    have hv' : W'.var? Ybad.prog vN = some cs := by
      simp only [World.var?, hg, Option.bind_some] at hv ⊢
      rw [hb.block 0 hgl]; exact hv
    exact ⟨⟨d, rfl⟩, 0, 37, cs, fuel', p, q, hg, ht, hv', hd', hr, hps⟩

/-- The door's own heap meets the condition. -/
theorem door_met (os : Os) (args : Array Value) : laidMetH Ybad.prog Rows.lawS3829BLeafRow.laid ((World.doorLaid Ybad.prog 400 os).forCall (fun _ _ => 0) ⟨#[], args, []⟩).memory :=
  laidMetH_of_parts3 (fuel := 8) (laidMet_of_run' 8 (by kernel_rfl) (by kernel_rfl)) (by kernel_rfl) (by kernel_rfl)

set_option maxRecDepth 100000 in
theorem lifted (os : Os) (started : os.Started) (H : Type) (enc : TypeId × Value → H) :
    ReturnsInHanded {} Ybad.checked os 3 .any (fun w args => (Rows.lawS3829BLeafSpec.pre enc Ybad.prog Ybad.f3 [] false w args ∧ laidMetH Ybad.prog Rows.lawS3829BLeafRow.laid w) ∧ sizedMet enc Ybad.prog Ybad.f3 (OpenSpec.ofChange Rows.lawS3829BLeafSpec) false w args)
      (Rows.lawS3829BLeafSpec.post enc Ybad.prog Ybad.f3 false true false false) := by
  refine returnsInHanded_of_change_and (C := Ybad.checked) (X := fun w _ => laidMetH Ybad.prog Rows.lawS3829BLeafRow.laid w) (fun _ _ _ hh h => h.of_heap hh) own started (by kernel_rfl) Ybad.func3
    (ChangeSpec.witness_shaped (enc := enc) (C := Ybad.checked) (os := os) (X := fun w _ => laidMetH Ybad.prog Rows.lawS3829BLeafRow.laid w) false (World.doorLaid Ybad.prog 400 os) #[.int .i64 0, .bool false] 8 rfl (World.shaped_of_RefB (by kernel_rfl) (by kernel_rfl)) (by kernel_rfl) (by kernel_rfl) (by kernel_rfl) (door_met os _)) ?_
  intro W base args ds gs before hval0 hW _ _ hL _
  have hval : ∀ (j : Nat) t v, Ybad.f3.params[j]? = some t → args[j]? = some v → Value.okWide Ybad.prog W .any base t v := hval0
  have hW' := hW
  obtain ⟨p, q, hA0, hV0, rfl, hfz, hnd⟩ := hW
  have hA : DataW.TrodAll enc Ybad.prog W 0 (fun _ => true) true Ybad.f3.params.toList args.toList ds p := hA0
  have hV : DataW.TrodVars enc Ybad.prog W (fun _ => true) [vN] gs q := hV0
  rw [Ybad.params3] at hA hval
  obtain ⟨v0, vs0, d0, ds0, p0, q0, hargs, rfl, rfl, h0, r0⟩ := trodAll_cons hA
  obtain ⟨v1, vs1, d1, ds1, p1, q1, rfl, rfl, rfl, h1, r1⟩ := trodAll_cons r0
  obtain ⟨rfl, rfl, rfl⟩ := trodAll_nil r1
  obtain rfl : args = #[v0, v1] := by cases args; simp_all
  obtain ⟨x0, rfl, rfl, rfl, w0⟩ := open_int Ybad.underlying3 (hval 0 3 v0 rfl rfl) h0
  obtain ⟨x1, rfl, rfl, rfl⟩ := open_bool Ybad.underlying4 (hval 1 4 v1 rfl rfl) h1
  obtain ⟨k0, k1⟩ := cells_of hL
  clear hA0 hval0
  refine (law_any x0 x1 W k0 k1).mono fun e W' ⟨he, bel⟩ => ?_
  subst he
  obtain ⟨⟨ga, rfl⟩, hV'⟩ := var_below bel hV
  exact ⟨_, rfl, _, _, _, [], _, q, hW', trodAll_mk1 (shut_bool Ybad.underlying4 _),
    (trodAll_cons_mk (shut_int Ybad.underlying3 w0) (trodAll_cons_mk (shut_bool Ybad.underlying4 x1) trodAll_mk0)),
    hV', bel.frame _, fun h => by cases h⟩

theorem row_holds : Rows.LawS3829BLeafSaid :=
  OpenClaim.holds_of_wide 3 Ybad.f3 rfl rfl rfl rfl rfl rfl rfl ⟨rfl, rfl, rfl, rfl, rfl⟩ rfl rfl rfl rfl rfl (by kernel_rfl) Ybad.func3 (by kernel_rfl)
    (of_decide_eq_true (by kernel_rfl)) (by unfold Func.isWrapper; first | (rw [if_pos (by decide +kernel)]; kernel_rfl) | (rw [if_neg (by decide +kernel)]; exact ⟨rfl, rfl⟩))
    (fun os started H enc _ => lifted os started H enc)

/-- THE TIED CARD -/
theorem proved : Rows.LawS3829BLeafCardSaid :=
  Claim7.holds_tied_plain_at .later [] [.data] true (true, "c48e7a03d42991d363755b1d98bd039e6316d62e25f15a3fa1bc15e428ac2df6") false
    row_holds (fun _ h => by cases h) (by kernel_rfl) (fun _ h => by cases h) lawS3829BLeaf_row_tie rfl ⟨rfl, rfl⟩ (by kernel_rfl) rfl
    (fun f fn hf hfn => by
      obtain rfl : f = 3 := Option.some.inj ((show Ybad.prog.funcNamed Rows.lawS3829BLeafRow.func = some 3 by kernel_rfl).symm.trans hf) |>.symm
      obtain rfl : fn = Ybad.f3 := (Option.some.inj (Ybad.func3.symm.trans hfn)).symm
      exact ⟨by kernel_rfl, fun j t ht => by
        rw [Ybad.params3] at ht
        have hm : t ∈ [3, 4] := by simpa using Array.mem_of_getElem? ht
        have hall : ([3, 4].all fun u => !Ybad.prog.wantsStandIn u) = true := by kernel_rfl
        exact (show Ybad.prog.wantsStandIn t = false by simpa using List.all_eq_true.1 hall t hm)⟩)
    (by kernel_rfl)
end Go.Proofs.YbulkcaguDoor.lawS3829BLeaf
