import Derived.Test.YbulkcaggDoorRows
import Derived.Test.YbulkcaggDoorTie
import Derived.Test.YbulkcaggDoorCards
import Derived.Test.YbulkcaggDoorLaid
import Derived.Test.YbulkcaggDoorValid
import Derived.SevenTiedAt
namespace Go.Proofs.YbulkcaggDoor.lawS3828CValid
open Go.ChangeShapes Go.WideShapes Go.ChangeAt Go.RowKit
set_option linter.unusedVariables false

/-- The door's own heap meets the condition. -/
theorem door_met (os : Os) (args : Array Value) : laidMetH Ybad.prog Rows.lawS3828CValidRow.laid ((World.doorLaid Ybad.prog 400 os).forCall (fun _ _ => 0) ⟨#[], args, []⟩).memory :=
  laidMetH_of_parts3 (fuel := 8) (laidMet_of_run' 8 (by kernel_rfl) (by kernel_rfl)) (by kernel_rfl) (by kernel_rfl)

set_option maxRecDepth 100000 in
theorem lifted (os : Os) (started : os.Started) (H : Type) (enc : TypeId × Value → H) :
    ReturnsInHanded {} Ybad.checked os 4 .any (fun w args => (Rows.lawS3828CValidSpec.pre enc Ybad.prog Ybad.f4 [] false w args ∧ laidMetH Ybad.prog Rows.lawS3828CValidRow.laid w) ∧ sizedMet enc Ybad.prog Ybad.f4 (OpenSpec.ofChange Rows.lawS3828CValidSpec) false w args)
      (Rows.lawS3828CValidSpec.post enc Ybad.prog Ybad.f4 false true false false) := by
  refine returnsInHanded_of_change_and (C := Ybad.checked) (X := fun w _ => laidMetH Ybad.prog Rows.lawS3828CValidRow.laid w) (fun _ _ _ hh h => h.of_heap hh) own started (by kernel_rfl) Ybad.func4
    (ChangeSpec.witness_shaped (enc := enc) (C := Ybad.checked) (os := os) (X := fun w _ => laidMetH Ybad.prog Rows.lawS3828CValidRow.laid w) false (World.doorLaid Ybad.prog 400 os) #[.int .u16 0, .int .u16 0, .int .u16 0, .int .u16 0, .int .u16 0, .int .u16 0] 8 rfl (World.shaped_of_RefB (by kernel_rfl) (by kernel_rfl)) (by kernel_rfl) (by kernel_rfl) (by kernel_rfl) (door_met os _)) ?_
  intro W base args ds gs before hval0 hW _ _ hL _
  have hval : ∀ (j : Nat) t v, Ybad.f4.params[j]? = some t → args[j]? = some v → Value.okWide Ybad.prog W .any base t v := hval0
  have hW' := hW
  obtain ⟨p, q, hA0, hV0, rfl, hfz, hnd⟩ := hW
  have hA : DataW.TrodAll enc Ybad.prog W 0 (fun _ => true) true Ybad.f4.params.toList args.toList ds p := hA0
  have hV : DataW.TrodVars enc Ybad.prog W (fun _ => true) [vP, vR, vV] gs q := hV0
  rw [Ybad.params4] at hA hval
  obtain ⟨v0, vs0, d0, ds0, p0, q0, hargs, rfl, rfl, h0, r0⟩ := trodAll_cons hA
  obtain ⟨v1, vs1, d1, ds1, p1, q1, rfl, rfl, rfl, h1, r1⟩ := trodAll_cons r0
  obtain ⟨v2, vs2, d2, ds2, p2, q2, rfl, rfl, rfl, h2, r2⟩ := trodAll_cons r1
  obtain ⟨v3, vs3, d3, ds3, p3, q3, rfl, rfl, rfl, h3, r3⟩ := trodAll_cons r2
  obtain ⟨v4, vs4, d4, ds4, p4, q4, rfl, rfl, rfl, h4, r4⟩ := trodAll_cons r3
  obtain ⟨v5, vs5, d5, ds5, p5, q5, rfl, rfl, rfl, h5, r5⟩ := trodAll_cons r4
  obtain ⟨rfl, rfl, rfl⟩ := trodAll_nil r5
  obtain rfl : args = #[v0, v1, v2, v3, v4, v5] := by cases args; simp_all
  obtain ⟨x0, rfl, rfl, rfl, w0⟩ := open_int Ybad.underlying36 (hval 0 36 v0 rfl rfl) h0
  obtain ⟨x1, rfl, rfl, rfl, w1⟩ := open_int Ybad.underlying36 (hval 1 36 v1 rfl rfl) h1
  obtain ⟨x2, rfl, rfl, rfl, w2⟩ := open_int Ybad.underlying36 (hval 2 36 v2 rfl rfl) h2
  obtain ⟨x3, rfl, rfl, rfl, w3⟩ := open_int Ybad.underlying36 (hval 3 36 v3 rfl rfl) h3
  obtain ⟨x4, rfl, rfl, rfl, w4⟩ := open_int Ybad.underlying36 (hval 4 36 v4 rfl rfl) h4
  obtain ⟨x5, rfl, rfl, rfl, w5⟩ := open_int Ybad.underlying36 (hval 5 36 v5 rfl rfl) h5
  have hG : Glob W := glob_of (by rw [MakeChecks.laidMetH_plain _ _ _ (by kernel_rfl)] at hL; exact hL)
  obtain ⟨ga, gb, gc, rfl⟩ := three_vars hV
  clear hA0 hval0
  obtain ⟨n0, rfl⟩ := Int.eq_ofNat_of_zero_le (bounds_u16 w0).1
  obtain ⟨n1, rfl⟩ := Int.eq_ofNat_of_zero_le (bounds_u16 w1).1
  obtain ⟨n2, rfl⟩ := Int.eq_ofNat_of_zero_le (bounds_u16 w2).1
  obtain ⟨n3, rfl⟩ := Int.eq_ofNat_of_zero_le (bounds_u16 w3).1
  obtain ⟨n4, rfl⟩ := Int.eq_ofNat_of_zero_le (bounds_u16 w4).1
  obtain ⟨n5, rfl⟩ := Int.eq_ofNat_of_zero_le (bounds_u16 w5).1
  have b0 := (bounds_u16 w0).2
  have b1 := (bounds_u16 w1).2
  have b2 := (bounds_u16 w2).2
  have b3 := (bounds_u16 w3).2
  have b4 := (bounds_u16 w4).2
  have b5 := (bounds_u16 w5).2
  refine (valid_any n0 n1 n2 n3 n4 n5 W hG (by omega) (by omega) (by omega) (by omega) (by omega) (by omega)).mono fun e W' ⟨he, bel⟩ => ?_
  subst he
  exact ⟨_, rfl, _, _, _, [], _, q, hW', trodAll_mk1 (shut_bool Ybad.underlying4 _),
    (trodAll_cons_mk (shut_int Ybad.underlying36 w0) (trodAll_cons_mk (shut_int Ybad.underlying36 w1) (trodAll_cons_mk (shut_int Ybad.underlying36 w2) (trodAll_cons_mk (shut_int Ybad.underlying36 w3) (trodAll_cons_mk (shut_int Ybad.underlying36 w4) (trodAll_cons_mk (shut_int Ybad.underlying36 w5) trodAll_mk0)))))),
    vars_below bel _ names3 _ _ hV, bel.frame _, fun h => by cases h⟩

theorem row_holds : Rows.LawS3828CValidSaid :=
  OpenClaim.holds_of_wide 4 Ybad.f4 rfl rfl rfl rfl rfl rfl rfl ⟨rfl, rfl, rfl, rfl, rfl⟩ rfl rfl rfl rfl rfl (by kernel_rfl) Ybad.func4 (by kernel_rfl)
    (of_decide_eq_true (by kernel_rfl)) (by unfold Func.isWrapper; first | (rw [if_pos (by decide +kernel)]; kernel_rfl) | (rw [if_neg (by decide +kernel)]; exact ⟨rfl, rfl⟩))
    (fun os started H enc _ => lifted os started H enc)

/-- THE TIED CARD -/
theorem proved : Rows.LawS3828CValidCardSaid :=
  Claim7.holds_tied_plain_at .later [] [.data, .data, .wider] true (true, "0848b95cee0fcaa29ff590f861cb90477e3cd4756d298c3a7780365cfd3eb35a") true
    row_holds (fun _ h => by cases h) (by kernel_rfl) (fun _ h => by cases h) lawS3828CValid_row_tie rfl ⟨rfl, rfl⟩ (by kernel_rfl) rfl
    (fun f fn hf hfn => by
      obtain rfl : f = 4 := Option.some.inj ((show Ybad.prog.funcNamed Rows.lawS3828CValidRow.func = some 4 by kernel_rfl).symm.trans hf) |>.symm
      obtain rfl : fn = Ybad.f4 := (Option.some.inj (Ybad.func4.symm.trans hfn)).symm
      exact ⟨by kernel_rfl, fun j t ht => by
        rw [Ybad.params4] at ht
        have hm : t ∈ [36, 36, 36, 36, 36, 36] := by simpa using Array.mem_of_getElem? ht
        have hall : ([36, 36, 36, 36, 36, 36].all fun u => !Ybad.prog.wantsStandIn u) = true := by kernel_rfl
        exact (show Ybad.prog.wantsStandIn t = false by simpa using List.all_eq_true.1 hall t hm)⟩)
    (by kernel_rfl)
end Go.Proofs.YbulkcaggDoor.lawS3828CValid
