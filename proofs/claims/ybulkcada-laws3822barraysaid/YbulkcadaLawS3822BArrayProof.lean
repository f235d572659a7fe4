import Derived.Test.YbulkcadaRows
import Derived.Test.YbulkcadaArrayWalk
import Derived.WalkKit
import Derived.ProofKit
import Derived.OpenShut
import Derived.ShutString
import Derived.ChangeOld
import Derived.Below
namespace Go.Proofs.Ybulkcada.lawS3822BArray
open Go.ChangeShapes Go.WideShapes Go.ChangeAt Go.RowKit
open Go.ChangeMaps (open_string shut_string)
set_option linter.unusedVariables false

theorem own : ownKnob Yba.prog.godebug = none := by kernel_rfl
theorem laidOut : laidOutB Yba.prog = true := by kernel_rfl
theorem cells31 : Yba.prog.cellsOf 31 = 16 := by kernel_rfl
theorem cells5 : Yba.prog.cellsOf 5 = 1 := by kernel_rfl

/-- The number in a cell of a list. -/
def numAt (l : List Value) (i : Nat) : Int := match l[i]? with | some (.int _ n) => n | _ => 0

/-- An array of sixteen bytes that came in by value: its cells are sixteen numbers from 0 to 255. -/
theorem open_arr {H : Type} {enc : TypeId × Value → H} {W : World} {base : Nat} {spare : Nat → Bool} {held : Bool} {r : Reach} {b0 : Nat} {v : Value} {d : DataW H} {p : List MemPlace}
    (hv : Value.okWide Yba.prog W r b0 31 v) (h : DataW.Trod enc Yba.prog W base spare held 31 v d p) :
    ∃ z : Nat → Int, v = .agg (cells16 z) ∧ ∀ k, k < 16 → 0 ≤ z k ∧ z k ≤ 255 := by
  obtain ⟨cs, rfl, hsz, _⟩ : ∃ cs, v = .agg cs ∧ cs.size = Yba.prog.cellsOf 31 ∧ Row.okWide Yba.prog W r b0 31 cs := by
    simpa [Value.okWide, Yba.underlying31] using hv
  rw [cells31] at hsz
  obtain ⟨fuel, hf⟩ := h
  obtain ⟨xs, m, _, _, _, hl, hel⟩ := DataW.trod_array Yba.underlying31 hf
  have key : ∀ i, i < 16 → ∃ n : Int, cs.toList[i]? = some (.int .u8 n) ∧ 0 ≤ n ∧ n ≤ 255 := by
    intro i hi
    have h1 := hel i hi
    rw [cells5, Nat.mul_one, List.getElem?_eq_getElem (by omega)] at h1
    obtain ⟨n, hn, _, hw⟩ := DataW.trod_int Yba.underlying5 h1
    refine ⟨n, ?_, bounds_u8 hw⟩
    have h2 : ((cs.toList.drop i).take 1)[0]? = some (.int .u8 n) := by
      have h3 : (Value.agg cs).cells = cs := rfl
      rw [h3] at hn
      rw [hn]; rfl
    simpa using h2
  have hnum : ∀ i, i < 16 → cs.toList[i]? = some (.int .u8 (numAt cs.toList i)) ∧ 0 ≤ numAt cs.toList i ∧ numAt cs.toList i ≤ 255 := by
    intro i hi
    obtain ⟨n, hn, hb⟩ := key i hi
    have e : numAt cs.toList i = n := by unfold numAt; rw [hn]
    rw [e]; exact ⟨hn, hb⟩
  refine ⟨numAt cs.toList, ?_, fun k hk => (hnum k hk).2⟩
  congr 1
  apply Array.ext
  · rw [hsz]; rfl
  · intro i h1 h2
    have a := (hnum i (by omega)).1
    have b := cells16_at (numAt cs.toList) i (by omega)
    rw [Array.getElem?_eq_getElem h2] at b
    rw [List.getElem?_eq_getElem (by simpa using h1)] at a
    have a' : cs[i] = .int .u8 (numAt cs.toList i) := by simpa using a
    rw [a']; exact (Option.some.inj b).symm

/-! ### THE ROW's STEP: WRITTEN OUT: LEAVE IT -/
set_option maxRecDepth 100000 in
theorem lifted (os : Os) (started : os.Started) (H : Type) (enc : TypeId × Value → H) :
    ReturnsInHanded {} Yba.checked os 4 .any (Rows.lawS3822BArraySpec.pre6 enc Yba.prog Yba.f4 Rows.lawS3822BArrayRow.domain false) (Rows.lawS3822BArraySpec.post enc Yba.prog Yba.f4 false true false false) := by
  refine returnsInHanded_of_change (C := Yba.checked) own started (by kernel_rfl) Yba.func4
    (ChangeSpec.witness6 (enc := enc) (C := Yba.checked) false ⟨#[], #[.agg #[.int .u8 0, .int .u8 0, .int .u8 0, .int .u8 0, .int .u8 0, .int .u8 0, .int .u8 0, .int .u8 0, .int .u8 0, .int .u8 0, .int .u8 0, .int .u8 0, .int .u8 0, .int .u8 0, .int .u8 0, .int .u8 0], .int .u8 0], []⟩ 8 (by kernel_rfl) (by kernel_rfl) (by kernel_rfl) (by kernel_rfl)) ?_
  intro W base args ds gs before hval0 hW hcnd _
  have hval : ∀ (j : Nat) t v, Yba.f4.params[j]? = some t → args[j]? = some v → Value.okWide Yba.prog W .any base t v := hval0
  have hW' := hW
  obtain ⟨p, q, hA0, hV, rfl, hfz, hnd⟩ := hW
  have hA : DataW.TrodAll enc Yba.prog W 0 (fun _ => true) true Yba.f4.params.toList args.toList ds p := hA0
  rw [Yba.params4] at hA hval
  obtain ⟨v0, vs0, d0, ds0, p0, q0, hargs, rfl, rfl, h0, r0⟩ := trodAll_cons hA
  obtain ⟨v1, vs1, d1, ds1, p1, q1, rfl, rfl, rfl, h1, r1⟩ := trodAll_cons r0
  obtain ⟨rfl, rfl, rfl⟩ := trodAll_nil r1
  obtain rfl : args = #[v0, v1] := by cases args; simp_all
  obtain ⟨rfl, rfl⟩ := trodVars_none hV
  obtain ⟨z, rfl, hz⟩ := open_arr (hval 0 31 v0 rfl rfl) h0
  have k0 := h0
  have lt0 : ∀ x ∈ p0, x.block < W.heap.size := by obtain ⟨m, hm⟩ := k0; exact DataW.trod_lt m _ _ _ hm
  obtain ⟨x1, rfl, rfl, rfl, w1⟩ := open_int Yba.underlying5 (hval 1 5 v1 rfl rfl) h1
  clear hA0 hval0
  refine (array_any z x1 W hz).mono fun e W' ⟨he, bel⟩ => ?_
  subst he
  exact ⟨_, rfl, _, _, _, [], _, [], hW', trodAll_mk1 (shut_bool Yba.underlying4 _), (trodAll_cons_mk (Below.trod laidOut (by kernel_rfl) (of_decide_eq_true (by kernel_rfl)) k0 bel lt0) (trodAll_cons_mk (shut_int Yba.underlying5 w1) trodAll_mk0)), rfl, bel.frame _, fun h => by cases h⟩

theorem over : Rows.lawS3822BArrayRow.holds Yba.pinned (OpenSpec.ofChange Rows.lawS3822BArraySpec) :=
  OpenClaim.holds_of_wide 4 Yba.f4 rfl rfl rfl rfl rfl rfl rfl ⟨rfl, rfl, rfl, rfl, rfl⟩ rfl rfl rfl rfl rfl (by kernel_rfl) Yba.func4 (by kernel_rfl)
    (of_decide_eq_true (by kernel_rfl)) (by unfold Func.isWrapper; first | (rw [if_pos (by decide +kernel)]; kernel_rfl) | (rw [if_neg (by decide +kernel)]; exact ⟨rfl, rfl⟩))
    (fun os started H enc _ => lifted os started H enc)

/-- ████ THE STATEMENT ████ -/
theorem proved : Rows.LawS3822BArraySaid := over
end Go.Proofs.Ybulkcada.lawS3822BArray
