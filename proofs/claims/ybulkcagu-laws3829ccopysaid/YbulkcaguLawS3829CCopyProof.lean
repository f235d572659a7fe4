import Derived.Test.YbulkcaguRows
import Derived.Test.YbulkcaguCopyWalk
import Derived.WalkKit
import Derived.ProofKit
import Derived.OpenShut
import Derived.ShutString
import Derived.ChangeOld
import Derived.Below
import Derived.SliceStrings
import Derived.SizedLaws
namespace Go.Proofs.Ybulkcagu.lawS3829CCopy
open Go.ChangeShapes Go.WideShapes Go.ChangeAt Go.RowKit
open Go.ChangeMaps (open_string shut_string)
set_option linter.unusedVariables false

theorem own : ownKnob Yba.prog.godebug = none := by kernel_rfl
theorem laidOut : laidOutB Yba.prog = true := by kernel_rfl

/-- The sizes of strings are among the weights of the list. -/
theorem strs_weight {H : Type} {P : Program} {e : TypeId} : ∀ (ss : List ByteArray) (j : Nat), j < ss.length → (nthS ss j).size ∈ DataW.weightsAll P e (strs (H := H) ss)
  | [], j, h => by simp at h
  | s :: ss, 0, h => by
    simp [strs, DataW.weightsAll, DataW.weights, nthS]
  | s :: ss, j + 1, h => by
    have := strs_weight (H := H) (P := P) (e := e) ss j (by simpa using h)
    simp only [strs, List.map_cons, DataW.weightsAll, List.mem_append]
    exact .inr this

/-- A slice of strings that came in, as its elements. -/
theorem open_row {H : Type} {enc : TypeId × Value → H} {W : World} {held : Bool} {r : Reach} {b0 : Nat} {v : Value} {d : DataW H} {p : List MemPlace}
    (hv : Value.okWide Yba.prog W r b0 53 v) (h : DataW.Trod enc Yba.prog W 0 (fun _ => true) held 53 v d p) (hw : ∀ n ∈ d.weights Yba.prog 53, n ≤ reachBytes) :
    ∃ (a : Option Addr) (c : Nat) (ss : List ByteArray), v = .slice a ss.length c ∧ InStrs W a ss ∧ (a = none → ss.length = 0) ∧ ∀ j, j < ss.length → (nthS ss j).size ≤ 140737488351232 := by
  obtain ⟨a, len, cap, rfl⟩ := okWide_slice Yba.underlying53 hv
  obtain ⟨fuel, hf⟩ := h
  rcases open_strings Yba.underlying53 Yba.underlying9 (by kernel_rfl) hf with ⟨hcs, _⟩ | ⟨x, l, c, ss, hcs, _, hl, hm, hz, hx, hcell, hsz⟩
  · simp [Value.cells] at hcs
    obtain ⟨rfl, rfl, rfl⟩ := hcs
    exact ⟨none, 0, [], rfl, .inl rfl, fun _ => rfl, fun j hj => by simp at hj⟩
  · simp [Value.cells] at hcs
    obtain ⟨rfl, rfl, rfl⟩ := hcs
    have hzc : ss.length = cap := by simpa using hz
    have hlen : (ss.take len).length = len := by rw [List.length_take]; omega
    refine ⟨some x, cap, ss.take len, by rw [hlen], ?_, (by simp), ?_⟩
    · by_cases h0 : len = 0
      · exact .inl (by rw [hlen]; exact h0)
      · obtain ⟨b, off, spot⟩ := x
        have hspot : spot = none := by simpa [Addr.add] using World.cell?_spot (hcell 0 (by omega))
        subst hspot
        refine .inr ⟨b, off, rfl, World.block_lt_of_cell? W _ (hcell 0 (by omega)), fun j hj => ?_⟩
        rw [hlen] at hj
        rw [← add_plain, hcell j (by omega)]
        simp [nthS, hj]
    · intro j hj
      have hd : d = .slice (strs (ss.take len)) (strs (ss.drop len)) := congrArg Prod.fst hx
      subst hd
      refine hw _ ?_
      simp only [DataW.weights, Yba.underlying53, List.mem_cons, List.mem_append]
      exact .inr (.inl (strs_weight _ j hj))

theorem walk (a : Option Addr) (c : Nat) (ss : List ByteArray) (w : World) (hi : InStrs w a ss) (hn : a = none → ss.length = 0) (hsz : ∀ j, j < ss.length → (nthS ss j).size ≤ 140737488351232) :
    Calls Yba.prog 4 #[.slice a ss.length c] w fun e w' => e = .returned (.bool true) ∧ Below w.heap.size w w' := by
  by_cases hL : (1024 : Int) < (ss.length : Int)
  · exact copy_long a ss.length c w hL
  · exact copy_main a c ss w (by omega) hi hn hsz

set_option maxRecDepth 100000 in
theorem lifted (os : Os) (started : os.Started) (H : Type) (enc : TypeId × Value → H) :
    ReturnsInHanded {} Yba.checked os 4 .any (Rows.lawS3829CCopySpec.pre6 enc Yba.prog Yba.f4 Rows.lawS3829CCopyRow.domain false) (Rows.lawS3829CCopySpec.post enc Yba.prog Yba.f4 false true false false) := by
  refine returnsInHanded_of_change_sized (C := Yba.checked) own started (by kernel_rfl) Yba.func4
    (ChangeSpec.witness6 (enc := enc) (C := Yba.checked) false ⟨#[], #[.slice none 0 0], []⟩ 8 (by kernel_rfl) (by kernel_rfl) (by kernel_rfl) (by kernel_rfl)) ?_
  intro W base args ds gs before hval0 hW hcnd hsz0 _
  have hval : ∀ (j : Nat) t v, Yba.f4.params[j]? = some t → args[j]? = some v → Value.okWide Yba.prog W .any base t v := hval0
  have hW' := hW
  obtain ⟨p, q, hA0, hV, rfl, hfz, hnd⟩ := hW
  have hA : DataW.TrodAll enc Yba.prog W 0 (fun _ => true) true Yba.f4.params.toList args.toList ds p := hA0
  have hsz1 : (DataW.weightsEach Yba.prog (Yba.f4.params.toList ++ Rows.lawS3829CCopySpec.plain.varTypes Yba.prog) (ds ++ gs)).all (· ≤ reachBytes) = true := hsz0
  rw [Yba.params4] at hA hval hsz1
  obtain ⟨v0, vs0, d0, ds0, p0, q0, hargs, rfl, rfl, h0, r0⟩ := trodAll_cons hA
  obtain ⟨rfl, rfl, rfl⟩ := trodAll_nil r0
  obtain rfl : args = #[v0] := by cases args; simp_all
  have hw0 : ∀ n ∈ d0.weights Yba.prog 53, n ≤ reachBytes := fun n hn => by
    have := List.all_eq_true.1 hsz1 n (DataW.weights_mem_each (j := 0) (t := 53) (d := d0) rfl rfl n hn)
    simpa using this
  obtain ⟨rfl, rfl⟩ := trodVars_none hV
  obtain ⟨a0, c0, ss, rfl, i0, n0, z0⟩ := open_row (hval 0 53 v0 rfl rfl) h0 hw0
  have lt0 : ∀ x ∈ p0, x.block < W.heap.size := by obtain ⟨m, hm⟩ := h0; exact DataW.trod_lt m _ _ _ hm
  clear hA0 hval0
  refine (walk a0 c0 ss W i0 n0 z0).mono fun e W' ⟨he, bel⟩ => ?_
  subst he
  exact ⟨_, rfl, _, _, _, [], _, [], hW', trodAll_mk1 (shut_bool Yba.underlying4 _),
    (trodAll_cons_mk (Below.trod laidOut (by kernel_rfl) (of_decide_eq_true (by kernel_rfl)) h0 bel lt0) trodAll_mk0), rfl, bel.frame _, fun h => by cases h⟩

theorem over : Rows.lawS3829CCopyRow.holds Yba.pinned (OpenSpec.ofChange Rows.lawS3829CCopySpec) :=
  OpenClaim.holds_of_wide 4 Yba.f4 rfl rfl rfl rfl rfl rfl rfl ⟨rfl, rfl, rfl, rfl, rfl⟩ rfl rfl rfl rfl rfl (by kernel_rfl) Yba.func4 (by kernel_rfl)
    (of_decide_eq_true (by kernel_rfl)) (by unfold Func.isWrapper; first | (rw [if_pos (by decide +kernel)]; kernel_rfl) | (rw [if_neg (by decide +kernel)]; exact ⟨rfl, rfl⟩))
    (fun os started H enc _ => lifted os started H enc)

/-- THE STATEMENT -/
theorem proved : Rows.LawS3829CCopySaid := over
end Go.Proofs.Ybulkcagu.lawS3829CCopy
