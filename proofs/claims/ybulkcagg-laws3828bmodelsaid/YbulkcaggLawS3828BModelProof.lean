import Derived.Test.YbulkcaggRows
import Derived.Test.YbulkcaggLaw
import Derived.Test.YbulkcaggLong
import Derived.WalkKit
import Derived.ProofKit
import Derived.OpenShut
import Derived.ShutString
import Derived.ChangeOld
import Derived.Below
import Derived.Deep.Slices
namespace Go.Proofs.Ybulkcagg.lawS3828BModel
open Go.ChangeShapes Go.WideShapes Go.ChangeAt Go.RowKit
open Go.ChangeMaps (open_string shut_string)
set_option linter.unusedVariables false

theorem own : ownKnob Yba.prog.godebug = none := by kernel_rfl
theorem laidOut : laidOutB Yba.prog = true := by kernel_rfl
theorem cells3 : Yba.prog.cellsOf 3 = 1 := by kernel_rfl
theorem cells23 : Yba.prog.cellsOf 23 = 1 := by kernel_rfl
theorem cells27 : Yba.prog.cellsOf 27 = 4 := by kernel_rfl

/-- A slice of ints that came in, as its elements. -/
theorem open_row {H : Type} {enc : TypeId × Value → H} {W : World} {held : Bool} {r : Reach} {b0 : Nat} {v : Value} {d : DataW H} {p : List MemPlace}
    (hv : Value.okWide Yba.prog W r b0 22 v) (h : DataW.Trod enc Yba.prog W 0 (fun _ => true) held 22 v d p) :
    ∃ (a : Option Addr) (c : Nat) (zs : List Int), v = .slice a zs.length c ∧ InRow W a zs := by
  obtain ⟨a, len, cap, rfl⟩ := okWide_slice Yba.underlying22 hv
  obtain ⟨fuel, hf⟩ := h
  rcases open_ints Yba.underlying22 Yba.underlying3 (by kernel_rfl) hf with ⟨hcs, _⟩ | ⟨x, l, c, zs, hcs, _, hl, hm, hz, _, hcell, hwz⟩
  · simp [Value.cells] at hcs
    obtain ⟨rfl, rfl, rfl⟩ := hcs
    exact ⟨none, 0, [], rfl, .inl rfl⟩
  · simp [Value.cells] at hcs
    obtain ⟨rfl, rfl, rfl⟩ := hcs
    have hzc : zs.length = cap := by simpa using hz
    have hlen : (zs.take len).length = len := by rw [List.length_take]; omega
    refine ⟨some x, cap, zs.take len, by rw [hlen], ?_⟩
    by_cases h0 : len = 0
    · exact .inl (by rw [hlen]; exact h0)
    · obtain ⟨b, off, spot⟩ := x
      have hspot : spot = none := by simpa [Addr.add] using World.cell?_spot (hcell 0 (by omega))
      subst hspot
      refine .inr ⟨b, off, rfl, World.block_lt_of_cell? W _ (hcell 0 (by omega)), fun j hj => ?_⟩
      rw [hlen] at hj
      rw [← add_plain, hcell j (by omega)]
      simp [nth, hj]

/-- The slice of old pins that came in. -/
theorem open_pins {H : Type} {enc : TypeId × Value → H} {W : World} {held : Bool} {r : Reach} {b0 : Nat} {v : Value} {d : DataW H} {p : List MemPlace}
    (hv : Value.okWide Yba.prog W r b0 24 v) (h : DataW.Trod enc Yba.prog W 0 (fun _ => true) held 24 v d p) :
    ∃ (a : Option Addr) (M c : Nat), v = .slice a M c ∧ InPins W a M := by
  obtain ⟨a, len, cap, rfl⟩ := okWide_slice Yba.underlying24 hv
  obtain ⟨fuel, hf⟩ := h
  refine ⟨a, len, cap, rfl, ?_⟩
  by_cases h0 : len = 0
  · exact .inl h0
  rcases Deep.open_slice Yba.underlying24 hf with ⟨hcs, _⟩ | ⟨x, l, c, m, n, D, Pl, hcs, _, hl, _, hm, _, hx⟩
  · simp [Value.cells] at hcs
    omega
  · simp [Value.cells] at hcs
    obtain ⟨rfl, rfl, rfl⟩ := hcs
    have hmc : m = cap := by simpa using hm
    have each : ∀ i, i < len → ∃ q : Int × Int × Int × Int, W.cell? (x.add (i * 4)) = some (.int .i64 q.1) ∧ W.cell? (x.add (i * 4 + 1)) = some (.int .i64 q.2.1) ∧ W.cell? (x.add (i * 4 + 2)) = some (.int .u64 q.2.2.1) ∧ W.cell? (x.add (i * 4 + 3)) = some (.int .u64 q.2.2.2) := by
      intro i hi
      obtain ⟨cs', h1, h2⟩ := hx i (by omega)
      rw [cells27] at h1
      obtain ⟨_, hlen, hcell⟩ := World.cells?_some h1
      obtain ⟨xs, k, hk, _, _, hxl, hfd⟩ := DataW.trod_struct Yba.underlying27 h2
      match cs', hlen with
      | [v0, v1, v2, v3], _ =>
        have hxl4 : xs.length = 4 := hxl
        have g0 : DataW.trod enc Yba.prog W 0 (fun _ => true) held k 3 (([v0, v1, v2, v3].drop 0).take (Yba.prog.cellsOf 3)) = xs[0]? := hfd 0 _ rfl
        rw [cells3, List.getElem?_eq_getElem (by omega)] at g0
        have g1 : DataW.trod enc Yba.prog W 0 (fun _ => true) held k 3 (([v0, v1, v2, v3].drop 1).take (Yba.prog.cellsOf 3)) = xs[1]? := hfd 1 _ rfl
        rw [cells3, List.getElem?_eq_getElem (by omega)] at g1
        have g2 : DataW.trod enc Yba.prog W 0 (fun _ => true) held k 23 (([v0, v1, v2, v3].drop 2).take (Yba.prog.cellsOf 23)) = xs[2]? := hfd 2 _ rfl
        rw [cells23, List.getElem?_eq_getElem (by omega)] at g2
        have g3 : DataW.trod enc Yba.prog W 0 (fun _ => true) held k 23 (([v0, v1, v2, v3].drop 3).take (Yba.prog.cellsOf 23)) = xs[3]? := hfd 3 _ rfl
        rw [cells23, List.getElem?_eq_getElem (by omega)] at g3
        obtain ⟨n0, e0, _, _⟩ := DataW.trod_int Yba.underlying3 g0
        obtain ⟨n1, e1, _, _⟩ := DataW.trod_int Yba.underlying3 g1
        obtain ⟨n2, e2, _, _⟩ := DataW.trod_int Yba.underlying23 g2
        obtain ⟨n3, e3, _, _⟩ := DataW.trod_int Yba.underlying23 g3
        simp at e0 e1 e2 e3
        subst e0 e1 e2 e3
        have k0 := hcell 0 (by omega)
        have k1 := hcell 1 (by omega)
        have k2 := hcell 2 (by omega)
        have k3 := hcell 3 (by omega)
        rw [Deep.add_add] at k0 k1 k2 k3
        exact ⟨(n0, n1, n2, n3), by simpa using k0, by simpa using k1, by simpa using k2, by simpa using k3⟩
    obtain ⟨q, hq⟩ := Deep.choose_lt each
    obtain ⟨b, off, spot⟩ := x
    have hspot : spot = none := by simpa [Addr.add] using World.cell?_spot (hq 0 (by omega)).1
    subst hspot
    refine .inr ⟨b, off, fun i => ⟨(q i).1, (q i).2.1, (q i).2.2.1, (q i).2.2.2⟩, rfl, ?_, fun j hj => ?_⟩
    · have := World.block_lt_of_cell? W _ (hq 0 (by omega)).1
      rw [add_plain] at this
      exact this
    · obtain ⟨a0, a1, a2, a3⟩ := hq j hj
      rw [add_plain] at a0 a1 a2 a3
      exact ⟨a0, a1, a2, a3⟩

theorem walk (a0 a5 a6 : Option Addr) (c0 c5 c6 M : Nat) (zs ys : List Int) (n8 r8 fa : Int) (om : Bool) (w : World) (h1 : 0 ≤ n8 ∧ n8 ≤ 255) (h2 : 0 ≤ r8 ∧ r8 ≤ 255) (h3 : 0 ≤ fa ∧ fa ≤ 18446744073709551615)
    (h0 : InRow w a0 zs) (h5 : InRow w a5 ys) (h6 : InPins w a6 M) :
    Calls Yba.prog 3 #[.slice a0 zs.length c0, .int .u8 n8, .int .u8 r8, .int .u64 fa, .bool om, .slice a5 ys.length c5, .slice a6 M c6] w fun e w' => e = .returned (.bool true) ∧ Below w.heap.size w w' := by
  obtain ⟨n, rfl⟩ := Int.eq_ofNat_of_zero_le h1.1
  obtain ⟨r, rfl⟩ := Int.eq_ofNat_of_zero_le h2.1
  by_cases l0 : (1024 : Int) < (zs.length : Int)
  · exact law_long1 _ _ _ _ _ _ _ _ _ _ _ _ _ _ l0
  by_cases l5 : (1024 : Int) < (ys.length : Int)
  · exact law_long2 _ _ _ _ _ _ _ _ _ _ _ _ _ _ l0 l5
  by_cases l6 : (1024 : Int) < (M : Int)
  · exact law_long3 _ _ _ _ _ _ _ _ _ _ _ _ _ _ l0 l5 l6
  exact law_main a0 a5 a6 c0 c5 c6 M zs ys n r fa om w (by omega) (by omega) h3.1 h3.2 (by omega) (by omega) (by omega) h0 h5 h6

set_option maxRecDepth 100000 in
theorem lifted (os : Os) (started : os.Started) (H : Type) (enc : TypeId × Value → H) :
    ReturnsInHanded {} Yba.checked os 3 .any (Rows.lawS3828BModelSpec.pre6 enc Yba.prog Yba.f3 Rows.lawS3828BModelRow.domain false) (Rows.lawS3828BModelSpec.post enc Yba.prog Yba.f3 false true false false) := by
  refine returnsInHanded_of_change (C := Yba.checked) own started (by kernel_rfl) Yba.func3
    (ChangeSpec.witness6 (enc := enc) (C := Yba.checked) false ⟨#[], #[.slice none 0 0, .int .u8 0, .int .u8 0, .int .u64 0, .bool false, .slice none 0 0, .slice none 0 0], []⟩ 8 (by kernel_rfl) (by kernel_rfl) (by kernel_rfl) (by kernel_rfl)) ?_
  intro W base args ds gs before hval0 hW hcnd _
  have hval : ∀ (j : Nat) t v, Yba.f3.params[j]? = some t → args[j]? = some v → Value.okWide Yba.prog W .any base t v := hval0
  have hW' := hW
  obtain ⟨p, q, hA0, hV, rfl, hfz, hnd⟩ := hW
  have hA : DataW.TrodAll enc Yba.prog W 0 (fun _ => true) true Yba.f3.params.toList args.toList ds p := hA0
  rw [Yba.params3] at hA hval
  obtain ⟨v0, vs0, d0, ds0, p0, q0, hargs, rfl, rfl, h0, r0⟩ := trodAll_cons hA
  obtain ⟨v1, vs1, d1, ds1, p1, q1, rfl, rfl, rfl, h1, r1⟩ := trodAll_cons r0
  obtain ⟨v2, vs2, d2, ds2, p2, q2, rfl, rfl, rfl, h2, r2⟩ := trodAll_cons r1
  obtain ⟨v3, vs3, d3, ds3, p3, q3, rfl, rfl, rfl, h3, r3⟩ := trodAll_cons r2
  obtain ⟨v4, vs4, d4, ds4, p4, q4, rfl, rfl, rfl, h4, r4⟩ := trodAll_cons r3
  obtain ⟨v5, vs5, d5, ds5, p5, q5, rfl, rfl, rfl, h5, r5⟩ := trodAll_cons r4
  obtain ⟨v6, vs6, d6, ds6, p6, q6, rfl, rfl, rfl, h6, r6⟩ := trodAll_cons r5
  obtain ⟨rfl, rfl, rfl⟩ := trodAll_nil r6
  obtain rfl : args = #[v0, v1, v2, v3, v4, v5, v6] := by cases args; simp_all
  obtain ⟨rfl, rfl⟩ := trodVars_none hV
  obtain ⟨a0, c0, zs, rfl, i0⟩ := open_row (hval 0 22 v0 rfl rfl) h0
  obtain ⟨x1, rfl, rfl, rfl, w1⟩ := open_int Yba.underlying5 (hval 1 5 v1 rfl rfl) h1
  obtain ⟨x2, rfl, rfl, rfl, w2⟩ := open_int Yba.underlying5 (hval 2 5 v2 rfl rfl) h2
  obtain ⟨x3, rfl, rfl, rfl, w3⟩ := open_int Yba.underlying23 (hval 3 23 v3 rfl rfl) h3
  obtain ⟨x4, rfl, rfl, rfl⟩ := open_bool Yba.underlying4 (hval 4 4 v4 rfl rfl) h4
  obtain ⟨a5, c5, ys, rfl, i5⟩ := open_row (hval 5 22 v5 rfl rfl) h5
  obtain ⟨a6, M, c6, rfl, i6⟩ := open_pins (hval 6 24 v6 rfl rfl) h6
  have lt0 : ∀ x ∈ p0, x.block < W.heap.size := by obtain ⟨m, hm⟩ := h0; exact DataW.trod_lt m _ _ _ hm
  have lt5 : ∀ x ∈ p5, x.block < W.heap.size := by obtain ⟨m, hm⟩ := h5; exact DataW.trod_lt m _ _ _ hm
  have lt6 : ∀ x ∈ p6, x.block < W.heap.size := by obtain ⟨m, hm⟩ := h6; exact DataW.trod_lt m _ _ _ hm
  clear hA0 hval0
  refine (walk a0 a5 a6 c0 c5 c6 M zs ys x1 x2 x3 x4 W (bounds_u8 w1) (bounds_u8 w2) (bounds_u64 w3) i0 i5 i6).mono fun e W' ⟨he, bel⟩ => ?_
  subst he
  exact ⟨_, rfl, _, _, _, [], _, [], hW', trodAll_mk1 (shut_bool Yba.underlying4 _),
    (trodAll_cons_mk (Below.trod laidOut (by kernel_rfl) (of_decide_eq_true (by kernel_rfl)) h0 bel lt0) (trodAll_cons_mk (shut_int Yba.underlying5 w1) (trodAll_cons_mk (shut_int Yba.underlying5 w2) (trodAll_cons_mk (shut_int Yba.underlying23 w3) (trodAll_cons_mk (shut_bool Yba.underlying4 x4)
      (trodAll_cons_mk (Below.trod laidOut (by kernel_rfl) (of_decide_eq_true (by kernel_rfl)) h5 bel lt5) (trodAll_cons_mk (Below.trod laidOut (by kernel_rfl) (of_decide_eq_true (by kernel_rfl)) h6 bel lt6) trodAll_mk0))))))), rfl, bel.frame _, fun h => by cases h⟩

theorem over : Rows.lawS3828BModelRow.holds Yba.pinned (OpenSpec.ofChange Rows.lawS3828BModelSpec) :=
  OpenClaim.holds_of_wide 3 Yba.f3 rfl rfl rfl rfl rfl rfl rfl ⟨rfl, rfl, rfl, rfl, rfl⟩ rfl rfl rfl rfl rfl (by kernel_rfl) Yba.func3 (by kernel_rfl)
    (of_decide_eq_true (by kernel_rfl)) (by unfold Func.isWrapper; first | (rw [if_pos (by decide +kernel)]; kernel_rfl) | (rw [if_neg (by decide +kernel)]; exact ⟨rfl, rfl⟩))
    (fun os started H enc _ => lifted os started H enc)

/-- THE STATEMENT -/
theorem proved : Rows.LawS3828BModelSaid := over
end Go.Proofs.Ybulkcagg.lawS3828BModel
