import Derived.Test.YbulkcaggDoorRows
import Derived.Test.YbulkcaggDoorCheck
import Derived.ProofKit
import Derived.LaidMore
import Derived.OpenShut
import Derived.ChangeOld
import Derived.MakeChecks
import Derived.Stop.Joined
namespace Go.Proofs.YbulkcaggDoor
open Go.ChangeShapes Go.WideShapes Go.ChangeAt Go.RowKit
set_option linter.unusedVariables false

theorem own : ownKnob Ybad.prog.godebug = none := by kernel_rfl
theorem laidOut : laidOutB Ybad.prog = true := by kernel_rfl
theorem cells3 : Ybad.prog.cellsOf 3 = 1 := by kernel_rfl
theorem cells63 : Ybad.prog.cellsOf 63 = 2 := by kernel_rfl
/-- The names of the three listed spans, as the given row names them. -/
def vP : String := Rows.lawS3828CValidSpec.vars.getD 0 ""
def vR : String := Rows.lawS3828CValidSpec.vars.getD 1 ""
def vV : String := Rows.lawS3828CValidSpec.vars.getD 2 ""
theorem gP : Ybad.prog.globalNamed vP = some 1 := by kernel_rfl
theorem gR : Ybad.prog.globalNamed vR = some 3 := by kernel_rfl
theorem gV : Ybad.prog.globalNamed vV = some 2 := by kernel_rfl
theorem tP : (Ybad.prog.globals[1]?).map (·.type) = some 63 := by kernel_rfl
theorem tR : (Ybad.prog.globals[3]?).map (·.type) = some 63 := by kernel_rfl
theorem tV : (Ybad.prog.globals[2]?).map (·.type) = some 63 := by kernel_rfl

/-- A span that reads as a datum: its two cells. -/
theorem span_of {H : Type} {enc : TypeId × Value → H} {W : World} {base : Nat} {sp : Nat → Bool} {held : Bool} {f : Nat} {cs : Array Value} {a b : Int} {p : List MemPlace}
    (h : DataW.trod enc Ybad.prog W base sp held f 63 cs.toList = some (.agg [.lit (.int .i64 a), .lit (.int .i64 b)], p)) : cs = #[.int .i64 a, .int .i64 b] := by
  obtain ⟨xs, k, hk, hx, hlen, hxl, hfd⟩ := DataW.trod_struct Ybad.underlying63 h
  rw [cells63] at hlen
  obtain ⟨l⟩ := cs
  match l, hlen with
  | [v0, v1], _ =>
    have hxl2 : xs.length = 2 := hxl
    have g0 : DataW.trod enc Ybad.prog W base sp held k 3 (([v0, v1].drop 0).take (Ybad.prog.cellsOf 3)) = xs[0]? := hfd 0 _ rfl
    have g1 : DataW.trod enc Ybad.prog W base sp held k 3 (([v0, v1].drop 1).take (Ybad.prog.cellsOf 3)) = xs[1]? := hfd 1 _ rfl
    match xs, hxl2 with
    | [y0, y1], _ =>
      rw [cells3] at g0 g1
      obtain ⟨n0, e0, q0, _⟩ := DataW.trod_int (x := y0) Ybad.underlying3 g0
      obtain ⟨n1, e1, q1, _⟩ := DataW.trod_int (x := y1) Ybad.underlying3 g1
      simp at e0 e1
      subst e0 e1 q0 q1
      simp only [List.map_cons, List.map_nil, Prod.mk.injEq, DataW.agg.injEq, List.cons.injEq, and_true, DataW.lit.injEq, Lit.int.injEq, true_and] at hx
      obtain ⟨⟨rfl, rfl⟩, _⟩ := hx
      rfl

/-- WHAT THE CONDITION GIVES THE WALKS. -/
theorem glob_of {W : World} (h : laidMet Ybad.prog Rows.lawS3828CValidRow.laid W) : Glob W := by
  obtain ⟨ps, ⟨g0, t0, cs0, f0, p0, q0, hg0, ht0, hv0, hd0, ⟨g1, t1, cs1, f1, p1, q1, hg1, ht1, hv1, hd1, ⟨g2, t2, cs2, f2, p2, q2, hg2, ht2, hv2, hd2, _, _⟩, _⟩, _⟩, _, _⟩ := h
  obtain rfl := Option.some.inj (gP.symm.trans hg0)
  obtain rfl := Option.some.inj (gR.symm.trans hg1)
  obtain rfl := Option.some.inj (gV.symm.trans hg2)
  obtain rfl := Option.some.inj (tP.symm.trans ht0)
  obtain rfl := Option.some.inj (tR.symm.trans ht1)
  obtain rfl := Option.some.inj (tV.symm.trans ht2)
  obtain rfl := span_of hd0
  obtain rfl := span_of hd1
  obtain rfl := span_of hd2
  refine ⟨?_, World.var?_cell hg0 hv0 0, World.var?_cell hg0 hv0 1, World.var?_cell hg2 hv2 0, World.var?_cell hg2 hv2 1, World.var?_cell hg1 hv1 0, World.var?_cell hg1 hv1 1⟩
  exact World.block_lt_of_cell? W _ (World.var?_cell hg1 hv1 0)

/-- The three named variables read as they did: of what was there nothing has turned. -/
theorem vars_below {H : Type} {enc : TypeId × Value → H} {W W' : World} (hb : Below W.heap.size W W') : ∀ (ns : List String), (∀ n ∈ ns, ∃ g, Ybad.prog.globalNamed n = some g ∧ (Ybad.prog.globals[g]?).map (·.type) = some 63) → ∀ (ds : List (DataW H)) (ps : List MemPlace),
    DataW.TrodVars enc Ybad.prog W (fun _ => true) ns ds ps → DataW.TrodVars enc Ybad.prog W' (fun b => decide (b < W.heap.size)) ns ds ps
  | [], _, [], ps, h => h
  | [], _, _ :: _, ps, h => absurd h (by intro h; cases h)
  | _ :: _, _, [], ps, h => absurd h (by intro h; cases h)
  | n :: ns, hn, d :: ds, ps, h => by
    obtain ⟨g, t, cs, fuel, p, q, hg, ht, hv, hd, hr, hps⟩ := h
    obtain ⟨g', hg', ht'⟩ := hn n (by simp)
    obtain rfl := Option.some.inj (hg'.symm.trans hg)
    obtain rfl := Option.some.inj (ht'.symm.trans ht)
    have hT : DataW.Trod enc Ybad.prog W 0 (fun _ => true) true 63 (.agg cs) d p := ⟨fuel, hd⟩
    have hlt : ∀ x ∈ p, x.block < W.heap.size := DataW.trod_lt fuel _ _ _ hd
    obtain ⟨fuel', hd'⟩ := Below.trod laidOut (by kernel_rfl) (of_decide_eq_true (by kernel_rfl)) hT hb hlt
    have hgl : g' < W.heap.size := by
      rcases Nat.lt_or_ge g' W.heap.size with h | h
      · exact h
      · simp [World.var?, hg, Array.getElem?_eq_none h] at hv
    have hv' : W'.var? Ybad.prog n = some cs := by
      simp only [World.var?, hg, Option.bind_some] at hv ⊢
      rw [hb.block g' hgl]; exact hv
    exact ⟨g', 63, cs, fuel', p, q, hg, ht', hv', hd', vars_below hb ns (fun m hm => hn m (by simp [hm])) ds q hr, hps⟩

theorem names3 : ∀ n ∈ Rows.lawS3828CValidSpec.vars, ∃ g, Ybad.prog.globalNamed n = some g ∧ (Ybad.prog.globals[g]?).map (·.type) = some 63 := by
  intro n hn
  rw [show Rows.lawS3828CValidSpec.vars = [vP, vR, vV] from rfl] at hn
  simp only [List.mem_cons, List.not_mem_nil, or_false] at hn
  rcases hn with rfl | rfl | rfl
  · exact ⟨1, gP, tP⟩
  · exact ⟨3, gR, tR⟩
  · exact ⟨2, gV, tV⟩

theorem three_vars {H : Type} {enc : TypeId × Value → H} {W : World} {sp : Nat → Bool} {n0 n1 n2 : String} {gs : List (DataW H)} {ps : List MemPlace} (h : DataW.TrodVars enc Ybad.prog W sp [n0, n1, n2] gs ps) : ∃ a b c, gs = [a, b, c] := by
  match gs, h with
  | [a, b, c], _ => exact ⟨a, b, c, rfl⟩
  | [], h => exact absurd h (by intro h; cases h)
  | [_], h => obtain ⟨_, _, _, _, _, _, _, _, _, _, h, _⟩ := h; exact absurd h (by intro h; cases h)
  | [_, _], h => obtain ⟨_, _, _, _, _, _, _, _, _, _, ⟨_, _, _, _, _, _, _, _, _, _, h, _⟩, _⟩ := h; exact absurd h (by intro h; cases h)
  | _ :: _ :: _ :: _ :: _, h => obtain ⟨_, _, _, _, _, _, _, _, _, _, ⟨_, _, _, _, _, _, _, _, _, _, ⟨_, _, _, _, _, _, _, _, _, _, h, _⟩, _⟩, _⟩ := h; exact absurd h (by intro h; cases h)
end Go.Proofs.YbulkcaggDoor
