import Derived.Test.YbulkcaguChecked
import Derived.WalkKit
import Derived.ProofKit
import Derived.Below
import Derived.WalkSpells
import Derived.WalkSmall
import Derived.BigQuiet
import Derived.Deep.QuietTactic
import Derived.RegionTactic
import Derived.Lib.SliceRun
import Derived.Laws.IdiomCopy
namespace Go.Proofs.Ybulkcagu
open Go.RowKit
set_option linter.unusedVariables false
set_option linter.unusedSimpArgs false

/-- The i-th string of a list. -/
def nthS (ss : List ByteArray) (i : Nat) : ByteArray := ss.getD i ByteArray.empty

/-- The strings ss lie in block G, from its start on; it may be written. -/
structure StrRow (w : World) (G : Nat) (ss : List ByteArray) : Prop where
  lt : G < w.heap.size
  cell : ∀ j, j < ss.length → w.cell? ⟨G, j, none⟩ = some (.string (nthS ss j))
  free : ∀ j, w.frozen? ⟨G, j, none⟩ = false

theorem StrRow.below {w w' : World} {G : Nat} {ss : List ByteArray} (h : StrRow w G ss) {B : Nat} (hb : Below B w w') (hG : G < B) : StrRow w' G ss :=
  ⟨Nat.lt_of_lt_of_le h.lt hb.size, fun j hj => by rw [hb.cell (p := ⟨G, j, none⟩) hG]; exact h.cell j hj, fun j => by rw [hb.frozen (p := ⟨G, j, none⟩) hG]; exact h.free j⟩

/-- The strings of a slice, wherever it lies: it has none, or they lie at its address. -/
def InStrs (w : World) (a : Option Addr) (ss : List ByteArray) : Prop :=
  ss.length = 0 ∨ ∃ b o, a = some ⟨b, o, none⟩ ∧ b < w.heap.size ∧ ∀ j, j < ss.length → w.cell? ⟨b, o + j, none⟩ = some (.string (nthS ss j))

theorem InStrs.below {w w' : World} {a : Option Addr} {ss : List ByteArray} (h : InStrs w a ss) (hb : Below w.heap.size w w') : InStrs w' a ss := by
  rcases h with h | ⟨b, o, h1, h2, h3⟩
  · exact .inl h
  · exact .inr ⟨b, o, h1, Nat.lt_of_lt_of_le h2 hb.size, fun j hj => by rw [hb.cell (p := ⟨b, o + j, none⟩) h2]; exact h3 j hj⟩

theorem StrRow.ins {w : World} {G : Nat} {ss : List ByteArray} (h : StrRow w G ss) : InStrs w (some ⟨G, 0, none⟩) ss :=
  .inr ⟨G, 0, rfl, h.lt, fun j hj => by rw [Nat.zero_add]; exact h.cell j hj⟩

theorem info9 : ∃ i, Yba.prog.info? 9 = some i ∧ i.zero = some (.string ByteArray.empty) ∧ i.size = 1 ∧ i.bytes = 16 := by
  have h : (Yba.prog.info? 9).map (fun i => (i.zero, i.size, i.bytes)) = some (some (.string ByteArray.empty), 1, 16) := by kernel_rfl
  cases hi : Yba.prog.info? 9 with
  | none => rw [hi] at h; simp at h
  | some i => rw [hi] at h; simp at h; exact ⟨i, rfl, h.1, h.2.1, h.2.2⟩
theorem size9 : (Yba.prog.info? 9).map (·.size) = some 1 := by kernel_rfl

/-- Empty strings: what 'make' lays. -/
def blanks (n : Nat) : Array Value := madeCells #[.string ByteArray.empty] n

theorem mk53 (n : Nat) (hn : n ≤ 1024) (w : World) : (Instr.makeSlice 53 (.int .i64 n) (.int .i64 n)).run Yba.prog w = .ok (.slice (some ⟨w.heap.size, 0, none⟩) n n) (w.alloc (.cells (blanks n) 9)) := by
  obtain ⟨i, hi, hz, hs, hb⟩ := info9
  have h := run_make (P := Yba.prog) w 53 9 i _ Yba.underlying53 hi hz .i64 .i64 (n : Int) (n : Int) (by omega) (Int.le_refl _) (by rw [hb]; omega) (by omega)
  rw [hs, Nat.mul_one] at h
  exact h

theorem one_strs (ss : List ByteArray) : ∀ v ∈ ss.map Value.string, v.oneCell' = true := by
  intro v hv
  obtain ⟨x, _, rfl⟩ := List.mem_map.1 hv
  rfl

theorem setCells_below (A : Nat) {B : Nat} (hA : B ≤ A) : ∀ (vs : List Value) (o : Nat) (w : World), Below B w (w.setCells A o vs)
  | [], _, w => Below.refl _ w
  | v :: r, o, w => by
    rw [World.setCells]
    exact ((Below.refl B w).setCell (p := ⟨A, o, none⟩) hA v).trans (setCells_below A hA r (o + 1) _)

theorem setCells_size (A : Nat) : ∀ (vs : List Value) (o : Nat) (w : World), (w.setCells A o vs).heap.size = w.heap.size
  | [], _, _ => rfl
  | v :: r, o, w => by rw [World.setCells, setCells_size A r]; simp [World.setCell]

/-- 'make' and 'copy': a new row that holds what the source holds. -/
theorem run_copied (w : World) (a : Option Addr) (c : Nat) (ss : List ByteArray) (hi : InStrs w a ss) (ty : TypeId) :
    ∃ w1, (Builtin.copy_ #[53, 53] ty #[.slice (some ⟨w.heap.size, 0, none⟩) ss.length ss.length, .slice a ss.length c]).run Yba.prog (w.alloc (.cells (blanks ss.length) 9)) = .ok (.int .i64 ss.length) w1 ∧ StrRow w1 w.heap.size ss ∧ Below w.heap.size w w1 ∧ w1.heap.size = w.heap.size + 1 := by
  have hb0 : Below w.heap.size w (w.alloc (.cells (blanks ss.length) 9)) := (Below.refl _ w).alloc (Nat.le_refl _) _
  have hcl : ∀ j, j < ss.length → ((w.alloc (.cells (blanks ss.length) 9)).cell? ⟨w.heap.size, 0 + j, none⟩).isSome = true := fun j hj => by
    rw [World.cell?_alloc_new]; simp [blanks, madeCells, hj]
  rcases hi.below hb0 with hi | ⟨b, o, rfl, hb, hcell⟩
  · refine ⟨_, ?_, ⟨by simp, fun j hj => by omega, fun j => by simp⟩, hb0, by simp⟩
    have := run_copy_none (P := Yba.prog) (w.alloc (.cells (blanks ss.length) 9)) 53 53 ty 9 (some ⟨w.heap.size, 0, none⟩) a ss.length ss.length ss.length c Yba.underlying53 size9 (by simp [hi])
    rw [this, hi]; rfl
  · have hl : (ss.map Value.string).length = ss.length := by simp
    have hcp := run_copy_cells (P := Yba.prog) (w.alloc (.cells (blanks ss.length) 9)) 53 53 ty 9 w.heap.size 0 ss.length ss.length ⟨b, o, none⟩ ss.length c (ss.map Value.string) Yba.underlying53 size9 (by rw [hl]; simp)
      (fun j v hv => by
        rw [List.getElem?_map] at hv
        obtain ⟨x, hx, rfl⟩ := Option.map_eq_some_iff.1 hv
        have hj : j < ss.length := by
          rcases Nat.lt_or_ge j ss.length with h | h
          · exact h
          · rw [List.getElem?_eq_none h] at hx; simp at hx
        have ea : (⟨b, o, none⟩ : Addr).add j = ⟨b, o + j, none⟩ := by unfold Addr.add; split <;> simp_all
        rw [ea, hcell j hj]
        simp [nthS, hx])
      (fun j hj => hcl j (by rw [hl] at hj; exact hj)) (fun j _ => by simp) (one_strs ss)
    refine ⟨_, by rw [hcp, hl]; rfl, ⟨by rw [setCells_size]; simp, fun j hj => ?_, fun j => by rw [World.frozen?_setCells]; simp⟩, hb0.trans (setCells_below _ (Nat.le_refl _) _ _ _), by rw [setCells_size]; simp⟩
    have := World.cell?_setCells_in w.heap.size (ss.map Value.string) 0 (w.alloc (.cells (blanks ss.length) 9)) (fun i hi => hcl i (by rw [hl] at hi; exact hi)) j (by simpa using hj)
    rw [Nat.zero_add] at this
    rw [this]
    simp [nthS, hj]

set_option maxHeartbeats 400000 in
theorem clone_nil (n c : Nat) (w : World) : Calls Yba.prog 7 #[.slice none n c] w fun e w' => e = .returned (.slice none 0 0) ∧ w' = w := by
  have hq := fun wx => Lib.run_eql_slice_nil (P := Yba.prog) wx 53 9 none n c 0 0 Yba.underlying53
  go_enter Yba.func7, Yba.ntmps7
  go_wp2
  go_ret
  exact ⟨rfl, rfl⟩

set_option maxHeartbeats 400000 in
theorem clone_some (a : Addr) (c : Nat) (ss : List ByteArray) (w : World) (hL : ss.length ≤ 1024) (hi : InStrs w (some a) ss) :
    Calls Yba.prog 7 #[.slice (some a) ss.length c] w fun e w' => e = .returned (.slice (some ⟨w.heap.size, 0, none⟩) ss.length ss.length) ∧ StrRow w' w.heap.size ss ∧ Below w.heap.size w w' ∧ w'.heap.size = w.heap.size + 1 := by
  have hq := fun wx => Lib.run_eql_slice_nil (P := Yba.prog) wx 53 9 (some a) ss.length c 0 0 Yba.underlying53
  have mk := mk53 ss.length hL
  obtain ⟨w1, hcp, hr, hb, hs⟩ := run_copied w (some a) c ss hi 3
  have HS : Hid (w1.heap.size = w.heap.size + 1) := hs
  clear hs
  go_enter Yba.func7, Yba.ntmps7
  go_wp2
  go_ret
  exact ⟨rfl, hr, hb, HS.out⟩

set_option maxHeartbeats 400000 in
theorem items_any (C : Nat) (a : Option Addr) (c : Nat) (ss : List ByteArray) (w : World) (hL : ss.length ≤ 1024) (hC : w.cell? ⟨C, 0, none⟩ = some (.slice a ss.length c)) (hi : InStrs w a ss) :
    Calls Yba.prog 8 #[.pointer (some ⟨C, 0, none⟩)] w fun e w' => e = .returned (.slice (some ⟨w.heap.size, 0, none⟩) ss.length ss.length) ∧ StrRow w' w.heap.size ss ∧ Below w.heap.size w w' ∧ w'.heap.size = w.heap.size + 1 := by
  have hCl : C < w.heap.size := World.block_lt_of_cell? w _ hC
  have mk := mk53 ss.length hL
  obtain ⟨w1, hcp, hr, hb, hs⟩ := run_copied w a c ss hi 3
  have HS : Hid (w1.heap.size = w.heap.size + 1) := hs
  clear hs
  go_enter Yba.func8, Yba.ntmps8
  go_wp2
  go_ret
  exact ⟨rfl, hr, hb, HS.out⟩
end Go.Proofs.Ybulkcagu
