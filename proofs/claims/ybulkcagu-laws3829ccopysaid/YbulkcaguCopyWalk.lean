import Derived.Test.YbulkcaguStrs
namespace Go.Proofs.Ybulkcagu
open Go.RowKit
set_option linter.unusedVariables false
set_option linter.unusedSimpArgs false

/-- What the law's own clone answers: a slice of the same strings, in new memory. -/
def Cloned (w : World) (ss : List ByteArray) (e : Ending) (w' : World) : Prop :=
  ∃ (a1 : Option Addr) (c1 : Nat), e = .returned (.slice a1 ss.length c1) ∧ InStrs w' a1 ss ∧ Below w.heap.size w w'

theorem clone_any (a : Option Addr) (c : Nat) (ss : List ByteArray) (w : World) (hL : ss.length ≤ 1024) (hi : InStrs w a ss) (hn : a = none → ss.length = 0) :
    Calls Yba.prog 7 #[.slice a ss.length c] w fun e w' => Cloned w ss e w' := by
  cases a with
  | none =>
    have h0 := hn rfl
    refine (clone_nil ss.length c w).mono ?_
    rintro e w' ⟨rfl, rfl⟩
    exact ⟨none, 0, by rw [h0], .inl h0, Below.refl _ _⟩
  | some x =>
    refine (clone_some x c ss w hL hi).mono ?_
    rintro e w' ⟨rfl, h1, h2, _⟩
    exact ⟨_, _, rfl, h1.ins, h2⟩

set_option maxHeartbeats 400000 in
theorem copy_long (a : Option Addr) (n c : Nat) (w : World) (h : (1024 : Int) < (n : Int)) : Calls Yba.prog 4 #[.slice a n c] w fun e w' => e = .returned (.bool true) ∧ Below w.heap.size w w' := by
  go_enter Yba.func4, Yba.ntmps4
  go_wp2
  go_ret
  exact ⟨rfl, Below.refl _ _⟩

/-- The strings of a slice that lies below block B. -/
def InAt (w : World) (B : Nat) (a : Option Addr) (ss : List ByteArray) : Prop :=
  ss.length = 0 ∨ ∃ b o, a = some ⟨b, o, none⟩ ∧ b < B ∧ ∀ j, j < ss.length → w.cell? ⟨b, o + j, none⟩ = some (.string (nthS ss j))

theorem InAt.below {w w' : World} {B : Nat} {a : Option Addr} {ss : List ByteArray} (h : InAt w B a ss) (hb : Below B w w') : InAt w' B a ss := by
  rcases h with h | ⟨b, o, h1, h2, h3⟩
  · exact .inl h
  · exact .inr ⟨b, o, h1, h2, fun j hj => by rw [hb.cell (p := ⟨b, o + j, none⟩) h2]; exact h3 j hj⟩

theorem InStrs.at {w : World} {B : Nat} {a : Option Addr} {ss : List ByteArray} (h : InStrs w a ss) (hB : w.heap.size ≤ B) : InAt w B a ss := by
  rcases h with h | ⟨b, o, h1, h2, h3⟩
  · exact .inl h
  · exact .inr ⟨b, o, h1, Nat.lt_of_lt_of_le h2 hB, h3⟩

/-- What the law holds when both copies have been made: 'C' is the receiver's block, 'C + 1' that of Items' answer. -/
structure Mid (w wr : World) (C : Nat) (a a1 : Option Addr) (c1 : Nat) (ss : List ByteArray) : Prop where
  below : Below w.heap.size w wr
  low : w.heap.size ≤ C
  ins : InAt wr C a ss
  mine : InAt wr C a1 ss
  recv : wr.cell? ⟨C, 0, none⟩ = some (.slice a1 ss.length c1)
  lt : C + 1 < wr.heap.size

theorem Mid.later {w wr wr' : World} {C : Nat} {a a1 : Option Addr} {c1 : Nat} {ss : List ByteArray} (h : Mid w wr C a a1 c1 ss) (hb : Below (C + 1) wr wr') : Mid w wr' C a a1 c1 ss where
  below := h.below.trans (hb.mono (by have := h.low; omega))
  low := h.low
  ins := h.ins.below (hb.mono (by omega))
  mine := h.mine.below (hb.mono (by omega))
  recv := by rw [hb.cell (p := ⟨C, 0, none⟩) (by simp)]; exact h.recv
  lt := Nat.lt_of_lt_of_le h.lt hb.size

theorem Mid.at {w wr : World} {C : Nat} {a a1 : Option Addr} {c1 : Nat} {ss : List ByteArray} (h : Mid w wr C a a1 c1 ss) (j : Nat) (hj : j < ss.length) :
    (∃ b o, a = some ⟨b, o, none⟩ ∧ wr.cell? ⟨b, o + j, none⟩ = some (.string (nthS ss j))) ∧ (∃ b o, a1 = some ⟨b, o, none⟩ ∧ wr.cell? ⟨b, o + j, none⟩ = some (.string (nthS ss j))) := by
  constructor
  · rcases h.ins with h0 | ⟨b, o, h1, _, h3⟩
    · omega
    · exact ⟨b, o, h1, h3 j hj⟩
  · rcases h.mine with h0 | ⟨b, o, h1, _, h3⟩
    · omega
    · exact ⟨b, o, h1, h3 j hj⟩

set_option maxRecDepth 100000 in
set_option maxHeartbeats 2000000 in
theorem copy_main (a : Option Addr) (c : Nat) (ss : List ByteArray) (w : World) (hL : ss.length ≤ 1024) (hi : InStrs w a ss) (hn : a = none → ss.length = 0) (hsz : ∀ j, j < ss.length → (nthS ss j).size ≤ 140737488351232) :
    Calls Yba.prog 4 #[.slice a ss.length c] w fun e w' => e = .returned (.bool true) ∧ Below w.heap.size w w' := by
  have l0 : ¬ (1024 : Int) < (ss.length : Int) := by omega
  go_enter Yba.func4, Yba.ntmps4
  go_wp2_with fail
  refine (clone_any a c ss w hL hi hn).mono ?_
  rintro e w1 ⟨a1, c1, rfl, hm, hb⟩
  clear hn
  go_wp2_with fail
  have rc : (w1.alloc (.cells #[.slice a1 ss.length c1, .slice none 0 0, .slice none 0 0, .slice none 0 0, .int .i64 0, .int .i64 0] 59)).cell? ⟨w1.heap.size, 0, none⟩ = some (.slice a1 ss.length c1) := by simp
  have hbA := (Below.refl w1.heap.size w1).alloc (Nat.le_refl _) (.cells #[.slice a1 ss.length c1, .slice none 0 0, .slice none 0 0, .slice none 0 0, .int .i64 0, .int .i64 0] 59)
  have szA : (w1.alloc (.cells #[.slice a1 ss.length c1, .slice none 0 0, .slice none 0 0, .slice none 0 0, .int .i64 0, .int .i64 0] 59)).heap.size = w1.heap.size + 1 := by simp
  have hit := items_any w1.heap.size a1 c1 ss (w1.alloc (.cells #[.slice a1 ss.length c1, .slice none 0 0, .slice none 0 0, .slice none 0 0, .int .i64 0, .int .i64 0] 59)) hL rc (hm.below hbA)
  rw [szA] at hit
  refine hit.mono ?_
  clear hit
  rintro e w2 ⟨rfl, hrow, hb2, hs2⟩
  have md : Mid w w2 w1.heap.size a a1 c1 ss := by
    refine ⟨hb.trans ((hbA.mono hb.size).trans (hb2.mono (by have := hb.size; omega))), hb.size, ?_, ?_, ?_, by omega⟩
    · exact (((hi.below hb).at (Nat.le_refl _)).below hbA).below (hb2.mono (by omega))
    · exact ((hm.at (Nat.le_refl _)).below hbA).below (hb2.mono (by omega))
    · rw [hb2.cell (p := ⟨w1.heap.size, 0, none⟩) (by simp)]; exact rc
  clear rc hbA szA hb2 hs2 hm hb hi
  generalize w1.heap.size = C at *
  go_wp2
  go_loopw [6] (fun cv wr => ∃ j : Nat, j ≤ ss.length ∧ cv = .int .i64 j ∧ Mid w wr C a a1 c1 ss ∧ StrRow wr (C + 1) ss) (fun cv _ => ss.length - (intOf cv).toNat)
  case atStart => exact ⟨0, Nat.zero_le _, rfl, md, hrow⟩
  case round =>
    clear md hrow
    obtain ⟨j, hj, rfl, md, hrow⟩ := hrel
    by_cases hlt : j < ss.length
    · obtain ⟨⟨b, o, ha, z1⟩, _⟩ := md.at j hlt
      subst ha
      have z2 := hrow.cell j hlt
      have hji : (j : Int) < (ss.length : Int) := by omega
      go_wp2
      go_quiet (fail)
      go_wp2
      go_roundw
      case rel => exact ⟨j + 1, by omega, by go_num, md.later (below_drewN (Below.refl _ _) _), hrow.below (below_drewN (Below.refl _ _) _) md.lt⟩
      case measure => simp [intOf]; omega
    · obtain rfl : j = ss.length := by omega
      have rc := md.recv
      by_cases hp : 0 < ss.length
      · have z2 := hrow.cell 0 hp
        have fr := hrow.free 0
        have hb0 := hsz 0 hp
        have md2 := md.later ((Below.refl (C + 1) wr).setCell (p := ⟨C + 1, 0, none⟩) (Nat.le_refl _) (.string (nthS ss 0 ++ { data := #[120] })))
        have rc2 := md2.recv
        clear hsz
        go_wp2
        go_loopw [7] (fun cv wr => ∃ j : Nat, j ≤ ss.length ∧ cv = .int .i64 j ∧ Mid w wr C a a1 c1 ss) (fun cv _ => ss.length - (intOf cv).toNat)
        case atStart => exact ⟨0, Nat.zero_le _, rfl, md2⟩
        case round =>
          obtain ⟨j, hj, rfl, md3⟩ := hrel
          have rc3 := md3.recv
          by_cases hlt : j < ss.length
          · obtain ⟨⟨b, o, ha, z1⟩, ⟨b1, o1, ha1, z2⟩⟩ := md3.at j hlt
            subst ha ha1
            have hji : (j : Int) < (ss.length : Int) := by omega
            go_wp2
            go_quiet (fail)
            go_wp2
            go_roundw
            case rel => exact ⟨j + 1, by omega, by go_num, md3.later (below_drewN (Below.refl _ _) _)⟩
            case measure => simp [intOf]; omega
          · go_wp2
            go_ret
            exact ⟨rfl, md3.below⟩
      · have h0 : ss.length = 0 := by omega
        clear hsz
        go_wp2
        go_loopw [7] (fun cv wr => ∃ j : Nat, j ≤ ss.length ∧ cv = .int .i64 j ∧ Mid w wr C a a1 c1 ss) (fun cv _ => ss.length - (intOf cv).toNat)
        case atStart => exact ⟨0, Nat.zero_le _, rfl, md⟩
        case round =>
          obtain ⟨j, hj, rfl, md3⟩ := hrel
          have rc3 := md3.recv
          by_cases hlt : j < ss.length
          · omega
          · go_wp2
            go_ret
            exact ⟨rfl, md3.below⟩
end Go.Proofs.Ybulkcagu
