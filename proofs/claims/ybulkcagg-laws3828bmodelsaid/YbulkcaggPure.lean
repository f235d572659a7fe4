import Derived.WalkKit
import Derived.ProofKit
import Derived.Below
import Derived.WalkSmall
namespace Go.Proofs.Ybulkcagg
open Go.RowKit

/-- Bit q laid into a set of 64 bits. -/
def orB (a : Int) (q : Nat) : Int := bits .or .u64 a (IntKind.u64.wrap (2 ^ q))

/-- The picks of one process's messages, from process q on: what is left of the picks, the processes that are pinned, those of them that are reached. -/
def picks (p : Int) : Nat → Nat → List Int → Int → Int → List Int × Int × Int
  | 0, _, l, ov, tv => (l, ov, tv)
  | f + 1, q, l, ov, tv => match l with
    | [] => ([], ov, tv)
    | x :: t => if ((q : Int) == p) = true then picks p f (q + 1) (x :: t) ov tv else picks p f (q + 1) t (orB ov q) (if (x == 1) = true then orB tv q else tv)

theorem picks_nil (p : Int) (f q : Nat) (ov tv : Int) : picks p f q [] ov tv = ([], ov, tv) := by cases f <;> rfl
theorem picks_zero (p : Int) (q : Nat) (l : List Int) (ov tv : Int) : picks p 0 q l ov tv = (l, ov, tv) := rfl
theorem picks_self (p : Int) (f q : Nat) (x : Int) (t : List Int) (ov tv : Int) (h : ((q : Int) == p) = true) : picks p (f + 1) q (x :: t) ov tv = picks p f (q + 1) (x :: t) ov tv := by
  simp only [picks]; rw [if_pos h]
theorem picks_one (p : Int) (f q : Nat) (x : Int) (t : List Int) (ov tv : Int) (h : ((q : Int) == p) = false) (hx : (x == 1) = true) : picks p (f + 1) q (x :: t) ov tv = picks p f (q + 1) t (orB ov q) (orB tv q) := by
  simp only [picks]; rw [if_neg (by simp [h]), if_pos hx]
theorem picks_other (p : Int) (f q : Nat) (x : Int) (t : List Int) (ov tv : Int) (h : ((q : Int) == p) = false) (hx : (x == 1) = false) : picks p (f + 1) q (x :: t) ov tv = picks p f (q + 1) t (orB ov q) tv := by
  simp only [picks]; rw [if_neg (by simp [h]), if_neg (by simp [hx])]

/-- The i-th number of a list. -/
def nth (zs : List Int) (i : Nat) : Int := zs.getD i 0

theorem drop_at {zs : List Int} {i : Nat} (h : i < zs.length) : zs.drop i = nth zs i :: zs.drop (i + 1) := by
  rw [List.drop_eq_getElem_cons h]; simp [nth, h]

theorem nth_set (l : List Int) (p : Nat) (v : Int) (h : p < l.length) : nth (l.set p v) p = v := by simp [nth, h]

/-- l is what is left of zs behind its first i numbers. -/
def IsDrop (l zs : List Int) (i : Nat) : Prop := l = zs.drop i

theorem picks_le (p : Int) : ∀ (f q : Nat) (l : List Int) (ov tv : Int), (picks p f q l ov tv).1.length ≤ l.length
  | 0, _, _, _, _ => Nat.le_refl _
  | f + 1, q, [], ov, tv => by rw [picks_nil]; exact Nat.le_refl _
  | f + 1, q, x :: t, ov, tv => by
    simp only [picks]
    split
    · exact picks_le p f (q + 1) (x :: t) ov tv
    · have := picks_le p f (q + 1) t (orB ov q) (if (x == 1) = true then orB tv q else tv)
      simp only [List.length_cons]
      omega

/-- A pin: the process, the round, the processes that are pinned, those that are reached. -/
structure Pin where
  p : Int
  r : Int
  ov : Int
  tv : Int

def Pin.cells (x : Pin) : List Value := [.int .i64 x.p, .int .i64 x.r, .int .u64 x.ov, .int .u64 x.tv]

def pinsOf (l : List Pin) : List Value := l.flatMap Pin.cells

theorem pinsOf_length (l : List Pin) : (pinsOf l).length = l.length * 4 := by
  induction l with
  | nil => rfl
  | cons a t ih =>
    have : pinsOf (a :: t) = a.cells ++ pinsOf t := rfl
    rw [this, List.length_append, ih, List.length_cons]
    show 4 + _ = _
    omega

theorem pinsOf_snoc (l : List Pin) (x : Pin) : pinsOf (l ++ [x]) = pinsOf l ++ x.cells := by simp [pinsOf]

theorem pinsOf_at (l : List Pin) (j : Nat) (h : j < l.length) (c : Nat) (hc : c < 4) : (pinsOf l)[j * 4 + c]? = l[j].cells[c]? := by
  induction l generalizing j with
  | nil => simp at h
  | cons a t ih =>
    have e : pinsOf (a :: t) = a.cells ++ pinsOf t := rfl
    have hl : a.cells.length = 4 := rfl
    rw [e]
    cases j with
    | zero =>
      rw [List.getElem?_append_left (by omega)]
      simp
    | succ j =>
      rw [List.getElem?_append_right (by omega), hl]
      have := ih j (by simpa using h)
      rw [show (j + 1) * 4 + c - 4 = j * 4 + c from by omega, this]
      simp

/-- The rounds of one process with omission faults. -/
def inner (n p : Nat) : Nat → Nat → List Int → List Pin → Int → List Int × List Pin × Int
  | 0, _, l, ps, last => (l, ps, last)
  | f + 1, r, l, ps, last =>
    if l.length = 0 then (l, ps, last)
    else inner n p f (r + 1) (picks p n 0 l 0 0).1 (ps ++ [⟨p, r, (picks p n 0 l 0 0).2.1, (picks p n 0 l 0 0).2.2⟩]) r

/-- The greater of two. -/
def mx (a b : Int) : Int := if a < b then b else a

/-- Is bit p set? -/
def bitB (s : Int) (p : Nat) : Bool := bits .and .u64 (s / 2 ^ p) 1 == 1

/-- The processes from p on. -/
def outer (n : Nat) (fa : Int) (om : Bool) (rd : Nat) : Nat → Nat → List Int → List Int → List Pin → Int → List Int × List Pin × Int
  | 0, _, _, av, ps, last => (av, ps, last)
  | f + 1, p, l, av, ps, last =>
    if bitB fa p = true then
      if om = true then outer n fa om rd f (p + 1) (inner n p rd 1 l ps last).1 av (inner n p rd 1 l ps last).2.1 (inner n p rd 1 l ps last).2.2
      else match l with
        | [] => (av, ps, last)
        | x :: t => outer n fa om rd f (p + 1) (picks p n 0 t 0 0).1 (av.set p (wrap64 (x + 1))) (ps ++ [⟨p, wrap64 (x + 1), (picks p n 0 t 0 0).2.1, (picks p n 0 t 0 0).2.2⟩]) (mx last (wrap64 (x + 1)))
    else outer n fa om rd f (p + 1) l av ps last

theorem outer_zero (n : Nat) (fa : Int) (om : Bool) (rd p : Nat) (l av : List Int) (ps : List Pin) (last : Int) : outer n fa om rd 0 p l av ps last = (av, ps, last) := rfl
theorem outer_skip (n : Nat) (fa : Int) (om : Bool) (rd f p : Nat) (l av : List Int) (ps : List Pin) (last : Int) (hb : bitB fa p = false) : outer n fa om rd (f + 1) p l av ps last = outer n fa om rd f (p + 1) l av ps last := by
  simp only [outer]; rw [if_neg (by simp [hb])]
theorem outer_om (n : Nat) (fa : Int) (rd f p : Nat) (l av : List Int) (ps : List Pin) (last : Int) (hb : bitB fa p = true) (I : List Int × List Pin × Int) (hI : inner n p rd 1 l ps last = I) :
    outer n fa true rd (f + 1) p l av ps last = outer n fa true rd f (p + 1) I.1 av I.2.1 I.2.2 := by
  simp only [outer]; rw [if_pos hb, if_pos trivial, hI]
theorem outer_end (n : Nat) (fa : Int) (rd f p : Nat) (av : List Int) (ps : List Pin) (last : Int) (hb : bitB fa p = true) : outer n fa false rd (f + 1) p [] av ps last = (av, ps, last) := by
  simp only [outer]; rw [if_pos hb, if_neg (by simp)]
theorem outer_cr (n : Nat) (fa : Int) (rd f p : Nat) (x : Int) (t av : List Int) (ps : List Pin) (last : Int) (hb : bitB fa p = true) (I : List Int × Int × Int) (hI : picks p n 0 t 0 0 = I) :
    outer n fa false rd (f + 1) p (x :: t) av ps last = outer n fa false rd f (p + 1) I.1 (av.set p (wrap64 (x + 1))) (ps ++ [⟨p, wrap64 (x + 1), I.2.1, I.2.2⟩]) (mx last (wrap64 (x + 1))) := by
  simp only [outer]; rw [if_pos hb, if_neg (by simp), hI]
theorem inner_zero (n p r : Nat) (l : List Int) (ps : List Pin) (last : Int) : inner n p 0 r l ps last = (l, ps, last) := rfl
theorem inner_nil (n p f r : Nat) (ps : List Pin) (last : Int) : inner n p f r [] ps last = ([], ps, last) := by cases f <;> rfl
theorem inner_cons (n p f r : Nat) (x : Int) (t : List Int) (ps : List Pin) (last : Int) (I : List Int × Int × Int) (hI : picks p n 0 (x :: t) 0 0 = I) :
    inner n p (f + 1) r (x :: t) ps last = inner n p f (r + 1) I.1 (ps ++ [⟨p, r, I.2.1, I.2.2⟩]) r := by
  simp only [inner]; rw [if_neg (by simp), hI]

/-- What a step keeps: all blocks that were there, but for those of S. -/
structure Kept (S : Nat → Prop) (w w' : World) : Prop where
  os : w'.os = w.os
  tape : w'.tape = w.tape
  output : w'.output = w.output
  size : w.heap.size ≤ w'.heap.size
  block : ∀ k, k < w.heap.size → ¬ S k → w'.heap[k]? = w.heap[k]?

theorem Kept.refl (S : Nat → Prop) (w : World) : Kept S w w := ⟨rfl, rfl, rfl, Nat.le_refl _, fun _ _ _ => rfl⟩
theorem Kept.trans {S : Nat → Prop} {a b c : World} (h : Kept S a b) (k : Kept S b c) : Kept S a c :=
  ⟨k.os.trans h.os, k.tape.trans h.tape, k.output.trans h.output, Nat.le_trans h.size k.size, fun i hi hs => (k.block i (Nat.lt_of_lt_of_le hi h.size) hs).trans (h.block i hi hs)⟩
/-- Behind a first step the second may turn more: what is new. -/
theorem Kept.then {S T : Nat → Prop} {a b c : World} (h : Kept S a b) (k : Kept T b c) (hT : ∀ i, i < a.heap.size → T i → S i) : Kept S a c :=
  ⟨k.os.trans h.os, k.tape.trans h.tape, k.output.trans h.output, Nat.le_trans h.size k.size, fun i hi hs => (k.block i (Nat.lt_of_lt_of_le hi h.size) (fun ht => hs (hT i hi ht))).trans (h.block i hi hs)⟩
theorem Kept.drew {S : Nat → Prop} {a w : World} (h : Kept S a w) : Kept S a w.drew := ⟨h.os, h.tape, h.output, h.size, h.block⟩
theorem Kept.drewN {S : Nat → Prop} {a w : World} (h : Kept S a w) (n : Nat) : Kept S a (w.drewN n) := h.trans ⟨rfl, rfl, rfl, Nat.le_refl _, fun _ _ _ => rfl⟩
theorem Kept.alloc {S : Nat → Prop} {a w : World} (h : Kept S a w) (o : Obj) : Kept S a (w.alloc o) :=
  h.then (T := fun _ => False) ⟨rfl, rfl, rfl, by simp, fun k hk _ => Below.heap_alloc _ _ _ hk⟩ (fun _ _ h => h.elim)
theorem Kept.setCell {S : Nat → Prop} {a w : World} (h : Kept S a w) (p : Addr) (hp : p.block < a.heap.size → S p.block) (u : Value) : Kept S a (w.setCell p u) :=
  h.then (T := fun k => k = p.block) ⟨rfl, rfl, rfl, by simp [World.setCell], fun k _ hk => Below.heap_setCell _ _ _ _ hk⟩ (fun i hi e => by subst e; exact hp hi)
theorem Kept.grown {S : Nat → Prop} {a w w' : World} {row : Option Nat} (h : Kept S a w) (hg : w.grownBy w' row) (hr : ∀ k, row = some k → k < a.heap.size → S k) : Kept S a w' :=
  h.then (T := fun k => row = some k) ⟨hg.os, hg.tape, hg.output, hg.size, fun k hk e => hg.block k hk (fun e' => e e'.symm)⟩ (fun i hi e => hr i e hi)
theorem Kept.below {S : Nat → Prop} {a w : World} (h : Kept S a w) {B : Nat} (hB : B ≤ a.heap.size) (hS : ∀ k, k < B → ¬ S k) : Below B a w :=
  ⟨h.os, h.tape, h.output, h.size, fun k hk => h.block k (by omega) (hS k hk)⟩
theorem Kept.cell {S : Nat → Prop} {a w : World} (h : Kept S a w) {p : Addr} (hp : p.block < a.heap.size) (hs : ¬ S p.block) : w.cell? p = a.cell? p := World.cell?_of_block (h.block p.block hp hs)
theorem Kept.mono {S T : Nat → Prop} {a w : World} (h : Kept S a w) (hST : ∀ k, k < a.heap.size → S k → T k) : Kept T a w := ⟨h.os, h.tape, h.output, h.size, fun k hk hs => h.block k hk (fun e => hs (hST k hk e))⟩

end Go.Proofs.Ybulkcagg
