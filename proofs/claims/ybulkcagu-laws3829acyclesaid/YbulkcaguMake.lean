import Derived.Test.YbulkcaguStale
import Derived.Test.YbulkcaguThrough
namespace Go.Proofs.Ybulkcagu
open Go.RowKit
set_option linter.unusedVariables false
set_option linter.unusedSimpArgs false

/-- The rest is shown once: what the first way asks, the others ask too. -/
theorem later {G P : Prop} (main : Hid G → P) (key : G) : P := main key

/-- The cells of a node as it is made. -/
def nodeCells (x : Int) : Array Value := #[.int .i64 x, .int .i64 0, .bool false, .bool false, .pointer none, .slice none 0 0]

/-- Nil pointers: what 'make' lays. -/
def nils (n : Nat) : Array Value := madeCells #[.pointer none] n

theorem mk26 (n : Nat) (hn : n ≤ 1024) (w : World) : (Instr.makeSlice 26 (.int .i64 n) (.int .i64 n)).run Yba.prog w = .ok (.slice (some ⟨w.heap.size, 0, none⟩) n n) (w.alloc (.cells (nils n) 28)) := by
  obtain ⟨i, hi, hz, hs, hb⟩ := info28
  have h := run_make (P := Yba.prog) w 26 28 i _ Yba.underlying26 hi hz .i64 .i64 (n : Int) (n : Int) (by omega) (Int.le_refl _) (by rw [hb]; omega) (by omega)
  rw [hs, Nat.mul_one] at h
  exact h

/-- The first i nodes are made. -/
structure Mk (w wr : World) (n i : Nat) (tx : Nat → Int) : Prop where
  below : Below w.heap.size w wr
  size : wr.heap.size = w.heap.size + 1 + i
  row : ∀ j, j < i → wr.cell? ⟨w.heap.size, j, none⟩ = some (.pointer (some ⟨nd w.heap.size j, 0, none⟩))
  there : ∀ j, j < n → ∃ u, wr.cell? ⟨w.heap.size, j, none⟩ = some u
  plain : Plain wr w.heap.size
  node : ∀ j, j < i → wr.heap[nd w.heap.size j]? = some (.cells (nodeCells (tx j)) 32 (0, 0))

theorem Mk.start (w : World) (n : Nat) (tx : Nat → Int) : Mk w (w.alloc (.cells (nils n) 28)) n 0 tx where
  below := (Below.refl _ _).alloc (Nat.le_refl _) _
  size := by simp
  row j hj := by omega
  there j hj := ⟨.pointer none, by rw [World.cell?_alloc_new]; simp [nils, madeCells, hj, Nat.mod_one]⟩
  plain := Plain.new w _ _
  node j hj := by omega

theorem Mk.step {w wr : World} {n i : Nat} {tx : Nat → Int} (h : Mk w wr n i tx) (hi : i < n) (x : Int) (hx : x = tx i) :
    Mk w ((wr.alloc (.cells #[.int .i64 x, .int .i64 0, .bool false, .bool false, .pointer none, .slice none 0 0] 32)).setCell ⟨w.heap.size, i, none⟩ (.pointer (some ⟨wr.heap.size, 0, none⟩))) n (i + 1) tx := by
  have hs := h.size
  have old : ∀ a : Addr, a.block < wr.heap.size → (wr.alloc (.cells #[.int .i64 x, .int .i64 0, .bool false, .bool false, .pointer none, .slice none 0 0] 32)).cell? a = wr.cell? a := fun a ha => ((Below.refl wr.heap.size wr).alloc (Nat.le_refl _) _).cell ha
  have e : wr.heap.size = nd w.heap.size i := by unfold nd; omega
  obtain ⟨u, hu⟩ := h.there i hi
  have hu' := (old ⟨w.heap.size, i, none⟩ (by show w.heap.size < _; omega)).trans hu
  refine ⟨(h.below.alloc h.below.size _).setCell (Nat.le_refl _) _, by simp [World.setCell]; omega, fun j hj => ?_, fun j hj => ?_, ?_, fun j hj => ?_⟩
  · by_cases ej : j = i
    · subst ej; rw [World.cell?_setCell_same _ _ _ hu', e]
    · rw [World.cell?_setCell_other _ _ _ _ (by simp [Ne.symm ej]), old _ (by show w.heap.size < _; omega)]; exact h.row j (by omega)
  · by_cases ej : j = i
    · subst ej; exact ⟨_, World.cell?_setCell_same _ _ _ hu'⟩
    · obtain ⟨u', hj'⟩ := h.there j hj
      exact ⟨u', by rw [World.cell?_setCell_other _ _ _ _ (by simp [Ne.symm ej]), old _ (by show w.heap.size < _; omega)]; exact hj'⟩
  · exact (h.plain.kept (Below.heap_alloc _ _ _ (by omega))).set _ _
  · rw [Below.heap_setCell _ _ _ _ (by show nd w.heap.size j ≠ w.heap.size; unfold nd; omega)]
    by_cases ej : j = i
    · subst ej; subst hx; rw [← e]; exact heap_alloc_new wr _
    · rw [Below.heap_alloc _ _ _ (by unfold nd; omega)]; exact h.node j (by omega)

/-- The row of the parents. -/
structure Par (w : World) (B n : Nat) (pv : Nat → Int) : Prop where
  cell : ∀ j, j < n → w.cell? ⟨nd B n, j, none⟩ = some (.int .i64 (pv j))
  plain : Plain w (nd B n)
  lt : nd B n < w.heap.size

theorem Par.kept {w w' : World} {B n : Nat} {pv : Nat → Int} (h : Par w B n pv) (hs : w.heap.size ≤ w'.heap.size) (e : w'.heap[nd B n]? = w.heap[nd B n]?) : Par w' B n pv :=
  ⟨fun j hj => (World.cell?_of_block (w := w) (a := ⟨nd B n, j, none⟩) e).trans (h.cell j hj), h.plain.kept e, Nat.lt_of_lt_of_le h.lt hs⟩
theorem Par.step {w w' : World} {B n : Nat} {pv : Nat → Int} (h : Par w B n pv) (s : Step B n w w') : Par w' B n pv := h.kept s.size (s.block _ (.inr rfl) h.lt)
theorem Par.below {w w' : World} {B n : Nat} {pv : Nat → Int} (h : Par w B n pv) (s : Below w.heap.size w w') : Par w' B n pv := h.kept s.size (s.block _ h.lt)
theorem Par.set {w : World} {B n : Nat} {pv : Nat → Int} (h : Par w B n pv) (i : Nat) (hi : i < n) (x : Int) : Par (w.setCell ⟨nd B n, i, none⟩ (.int .i64 x)) B n (fun j => if j = i then x else pv j) where
  cell j hj := by
    by_cases e : j = i
    · subst e; rw [World.cell?_setCell_same _ _ _ (h.cell j hj)]; simp
    · rw [World.cell?_setCell_other _ _ _ _ (by simp [Ne.symm e])]; simp [e, h.cell j hj]
  plain := h.plain.set _ _
  lt := by simpa [World.setCell] using h.lt

theorem Par.same {w : World} {B n : Nat} {pv pv' : Nat → Int} (h : Par w B n pv) (e : ∀ j, j < n → pv j = pv' j) : Par w B n pv' := ⟨fun j hj => by rw [← e j hj]; exact h.cell j hj, h.plain, h.lt⟩

theorem par_made {w wr : World} {n : Nat} {tx : Nat → Int} (h : Mk w wr n n tx) : Par (wr.alloc (.cells (zeros n) 3)) w.heap.size n (fun _ => 0) := by
  have e : wr.heap.size = nd w.heap.size n := by have := h.size; unfold nd; omega
  refine ⟨fun j hj => ?_, ?_, by rw [← e]; simp⟩
  · rw [← e, World.cell?_alloc_new]
    simp [zeros, madeCells, hj, Nat.mod_one]
  · rw [← e]; exact Plain.new wr _ _

/-- The net as it is made: no one waits. -/
theorem net_made {w wr : World} {n : Nat} {tx : Nat → Int} (h : Mk w wr n n tx) : Net (wr.alloc (.cells (zeros n) 3)) w.heap.size n tx (fun _ => none) (fun _ => []) (fun _ => .slice none 0 0) := by
  have hs := h.size
  have bl := (Below.refl wr.heap.size wr).alloc (Nat.le_refl _) (.cells (zeros n) 3)
  have ndl : ∀ i, i < n → nd w.heap.size i < wr.heap.size := fun i hi => by unfold nd; omega
  have cl : ∀ i j u, i < n → (nodeCells (tx i))[j]? = some u → (wr.alloc (.cells (zeros n) 3)).cell? ⟨nd w.heap.size i, j, none⟩ = some u := fun i j u hi hu => by
    rw [bl.cell (p := ⟨nd w.heap.size i, j, none⟩) (ndl i hi), cell_of_row wr _ j _ 32 (0, 0) (h.node i hi)]; exact hu
  refine ⟨by simp; omega, fun i hi => ?_, fun i hi => cl i 0 _ hi rfl, fun i hi => cl i 4 _ hi rfl, fun i hi => cl i 5 _ hi rfl, fun i hi => ?_, fun i hi => Own.nil _ _, fun i j _ _ _ g hg => by simp [Value.ownBlock] at hg, fun i p _ hp => by simp at hp⟩
  · rw [bl.cell (p := ⟨w.heap.size, i, none⟩) (by show w.heap.size < _; omega)]; exact h.row i hi
  · exact Plain.kept ⟨_, _, h.node i hi⟩ (bl.block _ (ndl i hi))

/-- A parent's number: -1 for none. -/
def pvo : Option Nat → Int
  | none => -1
  | some p => p

theorem Live.link {n i p q : Nat} {nx rq : Nat → Option Nat} {ws : Nat → List (Nat × Nat)} (h : Live n nx rq ws) (hp : p < n) :
    Live n (fun j => if j = i then some p else nx j) (fun j => if j = i then some q else rq j) (fun j => if j = p then ws p ++ [(q, i)] else ws j) := by
  intro j hj
  by_cases e : j = i
  · subst e
    exact .inr ⟨q, p, by simp, by simp, hp, by simp⟩
  · simp only [if_neg e]
    rcases h j hj with h1 | ⟨q', p', h1, h2, h3, h4⟩
    · exact .inl h1
    · refine .inr ⟨q', p', h1, h2, h3, ?_⟩
      by_cases e' : p' = p
      · subst e'; simp [h4]
      · simp [e', h4]

theorem Live.more {n : Nat} {nx rq : Nat → Option Nat} {ws ws' : Nat → List (Nat × Nat)} (h : Live n nx rq ws) (hs : ∀ i p, p ∈ ws i → p ∈ ws' i) : Live n nx rq ws' := by
  intro j hj
  rcases h j hj with h1 | ⟨q', p', h1, h2, h3, h4⟩
  · exact .inl h1
  · exact .inr ⟨q', p', h1, h2, h3, hs _ _ h4⟩

/-- The end of a push, behind the store of the request. -/
theorem push_end2 {B n q s d : Nat} {tx : Nat → Int} {rq : Nat → Option Nat} {ws : Nat → List (Nat × Nat)} {av : Nat → Value} {wr wA w3 : World} {v : Value} (hn : Net wr B n tx rq ws av) (hd : d < n) (hs : s < n) (hq : B + n + 2 ≤ q) (hne : ∀ j, j < n → (av j).ownBlock ≠ some q)
    (hb : Below wr.heap.size wr wA) (hr : ReqAt wA B q s d) (grow : wA.grownBy w3 (av d).ownBlock) (own : Own w3 (B + n + 2) v (rowOf (ws d) ++ [.pointer (some ⟨q, 0, none⟩)])) (row : ∀ k, v.ownBlock = some k → wA.heap.size ≤ k ∨ (av d).ownBlock = some k) :
    Net (w3.setCell ⟨nd B d, 5, none⟩ v) B n tx rq (fun i => if i = d then ws d ++ [(q, s)] else ws i) (fun i => if i = d then v else av i) ∧ Step B n wr (w3.setCell ⟨nd B d, 5, none⟩ v) := by
  have hnA := hn.below hb
  constructor
  · rw [rowOf_snoc] at own
    exact hnA.push hd hs hq hr.lt hne (hr.kept grow.size (grow.block q hr.lt (fun e => hne d hd e.symm))) grow.size grow.block own row
  · refine (Step.of hb).trans (Step.trans ?_ (Step.set hd))
    refine ⟨grow.os, grow.tape, grow.output, grow.size, fun k hk hlt => grow.block k hlt (fun e => ?_)⟩
    have := ((hn.rows d hd).lt e.symm).1
    rcases hk with h | h
    · omega
    · unfold nd at h; omega

/-- The state between the making of the parents and the last request. -/
structure Wire (W wr : World) (n t i L : Nat) (tx : Nat → Int) (nx rq : Nat → Option Nat) (ws : Nat → List (Nat × Nat)) (av : Nat → Value) : Prop where
  below : Below W.heap.size W wr
  net : Net wr W.heap.size n tx rq ws av
  par : Par wr W.heap.size n (fun j => pvo (nx j))
  live : Live n nx rq ws
  len : ∀ j, j < n → (ws j).length ≤ L
  down : ∀ j p, nx j = some p → p < j ∧ j ≠ t ∧ j < i

theorem Wire.next {W wr : World} {n t i L : Nat} {tx : Nat → Int} {nx rq : Nat → Option Nat} {ws : Nat → List (Nat × Nat)} {av : Nat → Value} (h : Wire W wr n t i L tx nx rq ws av) : Wire W wr n t (i + 1) (L + 1) tx nx rq ws av :=
  ⟨h.below, h.net, h.par, h.live, fun j hj => by have := h.len j hj; omega, fun j p hp => by have := h.down j p hp; omega⟩

theorem Wire.stale {W wr w1 : World} {n t i L k : Nat} {tx : Nat → Int} {nx rq : Nat → Option Nat} {ws ws1 : Nat → List (Nat × Nat)} {av av1 : Nat → Value} (h : Wire W wr n t i L tx nx rq ws av) (s : Step W.heap.size n wr w1) (hn : Net w1 W.heap.size n tx rq ws1 av1)
    (hl : ∀ j, j < n → (ws1 j).length ≤ L + k) (hs : ∀ j p, p ∈ ws j → p ∈ ws1 j) : Wire W w1 n t i (L + k) tx nx rq ws1 av1 :=
  ⟨h.below.trans (s.below h.below.size), hn, h.par.step s, h.live.more hs, hl, h.down⟩

theorem down_link {nx : Nat → Option Nat} {t i p0 : Nat} (h : ∀ j p, nx j = some p → p < j ∧ j ≠ t ∧ j < i) (hp : p0 < i) (ht : i ≠ t) : ∀ j p, (fun j => if j = i then some p0 else nx j) j = some p → p < j ∧ j ≠ t ∧ j < i + 1 := by
  intro j p hj
  by_cases e : j = i
  · subst e
    simp at hj
    subst hj
    exact ⟨hp, ht, by omega⟩
  · simp [e] at hj
    have := h j p hj
    omega

/-- A parent is laid, the net being in order. -/
theorem par_laid {W w4 : World} {n i p : Nat} {nx : Nat → Option Nat} (h : Par w4 W.heap.size n (fun j => pvo (nx j))) (hi : i < n) : Par (w4.setCell ⟨nd W.heap.size n, i, none⟩ (.int .i64 (p : Int))) W.heap.size n (fun j => pvo ((fun j => if j = i then some p else nx j) j)) :=
  (h.set i hi p).same (fun j _ => by by_cases e : j = i <;> simp [e, pvo])
end Go.Proofs.Ybulkcagu
