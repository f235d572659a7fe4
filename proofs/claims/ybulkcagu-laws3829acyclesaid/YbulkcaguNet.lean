import Derived.Test.YbulkcaguMem
import Derived.LaidEqlPtr
namespace Go.Proofs.Ybulkcagu
open Go.RowKit
set_option linter.unusedVariables false
set_option linter.unusedSimpArgs false

/-! ### The plain law: whom each waits for -/

/-- The chain from t: t, whom t waits for, whom that one waits for, .. -/
def it (nx : Nat → Option Nat) (t : Nat) : Nat → Nat
  | 0 => t
  | k + 1 => (nx (it nx t k)).getD 0

/-- The chain runs through k links and has not come back to t ahead of the k-th. -/
structure Run (nx : Nat → Option Nat) (t k : Nat) : Prop where
  link : ∀ j, j < k → nx (it nx t j) = some (it nx t (j + 1))
  away : ∀ j, 0 < j → j < k → it nx t j ≠ t

/-- The chain comes back to t at its m-th link, and not before. -/
structure Cyc (nx : Nat → Option Nat) (t m : Nat) : Prop where
  pos : 0 < m
  run : Run nx t m
  back : it nx t m = t

theorem it_succ {nx : Nat → Option Nat} {t k p : Nat} (h : nx (it nx t k) = some p) : it nx t (k + 1) = p := by simp [it, h]

theorem Run.more {nx : Nat → Option Nat} {t k p : Nat} (h : Run nx t k) (ha : 0 < k → it nx t k ≠ t) (hp : nx (it nx t k) = some p) : Run nx t (k + 1) where
  link j hj := by
    rcases Nat.lt_or_ge j k with h1 | h1
    · exact h.link j h1
    · obtain rfl : j = k := by omega
      rw [it_succ hp]; exact hp
  away j h0 hj := by
    rcases Nat.lt_or_ge j k with h1 | h1
    · exact h.away j h0 h1
    · obtain rfl : j = k := by omega
      exact ha h0

/-- Where the chain has run k links, has not come back yet and ends, there is no cycle. -/
theorem Run.ends {nx : Nat → Option Nat} {t k : Nat} (h : Run nx t k) (ha : 0 < k → it nx t k ≠ t) (hn : nx (it nx t k) = none) (m : Nat) : ¬ Cyc nx t m := by
  intro c
  rcases Nat.lt_trichotomy m k with h1 | h1 | h1
  · exact h.away m c.pos h1 c.back
  · subst h1; exact ha c.pos c.back
  · have := c.run.link k h1
    rw [hn] at this; simp at this

theorem Run.cyc_gt {nx : Nat → Option Nat} {t k m : Nat} (h : Run nx t k) (ha : it nx t k ≠ t) (c : Cyc nx t m) : k < m := by
  rcases Nat.lt_trichotomy m k with h1 | h1 | h1
  · exact absurd c.back (h.away m c.pos h1)
  · subst h1; exact absurd c.back ha
  · exact h1

theorem Cyc.same {nx : Nat → Option Nat} {t k m : Nat} (c : Cyc nx t m) (d : Cyc nx t k) : m = k := by
  rcases Nat.lt_trichotomy m k with h1 | h1 | h1
  · exact absurd c.back (d.run.away m c.pos h1)
  · exact h1
  · exact absurd d.back (c.run.away k d.pos h1)

/-- u comes to t. -/
inductive Reach (nx : Nat → Option Nat) (t : Nat) : Nat → Prop
  | here : Reach nx t t
  | step {u p : Nat} : u ≠ t → nx u = some p → Reach nx t p → Reach nx t u

theorem reach_cyc {nx : Nat → Option Nat} {t u : Nat} (h : Reach nx t u) : ∀ k, 0 < k → Run nx t k → it nx t k = u → ∃ m, Cyc nx t m := by
  induction h with
  | here => exact fun k h0 hr e => ⟨k, h0, hr, e⟩
  | step hne hp _ ih =>
    intro k h0 hr e
    subst e
    exact ih (k + 1) (by omega) (hr.more (fun _ => hne) hp) (it_succ hp)

/-- Below t's own link every link goes down. -/
structure Forest (nx : Nat → Option Nat) (n t : Nat) : Prop where
  lt : t < n
  first : ∃ p, p < n ∧ nx t = some p
  down : ∀ i p, i < n → i ≠ t → nx i = some p → p < i

theorem Forest.bound {nx : Nat → Option Nat} {n t : Nat} (f : Forest nx n t) : ∀ k, Run nx t (k + 1) → it nx t (k + 1) + k < n
  | 0, h => by
    obtain ⟨p, hp, e⟩ := f.first
    have : it nx t (0 + 1) = p := it_succ (k := 0) e
    omega
  | k + 1, h => by
    have h' : Run nx t (k + 1) := ⟨fun j hj => h.link j (by omega), fun j h0 hj => h.away j h0 (by omega)⟩
    have b := Forest.bound f k h'
    have := f.down _ _ (by omega : it nx t (k + 1) < n) (h.away (k + 1) (by omega) (by omega)) (h.link (k + 1) (by omega))
    omega

theorem Forest.lt_n {nx : Nat → Option Nat} {n t k : Nat} (f : Forest nx n t) (h : Run nx t k) : it nx t k < n := by
  cases k with
  | zero => exact f.lt
  | succ k => have := f.bound k h; omega

theorem Run.less {nx : Nat → Option Nat} {t k j : Nat} (h : Run nx t k) (hj : j ≤ k) : Run nx t j := ⟨fun i hi => h.link i (by omega), fun i h0 hi => h.away i h0 (by omega)⟩

/-- The place of the first lowest of f 0 .. f k. -/
def lowTo (f : Nat → Int) : Nat → Nat
  | 0 => 0
  | k + 1 => if f (k + 1) < f (lowTo f k) then k + 1 else lowTo f k

theorem lowTo_le (f : Nat → Int) : ∀ k, lowTo f k ≤ k
  | 0 => Nat.le_refl _
  | k + 1 => by unfold lowTo; have := lowTo_le f k; split <;> omega

/-! ### The net in memory -/

/-- The block of the i-th node. -/
def nd (B i : Nat) : Nat := B + 1 + i

theorem nd_inj {B i j : Nat} (h : nd B i = nd B j) : i = j := by unfold nd at h; omega
theorem nd_ne {B i j : Nat} (h : i ≠ j) : nd B i ≠ nd B j := fun e => h (nd_inj e)

/-- A block of cells, none of them frozen. -/
def Plain (w : World) (b : Nat) : Prop := ∃ c t, w.heap[b]? = some (.cells c t (0, 0))

theorem Plain.kept {w w' : World} {b : Nat} (h : Plain w b) (e : w'.heap[b]? = w.heap[b]?) : Plain w' b := by
  obtain ⟨c, t, h⟩ := h
  exact ⟨c, t, e.trans h⟩
theorem Plain.set {w : World} {b : Nat} (h : Plain w b) (a : Addr) (u : Value) : Plain (w.setCell a u) b := by
  by_cases e : b = a.block
  · subst e
    obtain ⟨c, t, h⟩ := h
    exact ⟨_, t, by simp [World.setCell, Array.getElem?_modify, h]; rfl⟩
  · exact h.kept (Below.heap_setCell _ _ _ _ e)
theorem Plain.new (w : World) (c : Array Value) (t : TypeId) : Plain (w.alloc (.cells c t)) w.heap.size := ⟨c, t, heap_alloc_new w _⟩
theorem Plain.free {w : World} {b : Nat} (h : Plain w b) (j : Nat) : w.frozen? ⟨b, j, none⟩ = false := by
  obtain ⟨c, t, h⟩ := h
  simp [World.frozen?, h]

theorem info32 : ∃ i, Yba.prog.info? 32 = some i ∧ i.size ≠ 0 := by
  have h : (Yba.prog.info? 32).map (fun i => i.size) = some 6 := by kernel_rfl
  cases hi : Yba.prog.info? 32 with
  | none => rw [hi] at h; simp at h
  | some i => rw [hi] at h; simp at h; exact ⟨i, rfl, by rw [h]; decide⟩
theorem info41 : ∃ i, Yba.prog.info? 41 = some i ∧ i.size ≠ 0 := by
  have h : (Yba.prog.info? 41).map (fun i => i.size) = some 9 := by kernel_rfl
  cases hi : Yba.prog.info? 41 with
  | none => rw [hi] at h; simp at h
  | some i => rw [hi] at h; simp at h; exact ⟨i, rfl, by rw [h]; decide⟩

theorem run_neq_ptr {P : Program} (w : World) {tp te : TypeId} {r : Bool} (a b : Addr) (hp : P.underlying tp = some (.pointer te)) (h : (binOp .eql tp (.pointer (some a)) (.pointer (some b))).run P w = .ok (.bool r) w) :
    (binOp .neq tp (.pointer (some a)) (.pointer (some b))).run P w = .ok (.bool (!r)) w := by
  simp only [binOp] at h ⊢
  cases he : (Op.equal tp (.pointer (some a)) (.pointer (some b))).run P w with
  | ok x w' => simp [he] at h ⊢; exact h
  | _ => simp [he] at h

theorem eql28_same (w : World) (a : Addr) : (binOp .eql 28 (.pointer (some a)) (.pointer (some a))).run Yba.prog w = .ok (.bool true) w := by
  obtain ⟨i, hi, _⟩ := info32
  exact run_eql_ptr_same w a Yba.underlying28 hi
theorem eql29_same (w : World) (a : Addr) : (binOp .eql 29 (.pointer (some a)) (.pointer (some a))).run Yba.prog w = .ok (.bool true) w := by
  obtain ⟨i, hi, _⟩ := info41
  exact run_eql_ptr_same w a Yba.underlying29 hi
theorem neq28_same (w : World) (a : Addr) : (binOp .neq 28 (.pointer (some a)) (.pointer (some a))).run Yba.prog w = .ok (.bool false) w := run_neq_ptr w a a Yba.underlying28 (eql28_same w a)
theorem neq29_same (w : World) (a : Addr) : (binOp .neq 29 (.pointer (some a)) (.pointer (some a))).run Yba.prog w = .ok (.bool false) w := run_neq_ptr w a a Yba.underlying29 (eql29_same w a)
theorem eql28_other {w : World} {a b : Nat} (ha : Plain w a) (hb : Plain w b) (h : a ≠ b) : (binOp .eql 28 (.pointer (some ⟨a, 0, none⟩)) (.pointer (some ⟨b, 0, none⟩))).run Yba.prog w = .ok (.bool false) w := by
  obtain ⟨i, hi, hz⟩ := info32
  obtain ⟨_, _, ha⟩ := ha
  obtain ⟨_, _, hb⟩ := hb
  exact run_eql_ptr_other w Yba.underlying28 hi hz (fun e => h (congrArg Addr.block e)) ha hb
theorem eql29_other {w : World} {a b : Nat} (ha : Plain w a) (hb : Plain w b) (h : a ≠ b) : (binOp .eql 29 (.pointer (some ⟨a, 0, none⟩)) (.pointer (some ⟨b, 0, none⟩))).run Yba.prog w = .ok (.bool false) w := by
  obtain ⟨i, hi, hz⟩ := info41
  obtain ⟨_, _, ha⟩ := ha
  obtain ⟨_, _, hb⟩ := hb
  exact run_eql_ptr_other w Yba.underlying29 hi hz (fun e => h (congrArg Addr.block e)) ha hb
theorem neq28_other {w : World} {a b : Nat} (ha : Plain w a) (hb : Plain w b) (h : a ≠ b) : (binOp .neq 28 (.pointer (some ⟨a, 0, none⟩)) (.pointer (some ⟨b, 0, none⟩))).run Yba.prog w = .ok (.bool true) w := run_neq_ptr w _ _ Yba.underlying28 (eql28_other ha hb h)
theorem neq29_other {w : World} {a b : Nat} (ha : Plain w a) (hb : Plain w b) (h : a ≠ b) : (binOp .neq 29 (.pointer (some ⟨a, 0, none⟩)) (.pointer (some ⟨b, 0, none⟩))).run Yba.prog w = .ok (.bool true) w := run_neq_ptr w _ _ Yba.underlying29 (eql29_other ha hb h)

/-- A request's pointer. -/
def rqv : Option Nat → Value
  | none => .pointer none
  | some q => .pointer (some ⟨q, 0, none⟩)

/-- The cells of a row of requests. -/
def rowOf (ps : List (Nat × Nat)) : List Value := ps.map fun p => .pointer (some ⟨p.1, 0, none⟩)

theorem rowOf_length (ps : List (Nat × Nat)) : (rowOf ps).length = ps.length := by simp [rowOf]
theorem rowOf_snoc (ps : List (Nat × Nat)) (q s : Nat) : rowOf ps ++ [.pointer (some ⟨q, 0, none⟩)] = rowOf (ps ++ [(q, s)]) := by simp [rowOf]

/-- A request of node s that waits for node d lies in block q. -/
structure ReqAt (w : World) (B q s d : Nat) : Prop where
  lt : q < w.heap.size
  who : w.cell? ⟨q, 0, none⟩ = some (.pointer (some ⟨nd B s, 0, none⟩))
  whom : w.cell? ⟨q, 8, none⟩ = some (.pointer (some ⟨nd B d, 0, none⟩))
  plain : Plain w q

theorem ReqAt.kept {w w' : World} {B q s d : Nat} (h : ReqAt w B q s d) (hs : w.heap.size ≤ w'.heap.size) (hk : w'.heap[q]? = w.heap[q]?) : ReqAt w' B q s d :=
  ⟨Nat.lt_of_lt_of_le h.lt hs, (World.cell?_of_block (w := w) (a := ⟨q, 0, none⟩) hk).trans h.who, (World.cell?_of_block (w := w) (a := ⟨q, 8, none⟩) hk).trans h.whom, h.plain.kept hk⟩

/-- The n nodes, their numbers, their requests and their rows of waiters. -/
structure Net (w : World) (B n : Nat) (tx : Nat → Int) (rq : Nat → Option Nat) (ws : Nat → List (Nat × Nat)) (av : Nat → Value) : Prop where
  size : B + n + 2 ≤ w.heap.size
  nodes : ∀ i, i < n → w.cell? ⟨B, i, none⟩ = some (.pointer (some ⟨nd B i, 0, none⟩))
  txn : ∀ i, i < n → w.cell? ⟨nd B i, 0, none⟩ = some (.int .i64 (tx i))
  req : ∀ i, i < n → w.cell? ⟨nd B i, 4, none⟩ = some (rqv (rq i))
  wait : ∀ i, i < n → w.cell? ⟨nd B i, 5, none⟩ = some (av i)
  plain : ∀ i, i < n → Plain w (nd B i)
  rows : ∀ i, i < n → Own w (B + n + 2) (av i) (rowOf (ws i))
  sep : ∀ i j, i < n → j < n → i ≠ j → ∀ g, (av i).ownBlock = some g → (av j).ownBlock ≠ some g
  reqs : ∀ i p, i < n → p ∈ ws i → B + n + 2 ≤ p.1 ∧ p.2 < n ∧ ReqAt w B p.1 p.2 i ∧ ∀ j, j < n → (av j).ownBlock ≠ some p.1

section
variable {w w' : World} {B n : Nat} {tx : Nat → Int} {rq : Nat → Option Nat} {ws : Nat → List (Nat × Nat)} {av : Nat → Value}

theorem Net.free (h : Net w B n tx rq ws av) {i : Nat} (hi : i < n) (j : Nat) : w.frozen? ⟨nd B i, j, none⟩ = false := (h.plain i hi).free j

theorem Net.lt (h : Net w B n tx rq ws av) {i : Nat} (hi : i < n) : nd B i < w.heap.size := by have := h.size; unfold nd; omega

/-- All that was there is as it was. -/
theorem Net.below (h : Net w B n tx rq ws av) (hb : Below w.heap.size w w') : Net w' B n tx rq ws av where
  size := Nat.le_trans h.size hb.size
  nodes i hi := by rw [hb.cell (p := ⟨B, i, none⟩) (by have := h.size; show B < _; omega)]; exact h.nodes i hi
  txn i hi := by rw [hb.cell (p := ⟨nd B i, 0, none⟩) (h.lt hi)]; exact h.txn i hi
  req i hi := by rw [hb.cell (p := ⟨nd B i, 4, none⟩) (h.lt hi)]; exact h.req i hi
  wait i hi := by rw [hb.cell (p := ⟨nd B i, 5, none⟩) (h.lt hi)]; exact h.wait i hi
  plain i hi := (h.plain i hi).kept (hb.block _ (h.lt hi))
  rows i hi := (h.rows i hi).below hb
  sep := h.sep
  reqs i p hi hp := by
    obtain ⟨h1, h2, h3, h4⟩ := h.reqs i p hi hp
    exact ⟨h1, h2, h3.kept hb.size (hb.block _ h3.lt), h4⟩

/-- A write into the block of the parents, or of the nodes' row's own kind that is no part of the net. -/
theorem Net.aside (h : Net w B n tx rq ws av) (j : Nat) (u : Value) : Net (w.setCell ⟨nd B n, j, none⟩ u) B n tx rq ws av where
  size := by simpa [World.setCell] using h.size
  nodes i hi := by rw [World.cell?_setCell_other _ _ _ _ (by simp; intro e; exfalso; unfold nd at e; omega)]; exact h.nodes i hi
  txn i hi := by rw [World.cell?_setCell_other _ _ _ _ (by simp; intro e; exfalso; have := nd_inj e; omega)]; exact h.txn i hi
  req i hi := by rw [World.cell?_setCell_other _ _ _ _ (by simp; intro e; exfalso; have := nd_inj e; omega)]; exact h.req i hi
  wait i hi := by rw [World.cell?_setCell_other _ _ _ _ (by simp; intro e; exfalso; have := nd_inj e; omega)]; exact h.wait i hi
  plain i hi := (h.plain i hi).set _ _
  rows i hi := (h.rows i hi).kept (by simp [World.setCell]) (fun k hk => Below.heap_setCell _ _ _ _ (by have := ((h.rows i hi).lt hk).1; show k ≠ nd B n; unfold nd; omega))
  sep := h.sep
  reqs i p hi hp := by
    obtain ⟨h1, h2, h3, h4⟩ := h.reqs i p hi hp
    exact ⟨h1, h2, h3.kept (by simp [World.setCell]) (Below.heap_setCell _ _ _ _ (by show p.1 ≠ nd B n; unfold nd; omega)), h4⟩

/-- A node's request is laid. -/
theorem Net.setReq (h : Net w B n tx rq ws av) (d q : Nat) (hd : d < n) : Net (w.setCell ⟨nd B d, 4, none⟩ (.pointer (some ⟨q, 0, none⟩))) B n tx (fun i => if i = d then some q else rq i) ws av where
  size := by simpa [World.setCell] using h.size
  nodes i hi := by rw [World.cell?_setCell_other _ _ _ _ (by simp; intro e; exfalso; unfold nd at e; omega)]; exact h.nodes i hi
  txn i hi := by rw [World.cell?_setCell_other _ _ _ _ (by simp)]; exact h.txn i hi
  req i hi := by
    by_cases e : i = d
    · subst e
      rw [World.cell?_setCell_same _ _ _ (h.req i hi)]; simp [rqv]
    · rw [World.cell?_setCell_other _ _ _ _ (by simp; intro e'; exact absurd (nd_inj e') (Ne.symm e))]; simp [e, h.req i hi]
  wait i hi := by rw [World.cell?_setCell_other _ _ _ _ (by simp)]; exact h.wait i hi
  plain i hi := (h.plain i hi).set _ _
  rows i hi := (h.rows i hi).kept (by simp [World.setCell]) (fun k hk => Below.heap_setCell _ _ _ _ (by have := ((h.rows i hi).lt hk).1; show k ≠ nd B d; unfold nd; omega))
  sep := h.sep
  reqs i p hi hp := by
    obtain ⟨h1, h2, h3, h4⟩ := h.reqs i p hi hp
    exact ⟨h1, h2, h3.kept (by simp [World.setCell]) (Below.heap_setCell _ _ _ _ (by show p.1 ≠ nd B d; unfold nd; omega)), h4⟩

/-- A request goes into its node's row of waiters. -/
theorem Net.push (h : Net w B n tx rq ws av) {q s d : Nat} {v : Value} (hd : d < n) (hs : s < n) (hq0 : B + n + 2 ≤ q) (hq1 : q < w.heap.size) (hq2 : ∀ j, j < n → (av j).ownBlock ≠ some q) (hq : ReqAt w' B q s d)
    (hz : w.heap.size ≤ w'.heap.size) (hk : ∀ k, k < w.heap.size → some k ≠ (av d).ownBlock → w'.heap[k]? = w.heap[k]?) (ho : Own w' (B + n + 2) v (rowOf (ws d ++ [(q, s)]))) (hv : ∀ k, v.ownBlock = some k → w.heap.size ≤ k ∨ (av d).ownBlock = some k) :
    Net (w'.setCell ⟨nd B d, 5, none⟩ v) B n tx rq (fun i => if i = d then ws d ++ [(q, s)] else ws i) (fun i => if i = d then v else av i) := by
  have low : ∀ k, k < B + n + 2 → w'.heap[k]? = w.heap[k]? := fun k hk' => hk k (by have := h.size; omega) (fun e => by have := ((h.rows d hd).lt e.symm).1; omega)
  have cl : ∀ a : Addr, a.block < B + n + 2 → w'.cell? a = w.cell? a := fun a ha => World.cell?_of_block (low _ ha)
  have ndl : ∀ i, i < n → nd B i < B + n + 2 := fun i hi => by unfold nd; omega
  have rk : ∀ i p, i < n → p ∈ ws i → ReqAt (w'.setCell ⟨nd B d, 5, none⟩ v) B p.1 p.2 i := fun i p hi hp => by
    obtain ⟨h1, h2, h3, h4⟩ := h.reqs i p hi hp
    refine (h3.kept hz (hk _ h3.lt (fun e => h4 d hd e.symm))).kept (by simp [World.setCell]) (Below.heap_setCell _ _ _ _ ?_)
    show p.1 ≠ nd B d
    have := ndl d hd
    omega
  refine ⟨by have := h.size; simp [World.setCell]; omega, fun i hi => ?_, fun i hi => ?_, fun i hi => ?_, fun i hi => ?_, fun i hi => ?_, fun i hi => ?_, fun i j hi hj hij g hg => ?_, fun i p hi hp => ?_⟩
  · rw [World.cell?_setCell_other _ _ _ _ (by simp; intro e; exfalso; unfold nd at e; omega), cl _ (by show B < _; omega)]; exact h.nodes i hi
  · rw [World.cell?_setCell_other _ _ _ _ (by simp), cl _ (ndl i hi)]; exact h.txn i hi
  · rw [World.cell?_setCell_other _ _ _ _ (by simp), cl _ (ndl i hi)]; exact h.req i hi
  · by_cases e : i = d
    · subst e
      rw [World.cell?_setCell_same _ _ _ ((cl ⟨nd B i, 5, none⟩ (ndl i hi)).trans (h.wait i hi))]; simp
    · rw [World.cell?_setCell_other _ _ _ _ (by simp; intro e'; exact absurd (nd_inj e') (Ne.symm e)), cl _ (ndl i hi)]; simp [e, h.wait i hi]
  · exact ((h.plain i hi).kept (low _ (ndl i hi))).set _ _
  · by_cases e : i = d
    · subst e
      simp only [if_pos]
      exact ho.kept (by simp [World.setCell]) (fun k hk' => Below.heap_setCell _ _ _ _ (by have := (ho.lt hk').1; have := ndl i hi; show k ≠ nd B i; omega))
    · simp only [if_neg e]
      have hr := h.rows i hi
      refine hr.kept (Nat.le_trans hz (by simp [World.setCell])) (fun k hk' => (Below.heap_setCell _ _ _ _ (by have := (hr.lt hk').1; have := ndl d hd; show k ≠ nd B d; omega)).trans (hk k (hr.lt hk').2 (fun e' => h.sep i d hi hd e k hk' e'.symm)))
  · by_cases e : i = d
    · subst e
      have ej : ¬ j = i := fun e => hij e.symm
      simp only [if_pos, if_neg ej] at hg ⊢
      intro hg'
      rcases hv g hg with h1 | h1
      · have := ((h.rows j hj).lt hg').2; omega
      · exact h.sep i j hi hj hij g h1 hg'
    · simp only [if_neg e] at hg
      by_cases ej : j = d
      · subst ej
        simp only [if_pos]
        intro hg'
        rcases hv g hg' with h1 | h1
        · have := ((h.rows i hi).lt hg).2; omega
        · exact h.sep i j hi hj hij g hg h1
      · simp only [if_neg ej]
        exact h.sep i j hi hj hij g hg
  · have own' : ∀ b, b < w.heap.size → (∀ j, j < n → (av j).ownBlock ≠ some b) → ∀ j, j < n → (if j = d then v else av j).ownBlock ≠ some b := by
      intro b hb hne j hj
      by_cases e : j = d
      · simp only [if_pos e]
        intro hg
        rcases hv b hg with h1 | h1
        · omega
        · exact hne d hd h1
      · simp only [if_neg e]; exact hne j hj
    have old : ∀ i p, i < n → p ∈ ws i → B + n + 2 ≤ p.1 ∧ p.2 < n ∧ ReqAt (w'.setCell ⟨nd B d, 5, none⟩ v) B p.1 p.2 i ∧ ∀ j, j < n → (if j = d then v else av j).ownBlock ≠ some p.1 := fun i p hi hp => by
      obtain ⟨h1, h2, h3, h4⟩ := h.reqs i p hi hp
      exact ⟨h1, h2, rk i p hi hp, own' _ h3.lt h4⟩
    by_cases e : i = d
    · subst e
      simp only [if_pos, List.mem_append, List.mem_singleton] at hp
      rcases hp with hp | rfl
      · exact old i p hi hp
      · refine ⟨hq0, hs, hq.kept (by simp [World.setCell]) (Below.heap_setCell _ _ _ _ ?_), own' q hq1 hq2⟩
        show q ≠ nd B i
        have := ndl i hi
        omega
    · simp only [if_neg e] at hp
      exact old i p hi hp
end
end Go.Proofs.Ybulkcagu
