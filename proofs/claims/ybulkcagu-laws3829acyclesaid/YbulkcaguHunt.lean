import Derived.Test.YbulkcaguFrom
namespace Go.Proofs.Ybulkcagu
open Go.RowKit
set_option linter.unusedVariables false
set_option linter.unusedSimpArgs false

/-- A request lies in one node's row only. -/
theorem Net.one {w : World} {B n : Nat} {tx : Nat → Int} {rq : Nat → Option Nat} {ws : Nat → List (Nat × Nat)} {av : Nat → Value} (h : Net w B n tx rq ws av) {X Y : Nat} {p : Nat × Nat} (hX : X < n) (hY : Y < n) (h1 : p ∈ ws X) (h2 : p ∈ ws Y) : X = Y := by
  obtain ⟨_, _, r1, _⟩ := h.reqs X p hX h1
  obtain ⟨_, _, r2, _⟩ := h.reqs Y p hY h2
  have := r1.whom.symm.trans r2.whom
  simp at this
  exact nd_inj this

/-- The walk backwards: 'us' are still to be looked at, 'ps' are the requests of the node in hand. -/
structure Hunt (n t : Nat) (nx rq : Nat → Option Nat) (ws : Nat → List (Nat × Nat)) (us : List Nat) (ps : List (Nat × Nat)) : Prop where
  uok : ∀ u ∈ us, u < n ∧ Reach nx t u
  pok : ∀ p ∈ ps, ∃ X, X < n ∧ Reach nx t X ∧ p ∈ ws X
  find : ∀ m, 2 ≤ m → Cyc nx t m → (∃ j, 2 ≤ j ∧ j ≤ m ∧ it nx t j ∈ us) ∨ (∃ j q, 1 ≤ j ∧ j < m ∧ rq (it nx t j) = some q ∧ (q, it nx t j) ∈ ps)

section
variable {n t : Nat} {nx rq : Nat → Option Nat} {ws : Nat → List (Nat × Nat)} {us : List Nat} {ps : List (Nat × Nat)}

theorem Hunt.init (hf : Forest nx n t) : Hunt n t nx rq ws [t] [] where
  uok u hu := by simp at hu; subst hu; exact ⟨hf.lt, .here⟩
  pok p hp := by simp at hp
  find m h2 c := .inl ⟨m, h2, Nat.le_refl _, by rw [c.back]; simp⟩

theorem Hunt.pop {x : Nat} (hl : Live n nx rq ws) (hf : Forest nx n t) (h : Hunt n t nx rq ws (x :: us) []) : Hunt n t nx rq ws us (ws x) where
  uok u hu := h.uok u (by simp [hu])
  pok p hp := ⟨x, (h.uok x (by simp)).1, (h.uok x (by simp)).2, hp⟩
  find m h2 c := by
    rcases h.find m h2 c with ⟨j, h3, h4, h5⟩ | ⟨j, q, _, _, _, h5⟩
    · simp at h5
      rcases h5 with h5 | h5
      · right
        have hlt := hf.lt_n (c.run.less (show j - 1 ≤ m by omega))
        have hk := c.run.link (j - 1) (by omega)
        rw [show j - 1 + 1 = j by omega] at hk
        rcases hl _ hlt with ⟨_, h7⟩ | ⟨q, p, h6, h7, _, h9⟩
        · rw [hk] at h7; simp at h7
        · rw [hk] at h7
          simp at h7
          exact ⟨j - 1, q, by omega, by omega, h6, by rw [← h5, h7]; exact h9⟩
      · exact .inl ⟨j, h3, h4, h5⟩
    · simp at h5

theorem Hunt.none {m : Nat} (h : Hunt n t nx rq ws [] []) (h2 : 2 ≤ m) : ¬ Cyc nx t m := by
  intro c
  rcases h.find m h2 c with ⟨j, _, _, h5⟩ | ⟨j, q, _, _, _, h5⟩ <;> simp at h5

theorem Hunt.skip {p : Nat × Nat} (h : Hunt n t nx rq ws us (p :: ps)) (hp : rq p.2 ≠ some p.1) : Hunt n t nx rq ws us ps where
  uok := h.uok
  pok q hq := h.pok q (by simp [hq])
  find m h2 c := by
    rcases h.find m h2 c with h3 | ⟨j, q, h3, h4, h5, h6⟩
    · exact .inl h3
    · simp at h6
      rcases h6 with h6 | h6
      · subst h6; exact absurd h5 hp
      · exact .inr ⟨j, q, h3, h4, h5, h6⟩

theorem Hunt.reach {p : Nat × Nat} (h : Hunt n t nx rq ws us (p :: ps)) (hl : Live n nx rq ws) (hp : rq p.2 = some p.1) (hp2 : p.2 < n) (one : ∀ X Y, X < n → Y < n → p ∈ ws X → p ∈ ws Y → X = Y) : Reach nx t p.2 := by
  obtain ⟨X, hX, hr, hm⟩ := h.pok p (by simp)
  by_cases e : p.2 = t
  · rw [e]; exact .here
  · rcases hl _ hp2 with ⟨h1, _⟩ | ⟨q, Y, h1, h2, h3, h4⟩
    · rw [hp] at h1; simp at h1
    · rw [hp] at h1
      simp at h1
      subst h1
      have := one X Y hX h3 hm h4
      subst this
      exact .step e h2 hr

theorem Hunt.take {p : Nat × Nat} (h : Hunt n t nx rq ws us (p :: ps)) (hl : Live n nx rq ws) (hp : rq p.2 = some p.1) (hp2 : p.2 < n) (one : ∀ X Y, X < n → Y < n → p ∈ ws X → p ∈ ws Y → X = Y) (hne : p.2 ≠ it nx t 1) : Hunt n t nx rq ws (us ++ [p.2]) ps where
  uok u hu := by
    simp at hu
    rcases hu with hu | rfl
    · exact h.uok u hu
    · exact ⟨hp2, h.reach hl hp hp2 one⟩
  pok q hq := h.pok q (by simp [hq])
  find m h2 c := by
    rcases h.find m h2 c with ⟨j, h3, h4, h5⟩ | ⟨j, q, h3, h4, h5, h6⟩
    · exact .inl ⟨j, h3, h4, by simp [h5]⟩
    · simp at h6
      rcases h6 with h6 | h6
      · subst h6
        refine .inl ⟨j, ?_, by omega, by simp⟩
        have : j ≠ 1 := fun e => hne (by subst e; rfl)
        omega
      · exact .inr ⟨j, q, h3, h4, h5, h6⟩
end

/-- A slice of requests that lies in old memory. -/
def WIn (w : World) (v : Value) (ps : List (Nat × Nat)) : Prop :=
  (ps = [] ∧ ∃ a c, v = .slice a 0 c) ∨ ∃ g o c, v = .slice (some ⟨g, o, none⟩) ps.length c ∧ g < w.heap.size ∧ ps.length ≤ c ∧ 0 < ps.length ∧ ∀ j p, ps[j]? = some p → w.cell? ⟨g, o + j, none⟩ = some (.pointer (some ⟨p.1, 0, none⟩))

theorem WIn.ofOwn {w : World} {b : Nat} {v : Value} {ps : List (Nat × Nat)} (h : Own w b v (rowOf ps)) : WIn w v ps := by
  by_cases e : ps = []
  · subst e
    refine .inl ⟨rfl, ?_⟩
    rcases h with ⟨rfl, _⟩ | ⟨g, o, c, rfl, _⟩
    · exact ⟨none, 0, rfl⟩
    · exact ⟨_, c, rfl⟩
  · have hp : 0 < ps.length := List.length_pos_iff.2 e
    obtain ⟨g, o, c, h1, h2, h3, h4, h5⟩ := h.form (by rw [rowOf_length]; exact hp)
    rw [rowOf_length] at h1 h4
    exact .inr ⟨g, o, c, h1, h3, h4, hp, fun j p hj => h5 j _ (by simp [rowOf, hj])⟩

/-- What is left of it behind its head. -/
theorem WIn.tail {w : World} {g o c : Nat} {p : Nat × Nat} {ps : List (Nat × Nat)} (h4 : (p :: ps).length ≤ c) (h3 : g < w.heap.size) (h5 : ∀ j q, (p :: ps)[j]? = some q → w.cell? ⟨g, o + j, none⟩ = some (.pointer (some ⟨q.1, 0, none⟩))) (o' : Nat) (ho : 1 < c → o' = o + 1) :
    WIn w (.slice (some ⟨g, o', none⟩) ps.length (c - 1)) ps := by
  by_cases e : ps = []
  · subst e; exact .inl ⟨rfl, _, _, rfl⟩
  · have hp : 0 < ps.length := List.length_pos_iff.2 e
    simp at h4
    have := ho (by omega)
    subst this
    refine .inr ⟨g, o + 1, c - 1, rfl, h3, by omega, hp, fun j q hj => ?_⟩
    rw [show o + 1 + j = o + (j + 1) by omega]
    exact h5 (j + 1) q (by simpa using hj)

theorem Own.tail {w : World} {b g o c : Nat} {x : Value} {xs : List Value} (h : Own w b (.slice (some ⟨g, o, none⟩) (xs.length + 1) c) (x :: xs)) (o' : Nat) (ho : 1 < c → o' = o + 1) : Own w b (.slice (some ⟨g, o', none⟩) xs.length (c - 1)) xs := by
  rcases h with ⟨h, _⟩ | ⟨g', o1, c', h1, h2, h3, h4, h5, h6, h7⟩
  · simp at h
  · simp at h1
    obtain ⟨⟨rfl, rfl⟩, rfl⟩ := h1
    refine .inr ⟨g, o', c - 1, rfl, h2, h3, by simp at h4; omega, fun j u hj => ?_, fun j hj => ?_, h7⟩
    · have hjx : j < xs.length := by
        rcases Nat.lt_or_ge j xs.length with h | h
        · exact h
        · rw [List.getElem?_eq_none h] at hj; simp at hj
      simp at h4
      have := ho (by omega)
      subst this
      rw [show o + 1 + j = o + (j + 1) by omega]
      exact h5 (j + 1) u (by simpa using hj)
    · have := ho (by omega)
      subst this
      rw [show o + 1 + j = o + (j + 1) by omega]
      exact h6 (j + 1) (by omega)

/-- The cells of a row of nodes. -/
def ndOf (B : Nat) (us : List Nat) : List Value := us.map fun u => .pointer (some ⟨nd B u, 0, none⟩)
theorem ndOf_length (B : Nat) (us : List Nat) : (ndOf B us).length = us.length := by simp [ndOf]
theorem ndOf_snoc (B : Nat) (us : List Nat) (u : Nat) : ndOf B us ++ [.pointer (some ⟨nd B u, 0, none⟩)] = ndOf B (us ++ [u]) := by simp [ndOf]

theorem neq29_nil (w : World) (a : Addr) : (binOp .neq 29 (.pointer none) (.pointer (some a))).run Yba.prog w = .ok (.bool true) w := by
  have h : ∀ d : Nat, (Op.equalIn (d + 1) 29 (.pointer none) (.pointer (some a))).run Yba.prog w = .ok false w := fun d => by
    simp [Op.equalIn, run_underlying Yba.underlying29]
  simp only [binOp]
  simp [Op.equal, Op.maxDepth, h 9999]

/-- All that cycleThrough holds at a round's head. -/
structure Seek (w wr : World) (B n t : Nat) (nx rq : Nat → Option Nat) (ws : Nat → List (Nat × Nat)) (us : List Nat) (ps : List (Nat × Nat)) (bv wv : Value) : Prop where
  below : Below w.heap.size w wr
  own : Own wr w.heap.size bv (ndOf B us)
  wait : WIn w wv ps
  hunt : Hunt n t nx rq ws us ps
end Go.Proofs.Ybulkcagu
