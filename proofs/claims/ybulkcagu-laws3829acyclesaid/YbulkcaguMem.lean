import Derived.Test.YbulkcaguChecked
import Derived.WalkKit
import Derived.ProofKit
import Derived.Below
import Derived.WalkSpells
import Derived.WalkSmall
import Derived.BigQuiet
import Derived.Deep.QuietTactic
import Derived.RegionTactic
import Derived.Deep.RegionLaw
import Derived.Lib.SliceRun
import Derived.Laws.IdiomCopy
import Derived.Laws.OwnMore
import Derived.ArgAppend
namespace Go.Proofs.Ybulkcagu
open Go.RowKit
set_option linter.unusedVariables false
set_option linter.unusedSimpArgs false

/-- A slice of the call's own, of one-cell elements, that may begin inside its row: its elements, and the room behind them. -/
def Own (w : World) (base : Nat) (v : Value) (xs : List Value) : Prop :=
  (v = .slice none 0 0 ∧ xs = []) ∨ ∃ g o c, v = .slice (some ⟨g, o, none⟩) xs.length c ∧ base ≤ g ∧ g < w.heap.size ∧ xs.length ≤ c ∧
    (∀ j u, xs[j]? = some u → w.cell? ⟨g, o + j, none⟩ = some u) ∧ (∀ j, j < c → (w.cell? ⟨g, o + j, none⟩).isSome = true) ∧ ∀ j, w.frozen? ⟨g, j, none⟩ = false

theorem Own.nil (w : World) (base : Nat) : Own w base (.slice none 0 0) [] := .inl ⟨rfl, rfl⟩

theorem Own.base {w : World} {b b' : Nat} {v : Value} {xs : List Value} (h : Own w b v xs) (hb : b' ≤ b) : Own w b' v xs := by
  rcases h with h | ⟨g, o, c, h1, h2, h3⟩
  · exact .inl h
  · exact .inr ⟨g, o, c, h1, Nat.le_trans hb h2, h3⟩

theorem Own.lt {w : World} {b k : Nat} {v : Value} {xs : List Value} (h : Own w b v xs) (hk : v.ownBlock = some k) : b ≤ k ∧ k < w.heap.size := by
  rcases h with ⟨rfl, _⟩ | ⟨g, o, c, rfl, h2, h3, _⟩
  · simp [Value.ownBlock] at hk
  · simp [Value.ownBlock] at hk
    subst hk
    exact ⟨h2, h3⟩

/-- What is not in the row's block may turn. -/
theorem Own.kept {w w' : World} {b : Nat} {v : Value} {xs : List Value} (h : Own w b v xs) (hs : w.heap.size ≤ w'.heap.size) (hk : ∀ k, v.ownBlock = some k → w'.heap[k]? = w.heap[k]?) : Own w' b v xs := by
  rcases h with h | ⟨g, o, c, rfl, h2, h3, h4, h5, h6, h7⟩
  · exact .inl h
  · have e := hk g rfl
    refine .inr ⟨g, o, c, rfl, h2, Nat.lt_of_lt_of_le h3 hs, h4, fun j u hj => ?_, fun j hj => ?_, fun j => ?_⟩
    · rw [World.cell?_of_block (w := w) (a := ⟨g, o + j, none⟩) e]; exact h5 j u hj
    · rw [World.cell?_of_block (w := w) (a := ⟨g, o + j, none⟩) e]; exact h6 j hj
    · rw [World.frozen?_of_block (w := w) (a := ⟨g, j, none⟩) e]; exact h7 j

theorem Own.below {w w' : World} {b : Nat} {v : Value} {xs : List Value} (h : Own w b v xs) (hb : Below w.heap.size w w') : Own w' b v xs :=
  h.kept hb.size (fun k hk => hb.block k (h.lt hk).2)

theorem add_at (g o j : Nat) : (⟨g, o, none⟩ : Addr).add j = ⟨g, o + j, none⟩ := by unfold Addr.add; split <;> simp_all

theorem cell_plain (w : World) {g j : Nat} {u : Value} (h : w.cell? ((⟨g, 0, none⟩ : Addr).add j) = some u) : w.cell? ⟨g, j, none⟩ = some u := by
  have e : (⟨g, 0, none⟩ : Addr).add j = ⟨g, j, none⟩ := by unfold Addr.add; split <;> simp_all
  rw [e] at h; exact h

theorem Own.ofRow {w : World} {b : Nat} {e : TypeId} {v : Value} {n : Nat} {xs : List Value} (h : w.ownsRow b e 1 v n xs) : Own w b v xs := by
  have hl : xs.length = n := by simpa using h.1
  subst hl
  rcases h.2 with ⟨h1, h2⟩ | ⟨g, cap, cur, h1, h2, h3, h4, h5, h6, h7⟩
  · exact .inl ⟨h1, List.eq_nil_of_length_eq_zero h2⟩
  · subst h1
    refine .inr ⟨g, 0, cap, rfl, h2, ?_, h4, fun j u hj => ?_, fun j hj => ?_, fun j => ?_⟩
    · rcases Nat.lt_or_ge g w.heap.size with h | h'
      · exact h
      · simp [Array.getElem?_eq_none h'] at h3
    · rw [Nat.zero_add]
      exact cell_plain w (h.cells (g := g) rfl j u hj)
    · rw [Nat.zero_add, cell_of_row w g j cur e (0, 0) h3]
      simp [Array.getElem?_eq_getElem (show j < cur.size by omega)]
    · simp [World.frozen?, h3]

theorem heap_setCells (g : Nat) : ∀ (vs : List Value) (o : Nat) (w : World), (w.setCells g o vs).os = w.os ∧ (w.setCells g o vs).tape = w.tape ∧ (w.setCells g o vs).output = w.output ∧ (w.setCells g o vs).heap.size = w.heap.size ∧ ∀ k, k ≠ g → (w.setCells g o vs).heap[k]? = w.heap[k]?
  | [], _, w => ⟨rfl, rfl, rfl, rfl, fun _ _ => rfl⟩
  | v :: r, o, w => by
    obtain ⟨h1, h2, h3, h4, h5⟩ := heap_setCells g r (o + 1) (w.setCell ⟨g, o, none⟩ v)
    rw [World.setCells]
    exact ⟨h1.trans rfl, h2.trans rfl, h3.trans rfl, h4.trans (by simp [World.setCell]), fun k hk => (h5 k hk).trans (Below.heap_setCell _ _ _ _ hk)⟩

/-- append onto a slice of the call's own. -/
theorem own_append {P : Program} (w : World) (base : Nat) (t ty e : TypeId) (i : TypeInfo) (z : Value) (bytes : Nat) (ht : P.underlying t = some (.slice e)) (hi : P.info? e = some i) (hz : i.zero = some z)
    (hsize : i.size = 1) (hby : i.bytes = bytes) (hzs : z.cells.size = 1) (v : Value) (xs : List Value) (hown : Own w base v xs)
    (a : Addr) (c : Nat) (news : List Value) (hnews : ∀ j u, news[j]? = some u → w.cell? (a.add j) = some u) (h1 : ∀ u ∈ news, u.oneCell' = true)
    (h63 : xs.length + news.length ≤ maxLen) (hbytes : (xs.length + news.length) * bytes ≤ 140737488355328) (hbase : base ≤ w.heap.size) :
    ∃ v' w', (Builtin.append_ #[t, t] ty #[v, .slice (some a) news.length c]).run P w = .ok v' w' ∧ Own w' base v' (xs ++ news) ∧ w.grownBy w' v.ownBlock ∧
      (∀ k, v'.ownBlock = some k → w.heap.size ≤ k ∨ v.ownBlock = some k) := by
  have hl1 : news.length = news.length * 1 := (Nat.mul_one _).symm
  rcases hown with ⟨rfl, rfl⟩ | ⟨g, o, cap, rfl, hg1, hg2, hlc, hcell, hroom, hfree⟩
  · obtain ⟨v', w', hrun, r1, r2, _⟩ := run_append_own (P := P) w w.heap.size t ty e i z 1 bytes ht hi hz hsize hby hzs (by decide) (.slice none 0 0) 0 [] (World.ownsRow_nil w _ e 1) a news.length c news hl1 hnews h1 (by simpa using h63) (by simpa using hbytes) (Nat.le_refl _)
    exact ⟨v', w', hrun, (Own.ofRow r1).base hbase, r2, fun k hk => .inl (r1.lt k hk).1⟩
  · by_cases hr : xs.length + news.length ≤ cap
    · have hrun := run_append_room_cells (P := P) w t ty e i ht hi g o xs.length cap a news.length c news (by rw [hsize, Nat.mul_one]) hnews h1 hr
        (fun j hj => by rw [hsize, Nat.mul_one, Nat.add_assoc]; exact hroom _ (by omega)) (fun j _ => hfree _)
      rw [hsize, Nat.mul_one] at hrun
      obtain ⟨e1, e2, e3, e4, e5⟩ := heap_setCells g news (o + xs.length) w
      refine ⟨_, _, hrun, .inr ⟨g, o, cap, by rw [List.length_append], hg1, by omega, by rw [List.length_append]; exact hr, fun j u hj => ?_, fun j hj => ?_, fun j => by rw [World.frozen?_setCells]; exact hfree j⟩, ⟨e1, e2, e3, by omega, fun k _ hk => e5 k (fun e => hk (by simp [e, Value.ownBlock]))⟩, fun k hk => .inr hk⟩
      · by_cases hjl : j < xs.length
        · rw [World.cell?_setCells_out g news (o + xs.length) w ⟨g, o + j, none⟩ (fun _ _ => .inl (by simp; omega))]
          exact hcell j u (by rw [List.getElem?_append_left hjl] at hj; exact hj)
        · rw [List.getElem?_append_right (by omega)] at hj
          have hjn : j - xs.length < news.length := by
            rcases Nat.lt_or_ge (j - xs.length) news.length with h | h
            · exact h
            · rw [List.getElem?_eq_none h] at hj; simp at hj
          have := World.cell?_setCells_in g news (o + xs.length) w (fun j hj => by rw [Nat.add_assoc]; exact hroom _ (by omega)) (j - xs.length) hjn
          rw [show o + xs.length + (j - xs.length) = o + j by omega] at this
          rw [this, ← hj]; simp [hjn]
      · by_cases hin : o + xs.length ≤ o + j ∧ o + j < o + xs.length + news.length
        · have := World.cell?_setCells_in g news (o + xs.length) w (fun j hj => by rw [Nat.add_assoc]; exact hroom _ (by omega)) (j - xs.length) (by omega)
          rw [show o + xs.length + (j - xs.length) = o + j by omega] at this
          rw [this]; rfl
        · rw [World.cell?_setCells_out g news (o + xs.length) w ⟨g, o + j, none⟩ (fun _ _ => by simp; omega)]
          exact hroom j hj
    · obtain ⟨v', w', hrun, r1, r2⟩ := run_append_arg_grows (P := P) w t ty e i z 1 bytes ht hi hz hsize hby hzs (by decide) ⟨g, o, none⟩ xs.length cap xs (Nat.mul_one _).symm
        (fun j u hj => by rw [add_at]; exact hcell j u hj) a news.length c news hl1 hnews (by omega) h63 hbytes
      exact ⟨v', w', hrun, (Own.ofRow r1).base hbase, ⟨r2.os, r2.tape, r2.output, r2.size, fun k hk _ => r2.block k hk (by simp)⟩, fun k hk => .inl (r1.lt k hk).1⟩

/-- An 'append' whose run is known. -/
theorem wpList_append_run {P : Program} {w : World} {ops : Array Oper} {rest : List Oper} {o : Oper} {a : Act} {Q : Exit → Act → World → Prop} (hgd : o.guard = none) (s x : Operand) (t : TypeId)
    (ho : o.op = .call { callee := .builtin .append, args := #[s, x], argTypes := #[t, t] }) (v u : Value) (hs : a.eval s = v) (hx : a.eval x = u) {v' : Value} {w' : World}
    (hr : (Builtin.append_ #[t, t] o.type #[v, u]).run P w = .ok v' w') (h : wpList P ops Q rest (a.put o.dst v') w') : wpList P ops Q (o :: rest) a w :=
  wpList_plain hgd fun _ hK => by
    unfold Oper.wp execOp
    simp only [ho, resolve, invoke, builtin, Sem.run_bind, Sem.run_pure, Result.andThen_ok, List.map_toArray, List.map_cons, List.map_nil, hs, hx, hr]
    exact hK _ _ h

/-- The same inside a region that draws. -/
theorem step_append_run {P : Program} {ops : Array Oper} {o : Oper} {a : Act} {w : World} {K : Act → World → Prop} {Q : Exit → Act → World → Prop} {E : Prop}
    (hg : o.guard = none) (s x : Operand) (t : TypeId) (hop : o.op = Op.call { callee := Callee.builtin Builtin.append, args := #[s, x], argTypes := #[t, t] })
    (v u : Value) (hs : a.eval s = v) (hx : a.eval x = u) {v' : Value} {w' : World} (hrun : (Builtin.append_ #[t, t] o.type #[v, u]).run P w = .ok v' w') (hK : K (a.put o.dst v') w') :
    if Region.wanted o (yielded ops a.tmps) = true then Oper.wp P o a w K Q else E := by
  have hw : Region.wanted o (yielded ops a.tmps) = true := by simp [Region.wanted, hg]
  rw [if_pos hw]
  unfold Oper.wp
  simp [execOp, hop, resolve, invoke, builtin, hs, hx, hrun, Result.andThen]
  exact hK

theorem info28 : ∃ i, Yba.prog.info? 28 = some i ∧ i.zero = some (.pointer none) ∧ i.size = 1 ∧ i.bytes = 8 := by
  have h : (Yba.prog.info? 28).map (fun i => (i.zero, i.size, i.bytes)) = some (some (.pointer none), 1, 8) := by kernel_rfl
  cases hi : Yba.prog.info? 28 with
  | none => rw [hi] at h; simp at h
  | some i => rw [hi] at h; simp at h; exact ⟨i, rfl, h.1, h.2.1, h.2.2⟩
theorem info29 : ∃ i, Yba.prog.info? 29 = some i ∧ i.zero = some (.pointer none) ∧ i.size = 1 ∧ i.bytes = 8 := by
  have h : (Yba.prog.info? 29).map (fun i => (i.zero, i.size, i.bytes)) = some (some (.pointer none), 1, 8) := by kernel_rfl
  cases hi : Yba.prog.info? 29 with
  | none => rw [hi] at h; simp at h
  | some i => rw [hi] at h; simp at h; exact ⟨i, rfl, h.1, h.2.1, h.2.2⟩
theorem info3 : ∃ i, Yba.prog.info? 3 = some i ∧ i.zero = some (.int .i64 0) ∧ i.size = 1 ∧ i.bytes = 8 := by
  have h : (Yba.prog.info? 3).map (fun i => (i.zero, i.size, i.bytes)) = some (some (.int .i64 0), 1, 8) := by kernel_rfl
  cases hi : Yba.prog.info? 3 with
  | none => rw [hi] at h; simp at h
  | some i => rw [hi] at h; simp at h; exact ⟨i, rfl, h.1, h.2.1, h.2.2⟩
end Go.Proofs.Ybulkcagu
