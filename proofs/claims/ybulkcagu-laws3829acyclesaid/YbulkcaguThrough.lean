import Derived.Test.YbulkcaguHunt
namespace Go.Proofs.Ybulkcagu
open Go.RowKit
set_option linter.unusedVariables false
set_option linter.unusedSimpArgs false

/-- What cycleThrough answers. -/
def Answer (w : World) (t : Nat) (nx : Nat → Option Nat) (tx : Nat → Int) (e : Ending) (w' : World) : Prop :=
  Below w.heap.size w w' ∧ ((∃ m v, Cyc nx t m ∧ e = .returned v ∧ Own w' w.heap.size v (rot (fun j => tx (it nx t j)) m)) ∨ ((∀ m, ¬ Cyc nx t m) ∧ e = .returned (.slice none 0 0)))

theorem tail_addr (g o c : Nat) : ∃ o', (if c = 1 then some (⟨g, o, none⟩ : Addr) else some ⟨g, o + 1, none⟩) = some ⟨g, o', none⟩ ∧ (1 < c → o' = o + 1) := by
  by_cases h : c = 1
  · exact ⟨o, by simp [h], fun _ => by omega⟩
  · exact ⟨o + 1, by simp [h], fun _ => rfl⟩

set_option maxRecDepth 100000 in
set_option maxHeartbeats 4000000 in
theorem through_any {w : World} {B n t : Nat} {tx : Nat → Int} {rq nx : Nat → Option Nat} {ws : Nat → List (Nat × Nat)} {av : Nat → Value} (bb : Value) (hn : Net w B n tx rq ws av) (hl : Live n nx rq ws) (hf : Forest nx n t) (hN : n ≤ 301) :
    Calls Yba.prog 6 #[bb, .pointer (some ⟨nd B t, 0, none⟩)] w fun e w' => Answer w t nx tx e w' := by
  obtain ⟨i0, hi0, hz0, hz1, hz2⟩ := info28
  have lt0 := hn.lt hf.lt
  obtain ⟨p0, hp0, hnx⟩ := hf.first
  have hit1 : it nx t 1 = p0 := it_succ (k := 0) hnx
  have run1 : Run nx t 1 := (⟨fun j hj => by omega, fun j h0 hj => by omega⟩ : Run nx t 0).more (fun h => by omega) hnx
  obtain ⟨q, x1, x2, x3⟩ := hn.next hl hf.lt hnx
  go_enter Yba.func6, Yba.ntmps6
  go_wp2
  go_loopw [6, 7, 8] (fun ah bv wv wr => ∃ k us ps, 0 < k ∧ Run nx t k ∧ ah = .pointer (some ⟨nd B (it nx t k), 0, none⟩) ∧ us.length ≤ k ∧ Seek w wr B n t nx rq ws us ps bv wv) (fun ah _ _ _ => match ah with | .pointer (some a) => a.block | _ => 0)
  case atStart =>
    refine ⟨1, [t], [], by omega, run1, by rw [hit1], Nat.le_refl _, ⟨(Below.refl _ _).alloc (Nat.le_refl _) _, own_lit w _ _ _ (Nat.le_refl _), .inl ⟨rfl, none, 0, rfl⟩, Hunt.init hf⟩⟩
  case round =>
    obtain ⟨k, us, ps, h0, hr, rfl, huk, S⟩ := hrel
    clear x1 x2 x3
    have hlt := hf.lt_n hr
    have hn' := hn.below S.below
    have ltk := hn'.lt hlt
    by_cases hk : it nx t k = t
    · have e1 := eql28_same wr ⟨nd B t, 0, none⟩
      go_wp2_with fail
      refine (from_any _ hn' hl hf hN ⟨h0, hr, hk⟩).mono ?_
      rintro e w' ⟨v, rfl, hb, ho⟩
      go_wp2
      go_ret
      exact ⟨S.below.trans (hb.mono S.below.size), .inl ⟨k, v, ⟨h0, hr, hk⟩, rfl, ho.base S.below.size⟩⟩
    · have e1 := eql28_other (hn'.plain _ hlt) (hn'.plain _ hf.lt) (nd_ne hk)
      have y1 := hn'.req _ hlt
      rcases hl _ hlt with ⟨hq, hno⟩ | ⟨q', p', hq, hnk, hp', hmem⟩
      · rw [hq] at y1
        simp only [rqv] at y1
        go_wp2
        go_ret
        exact ⟨S.below, .inr ⟨hr.ends (fun _ => hk) hno, rfl⟩⟩
      · rw [hq] at y1
        simp only [rqv] at y1
        obtain ⟨_, _, r1, _⟩ := hn'.reqs p' (q', it nx t k) hp' hmem
        have y2 := r1.whom
        have hik : it nx t (k + 1) = p' := it_succ hnk
        have hr' := hr.more (fun _ => hk) hnk
        have hdown : p' < it nx t k := hf.down _ _ hlt hk hnk
        have hk1 := hf.bound (k - 1) (by rw [show k - 1 + 1 = k by omega]; exact hr)
        rw [show k - 1 + 1 = k by omega] at hk1
        go_wp2
        go_loopw [7, 8] (fun bv wv wr => ∃ us ps, us.length ≤ k ∧ Seek w wr B n t nx rq ws us ps bv wv) (fun bv _ _ => lenOf bv)
        case atStart => exact ⟨us, ps, huk, S⟩
        case round =>
          clear S huk hn' ltk e1 y1 y2 r1
          obtain ⟨us, ps, huk, S⟩ := hrel
          have hn' := hn.below S.below
          rcases S.wait with ⟨rfl, a, c, rfl⟩ | ⟨g, o, c, rfl, hg, hlc, hpos, hcell⟩
          · cases us with
            | nil =>
              have fin : ∀ m, ¬ Cyc nx t m := fun m cy => S.hunt.none (by have := hr.cyc_gt hk cy; omega) cy
              rcases S.own with ⟨rfl, _⟩ | ⟨gb, ob, cb, hv, _⟩
              · go_wp2
                go_ret
                exact ⟨S.below, .inr ⟨fin, rfl⟩⟩
              · simp only [ndOf, List.map_nil, List.length_nil] at hv
                subst hv
                go_wp2
                go_ret
                exact ⟨S.below, .inr ⟨fin, rfl⟩⟩
            | cons x us =>
              obtain ⟨gb, ob, cb, hv, hb1, hb2, hb3, hb4⟩ := S.own.form (by simp [ndOf])
              rw [ndOf_length] at hv hb3
              subst hv
              have hx := (S.hunt.uok x (by simp)).1
              have z1 := hb4 0 _ rfl
              have z2 := hn'.wait x hx
              have hltx := hn'.lt hx
              simp only [List.length_cons, Nat.add_zero] at hb3 z1 huk ⊢
              have hne : ¬ ((us.length : Int) + 1 = 0) := by omega
              obtain ⟨o', hif, ho'⟩ := tail_addr gb ob cb
              have T : Own wr w.heap.size (.slice (some ⟨gb, o', none⟩) us.length (cb - 1)) (ndOf B us) := by
                have := Own.tail (x := .pointer (some ⟨nd B x, 0, none⟩)) (xs := ndOf B us) (by rw [ndOf_length]; exact S.own) o' ho'
                rw [ndOf_length] at this
                exact this
              go_wp2
              go_quiet (fail)
              go_wp2
              go_roundw
              case rel => exact ⟨us, ws x, by omega, ⟨below_drewN S.below _, T.below (below_drewN (Below.refl _ _) _), WIn.ofOwn (hn.rows x hx), S.hunt.pop hl hf⟩⟩
              case measure => simp [lenOf]
          · cases ps with
            | nil => simp at hpos
            | cons p ps =>
              have z1 := (S.below.cell (p := ⟨g, o + 0, none⟩) hg).trans (hcell 0 p rfl)
              obtain ⟨X, hX, _, hm⟩ := S.hunt.pok p (by simp)
              obtain ⟨_, hp2, rr, _⟩ := hn'.reqs X p hX hm
              have z2 := rr.who
              have z3 := hn'.req p.2 hp2
              have hltp := hn'.lt hp2
              have hltq := rr.lt
              have one : ∀ X Y, X < n → Y < n → p ∈ ws X → p ∈ ws Y → X = Y := fun X Y hX hY h1 h2 => hn'.one hX hY h1 h2
              simp only [List.length_cons, Nat.add_zero] at hlc z1 ⊢
              have hne : ¬ ((ps.length : Int) + 1 = 0) := by omega
              obtain ⟨o', hif, ho'⟩ := tail_addr g o c
              have tl := WIn.tail (w := w) (g := g) (o := o) (c := c) (p := p) (ps := ps) (by simpa using hlc) hg hcell o' ho'
              clear hpos hcell
              cases hrq : rq p.2 with
              | none =>
                rw [hrq] at z3
                simp only [rqv] at z3
                have e2 := neq29_nil wr ⟨p.1, 0, none⟩
                have hh := S.hunt.skip (by rw [hrq]; simp)
                go_wp2
                go_roundw
                case rel => exact ⟨k + 1, us, ps, by omega, hr', by rw [hik], by omega, ⟨S.below, S.own, tl, hh⟩⟩
                case measure =>
                  show nd B p' < nd B (it nx t k)
                  unfold nd; omega
              | some q2 =>
                rw [hrq] at z3
                simp only [rqv] at z3
                by_cases hq2 : q2 = p.1
                · subst hq2
                  have e2 := neq29_same wr ⟨p.1, 0, none⟩
                  by_cases h1 : p.2 = p0
                  · have e3 := eql28_same wr ⟨nd B p0, 0, none⟩
                    obtain ⟨m, hcy⟩ := reach_cyc (S.hunt.reach hl hrq hp2 one) 1 (by omega) run1 (by rw [hit1, h1])
                    rw [h1] at z2 z3
                    rw [h1] at hltp
                    go_wp2_with fail
                    refine (from_any _ hn' hl hf hN hcy).mono ?_
                    rintro e w' ⟨v, rfl, hb, ho⟩
                    go_wp2
                    go_ret
                    exact ⟨S.below.trans (hb.mono S.below.size), .inl ⟨m, v, hcy, rfl, ho.base S.below.size⟩⟩
                  · have e3 := eql28_other (hn'.plain _ hp2) (hn'.plain _ hp0) (nd_ne h1)
                    have hh := S.hunt.take hl hrq hp2 one (by rw [hit1]; exact h1)
                    go_wp2_with (at_builtin; refine wpList_own_append rfl _ _ 26 rfl w.heap.size 28 i0 (.pointer none) 8 Yba.underlying26 hi0 hz0 hz1 hz2 rfl _ (ndOf B us) rfl (S.own.below ((Below.refl _ _).alloc (Nat.le_refl _) _)) ⟨wr.heap.size, 0, none⟩ 1 1 [.pointer (some ⟨nd B p.2, 0, none⟩)] rfl rfl ?c1 ?c2 ?c3 ?c4 ?c5 ?_)
                    case c1 => exact lit_news wr _ _
                    case c2 => intro u hu; simp at hu; subst hu; rfl
                    case c3 => rw [ndOf_length]; simp; unfold maxLen; omega
                    case c4 => rw [ndOf_length]; simp; omega
                    case c5 => have := S.below.size; simp; omega
                    intro v1 w1 own1 grow1 row1
                    have b1 : Below w.heap.size w w1 := (S.below.alloc S.below.size _).grown grow1 (by have := S.below.size; simp; omega) (fun j hj => (S.own.lt hj).1)
                    rw [ndOf_snoc] at own1
                    go_wp2
                    go_roundw
                    case rel => exact ⟨k + 1, us ++ [p.2], ps, by omega, hr', by rw [hik], by simp; omega, ⟨b1, own1, tl, hh⟩⟩
                    case measure =>
                      show nd B p' < nd B (it nx t k)
                      unfold nd; omega
                · have e2 : (binOp .neq 29 (.pointer (some ⟨q2, 0, none⟩)) (.pointer (some ⟨p.1, 0, none⟩))).run Yba.prog wr = .ok (.bool true) wr := by
                    rcases hl _ hp2 with ⟨h1, _⟩ | ⟨q3, p3, h1, h2, h3, h4⟩
                    · rw [hrq] at h1; simp at h1
                    · rw [hrq] at h1
                      simp at h1
                      subst h1
                      obtain ⟨_, _, r3, _⟩ := hn'.reqs p3 (q2, p.2) h3 h4
                      exact neq29_other r3.plain rr.plain hq2
                  have hh := S.hunt.skip (by rw [hrq]; simpa using hq2)
                  go_wp2
                  go_roundw
                  case rel => exact ⟨k + 1, us, ps, by omega, hr', by rw [hik], by omega, ⟨S.below, S.own, tl, hh⟩⟩
                  case measure =>
                    show nd B p' < nd B (it nx t k)
                    unfold nd; omega
end Go.Proofs.Ybulkcagu
