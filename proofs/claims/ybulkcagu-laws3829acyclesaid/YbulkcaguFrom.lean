import Derived.Test.YbulkcaguNet
namespace Go.Proofs.Ybulkcagu
open Go.RowKit
set_option linter.unusedVariables false
set_option linter.unusedSimpArgs false

/-- append onto a slice of the call's own, as a step of the walk. -/
theorem wpList_own_append {P : Program} {w : World} {ops : Array Oper} {rest : List Oper} {o : Oper} {a : Act} {Q : Exit → Act → World → Prop} (hgd : o.guard = none) (s x : Operand) (t : TypeId)
    (ho : o.op = .call { callee := .builtin .append, args := #[s, x], argTypes := #[t, t] }) (base : Nat) (e : TypeId) (i : TypeInfo) (z : Value) (bytes : Nat) (ht : P.underlying t = some (.slice e)) (hi : P.info? e = some i) (hz : i.zero = some z)
    (hsize : i.size = 1) (hby : i.bytes = bytes) (hzs : z.cells.size = 1) (v : Value) (xs : List Value) (hs : a.eval s = v) (hown : Own w base v xs)
    (ad : Addr) (m c : Nat) (news : List Value) (hm : news.length = m) (hx : a.eval x = .slice (some ad) m c) (hnews : ∀ j u, news[j]? = some u → w.cell? (ad.add j) = some u) (h1 : ∀ u ∈ news, u.oneCell' = true)
    (h63 : xs.length + news.length ≤ maxLen) (hbytes : (xs.length + news.length) * bytes ≤ 140737488355328) (hbase : base ≤ w.heap.size)
    (h : ∀ v' w', Own w' base v' (xs ++ news) → w.grownBy w' v.ownBlock → (∀ k, v'.ownBlock = some k → w.heap.size ≤ k ∨ v.ownBlock = some k) → wpList P ops Q rest (a.put o.dst v') w') : wpList P ops Q (o :: rest) a w := by
  subst hm
  obtain ⟨v', w', hr, r1, r2, r3⟩ := own_append (P := P) w base t o.type e i z bytes ht hi hz hsize hby hzs v xs hown ad c news hnews h1 h63 hbytes hbase
  exact wpList_append_run hgd s x t ho v _ hs hx hr (h v' w' r1 r2 r3)

/-- The numbers f 0 .. f (k - 1), as cells. -/
def arf (f : Nat → Int) (k : Nat) : List Value := (List.range k).map fun j => .int .i64 (f j)

theorem arf_length (f : Nat → Int) (k : Nat) : (arf f k).length = k := by simp [arf]
theorem arf_succ (f : Nat → Int) (k : Nat) : arf f (k + 1) = arf f k ++ [.int .i64 (f k)] := by simp [arf, List.range_succ]
theorem arf_at (f : Nat → Int) {k j : Nat} (h : j < k) : (arf f k)[j]? = some (.int .i64 (f j)) := by simp [arf, h]
theorem arf_one (f : Nat → Int) (k : Nat) : ∀ u ∈ arf f k, u.oneCell' = true := by
  intro u hu
  obtain ⟨x, _, rfl⟩ := List.mem_map.1 hu
  rfl

/-- The numbers from the first lowest on, and that one again. -/
def rot (f : Nat → Int) (m : Nat) : List Value := (arf f m).drop (lowTo f (m - 1)) ++ (arf f m).take (lowTo f (m - 1)) ++ [.int .i64 (f (lowTo f (m - 1)))]

theorem rot_length (f : Nat → Int) (m : Nat) (h : 0 < m) : (rot f m).length = m + 1 := by
  have := lowTo_le f (m - 1)
  simp [rot, arf_length]; omega
theorem rot_at (f : Nat → Int) {m k : Nat} (h : k < m) : (rot f m)[k]? = some (.int .i64 (f ((lowTo f (m - 1) + k) % m))) := by
  have hl := lowTo_le f (m - 1)
  unfold rot
  rw [List.getElem?_append_left (by simp [arf_length]; omega)]
  by_cases h1 : lowTo f (m - 1) + k < m
  · rw [List.getElem?_append_left (by simp [arf_length]; omega), List.getElem?_drop, arf_at f h1, Nat.mod_eq_of_lt h1]
  · rw [List.getElem?_append_right (by simp [arf_length]; omega)]
    have e : (lowTo f (m - 1) + k) % m = k - (m - lowTo f (m - 1)) := by
      rw [Nat.mod_eq_sub_mod (by omega), Nat.mod_eq_of_lt (by omega)]; omega
    rw [List.length_drop, arf_length, List.getElem?_take, if_pos (by omega), arf_at f (by omega), e]
theorem rot_last (f : Nat → Int) {m : Nat} (h : 0 < m) : (rot f m)[m]? = some (.int .i64 (f (lowTo f (m - 1)))) := by
  have hl := lowTo_le f (m - 1)
  unfold rot
  rw [List.getElem?_append_right (by simp [arf_length]; omega)]
  simp only [List.length_append, List.length_drop, List.length_take, arf_length]
  rw [show m - (m - lowTo f (m - 1) + min (lowTo f (m - 1)) m) = 0 by omega]
  rfl

/-- Who waits is named by its live request. -/
def Live (n : Nat) (nx rq : Nat → Option Nat) (ws : Nat → List (Nat × Nat)) : Prop :=
  ∀ i, i < n → (rq i = none ∧ nx i = none) ∨ ∃ q p, rq i = some q ∧ nx i = some p ∧ p < n ∧ (q, i) ∈ ws p

section
variable {w w' : World} {B n : Nat} {tx : Nat → Int} {rq nx : Nat → Option Nat} {ws : Nat → List (Nat × Nat)} {av : Nat → Value}

theorem Net.next (h : Net w B n tx rq ws av) (hl : Live n nx rq ws) {i p : Nat} (hi : i < n) (hp : nx i = some p) : ∃ q, w.cell? ⟨nd B i, 4, none⟩ = some (.pointer (some ⟨q, 0, none⟩)) ∧ w.cell? ⟨q, 8, none⟩ = some (.pointer (some ⟨nd B p, 0, none⟩)) ∧ q < w.heap.size := by
  rcases hl i hi with ⟨_, h2⟩ | ⟨q, p', h1, h2, h3, h4⟩
  · rw [hp] at h2; simp at h2
  · rw [hp] at h2
    simp at h2
    subst h2
    obtain ⟨_, _, r, _⟩ := h.reqs p (q, i) h3 h4
    refine ⟨q, ?_, r.whom, r.lt⟩
    rw [h.req i hi, h1]; rfl
end

def lenOf : Value → Nat
  | .slice _ l _ => l
  | _ => 0

theorem Own.form {w : World} {b : Nat} {v : Value} {xs : List Value} (h : Own w b v xs) (hx : 0 < xs.length) : ∃ g o c, v = .slice (some ⟨g, o, none⟩) xs.length c ∧ b ≤ g ∧ g < w.heap.size ∧ xs.length ≤ c ∧ ∀ j u, xs[j]? = some u → w.cell? ⟨g, o + j, none⟩ = some u := by
  rcases h with ⟨_, rfl⟩ | ⟨g, o, c, h1, h2, h3, h4, h5, _⟩
  · simp at hx
  · exact ⟨g, o, c, h1, h2, h3, h4, h5⟩

def zeros (n : Nat) : Array Value := madeCells #[.int .i64 0] n

theorem mk33 (l n : Nat) (hl : l ≤ n) (hn : n ≤ 1024) (w : World) : (Instr.makeSlice 33 (.int .i64 l) (.int .i64 n)).run Yba.prog w = .ok (.slice (some ⟨w.heap.size, 0, none⟩) l n) (w.alloc (.cells (zeros n) 3)) := by
  obtain ⟨i, hi, hz, hs, hb⟩ := info3
  have h := run_make (P := Yba.prog) w 33 3 i _ Yba.underlying33 hi hz .i64 .i64 (l : Int) (n : Int) (by omega) (by omega) (by rw [hb]; omega) (by omega)
  rw [hs, Nat.mul_one] at h
  exact h

theorem own_made (w : World) (base n : Nat) (hb : base ≤ w.heap.size) : Own (w.alloc (.cells (zeros n) 3)) base (.slice (some ⟨w.heap.size, 0, none⟩) 0 n) [] := by
  refine .inr ⟨w.heap.size, 0, n, rfl, hb, by simp, Nat.zero_le _, fun j u hj => by simp at hj, fun j hj => ?_, fun j => by simp⟩
  rw [World.cell?_alloc_new]
  simp [zeros, madeCells, hj, Nat.mod_one]

theorem own_lit (w : World) (base : Nat) (u : Value) (e : TypeId) (hb : base ≤ w.heap.size) : Own (w.alloc (.cells #[u] e)) base (.slice (some ⟨w.heap.size, 0, none⟩) 1 1) [u] := by
  refine .inr ⟨w.heap.size, 0, 1, rfl, hb, by simp, Nat.le_refl _, fun j v hj => ?_, fun j hj => ?_, fun j => by simp⟩
  · rw [World.cell?_alloc_new]
    match j, hj with
    | 0, hj => simpa using hj
  · rw [World.cell?_alloc_new]
    obtain rfl : j = 0 := by omega
    rfl

theorem lit_news (w : World) (u : Value) (e : TypeId) : ∀ j v, [u][j]? = some v → (w.alloc (.cells #[u] e)).cell? ((⟨w.heap.size, 0, none⟩ : Addr).add j) = some v := by
  intro j v hj
  match j, hj with
  | 0, hj =>
    rw [add_at, World.cell?_alloc_new]
    simpa using hj

/-- What cycleFrom holds at its k-th link. -/
structure Round (w wr : World) (f : Nat → Int) (k : Nat) (av : Value) : Prop where
  below : Below w.heap.size w wr
  own : Own wr w.heap.size av (arf f k)

set_option maxRecDepth 100000 in
set_option maxHeartbeats 4000000 in
theorem from_any {w : World} {B n t m : Nat} {tx : Nat → Int} {rq nx : Nat → Option Nat} {ws : Nat → List (Nat × Nat)} {av : Nat → Value} (bb : Value) (hn : Net w B n tx rq ws av) (hl : Live n nx rq ws) (hf : Forest nx n t) (hN : n ≤ 301) (hc : Cyc nx t m) :
    Calls Yba.prog 9 #[bb, .pointer (some ⟨nd B t, 0, none⟩)] w fun e w' => ∃ v, e = .returned v ∧ Below w.heap.size w w' ∧ Own w' w.heap.size v (rot (fun j => tx (it nx t j)) m) := by
  have hmn : m ≤ n := by
    have := hc.pos
    obtain ⟨k, rfl⟩ : ∃ k, m = k + 1 := ⟨m - 1, by omega⟩
    have := hf.bound k hc.run
    omega
  obtain ⟨i0, hi0, hz0, hz1, hz2⟩ := info3
  have x0 := hn.txn t hf.lt
  have lt0 := hn.lt hf.lt
  obtain ⟨q, x1, x2, x3⟩ := hn.next hl hf.lt (hc.run.link 0 hc.pos)
  go_enter Yba.func9, Yba.ntmps9
  go_wp2
  go_loopw [5, 6, 7] (fun ar lo u wr => ∃ k, 0 < k ∧ k ≤ m ∧ lo = .int .i64 (lowTo (fun j => tx (it nx t j)) (k - 1)) ∧ u = .pointer (some ⟨nd B (it nx t k), 0, none⟩) ∧ Round w wr (fun j => tx (it nx t j)) k ar) (fun ar _ _ _ => m - lenOf ar)
  case atStart =>
    exact ⟨1, Nat.one_pos, hc.pos, rfl, rfl, ⟨(Below.refl _ _).alloc (Nat.le_refl _) _, own_lit w _ _ _ (Nat.le_refl _)⟩⟩
  case round =>
    obtain ⟨k, h0, hkm, rfl, rfl, R⟩ := hrel
    clear x0 lt0 x1 x2 x3
    have hlt := hf.lt_n (hc.run.less hkm)
    have hn' := hn.below R.below
    obtain ⟨g, o, c, hv, hg1, hg2, hlc, hcell⟩ := R.own.form (by rw [arf_length]; omega)
    rw [arf_length] at hv hlc
    subst hv
    obtain ⟨L, hL⟩ : ∃ L, lowTo (fun j => tx (it nx t j)) (k - 1) = L := ⟨_, rfl⟩
    have hLk : L < k := by have := lowTo_le (fun j => tx (it nx t j)) (k - 1); omega
    have z := hcell L _ (arf_at _ hLk)
    have hLi : (L : Int) < (k : Int) := by omega
    rw [hL]
    by_cases hk : k < m
    · have hneq : nd B (it nx t k) ≠ nd B t := nd_ne (hc.run.away k h0 hk)
      have y0 := hn'.txn _ hlt
      have ltk := hn'.lt hlt
      have e1 := neq28_other (hn'.plain _ hlt) (hn'.plain _ hf.lt) hneq
      obtain ⟨q', y1, y2, y3⟩ := hn.next hl hlt (hc.run.link k hk)
      have HS : Hid (lowTo (fun j => tx (it nx t j)) (k + 1 - 1) = if tx (it nx t k) < tx (it nx t L) then k else L) := by
        obtain ⟨j, rfl⟩ : ∃ j, k = j + 1 := ⟨k - 1, by omega⟩
        show _ = _
        rw [Nat.add_sub_cancel] at hL ⊢
        rw [lowTo, hL]
      have lift : ∀ wx, Below w.heap.size w wx → wx.cell? ⟨nd B (it nx t k), 4, none⟩ = some (.pointer (some ⟨q', 0, none⟩)) ∧ wx.cell? ⟨q', 8, none⟩ = some (.pointer (some ⟨nd B (it nx t (k + 1)), 0, none⟩)) := fun wx hb => ⟨(hb.cell (p := ⟨nd B (it nx t k), 4, none⟩) (hn.lt hlt)).trans y1, (hb.cell (p := ⟨q', 8, none⟩) y3).trans y2⟩
      clear y1 y2
      by_cases hx : tx (it nx t k) < tx (it nx t L)
      · go_wp2
        go_quiet (fail)
        go_wp2_with (at_builtin; refine wpList_own_append rfl _ _ 33 rfl w.heap.size 3 i0 (.int .i64 0) 8 Yba.underlying33 hi0 hz0 hz1 hz2 rfl _ (arf (fun j => tx (it nx t j)) k) rfl ?own ⟨wr.heap.size, 0, none⟩ 1 1 [.int .i64 (tx (it nx t k))] rfl rfl ?c1 ?c2 ?c3 ?c4 ?c5 ?_)
        case own => exact (R.own.below (below_drewN (Below.refl _ _) _)).below ((Below.refl _ _).alloc (Nat.le_refl _) _)
        case c1 => exact lit_news (wr.drewN _) _ _
        case c2 => intro u hu; simp at hu; subst hu; rfl
        case c3 => rw [arf_length]; simp; unfold maxLen; omega
        case c4 => rw [arf_length]; simp; omega
        case c5 => have := R.below.size; simp; omega
        intro v' w1 hown hgrow hrow
        have hb1 : Below w.heap.size w w1 := ((below_drewN R.below _).alloc R.below.size _).grown hgrow (by have := R.below.size; simp; omega) (fun j hj => by simp [Value.ownBlock] at hj; omega)
        obtain ⟨y1, y2⟩ := lift w1 hb1
        replace hown := (show Own w1 w.heap.size v' (arf (fun j => tx (it nx t j)) (k + 1)) by rw [arf_succ]; exact hown)
        obtain ⟨g1, o1, c1, hv1, _⟩ := hown.form (by rw [arf_length]; omega)
        rw [arf_length] at hv1
        subst hv1
        clear hgrow hrow lift
        go_wp2
        go_roundw
        case rel => exact ⟨k + 1, by omega, by omega, by rw [HS.out, if_pos hx], rfl, ⟨hb1, hown⟩⟩
        case measure => simp [lenOf]; omega
      · go_wp2
        go_quiet (fail)
        go_wp2_with (at_builtin; refine wpList_own_append rfl _ _ 33 rfl w.heap.size 3 i0 (.int .i64 0) 8 Yba.underlying33 hi0 hz0 hz1 hz2 rfl _ (arf (fun j => tx (it nx t j)) k) rfl ?own ⟨wr.heap.size, 0, none⟩ 1 1 [.int .i64 (tx (it nx t k))] rfl rfl ?c1 ?c2 ?c3 ?c4 ?c5 ?_)
        case own => exact (R.own.below (below_drewN (Below.refl _ _) _)).below ((Below.refl _ _).alloc (Nat.le_refl _) _)
        case c1 => exact lit_news (wr.drewN _) _ _
        case c2 => intro u hu; simp at hu; subst hu; rfl
        case c3 => rw [arf_length]; simp; unfold maxLen; omega
        case c4 => rw [arf_length]; simp; omega
        case c5 => have := R.below.size; simp; omega
        intro v' w1 hown hgrow hrow
        have hb1 : Below w.heap.size w w1 := ((below_drewN R.below _).alloc R.below.size _).grown hgrow (by have := R.below.size; simp; omega) (fun j hj => by simp [Value.ownBlock] at hj; omega)
        obtain ⟨y1, y2⟩ := lift w1 hb1
        replace hown := (show Own w1 w.heap.size v' (arf (fun j => tx (it nx t j)) (k + 1)) by rw [arf_succ]; exact hown)
        obtain ⟨g1, o1, c1, hv1, _⟩ := hown.form (by rw [arf_length]; omega)
        rw [arf_length] at hv1
        subst hv1
        clear hgrow hrow lift
        go_wp2
        go_roundw
        case rel => exact ⟨k + 1, by omega, by omega, by rw [HS.out, if_neg (by omega)], rfl, ⟨hb1, hown⟩⟩
        case measure => simp [lenOf]; omega
    · obtain rfl : k = m := by omega
      have e1 : (binOp .neq 28 (.pointer (some ⟨nd B (it nx t k), 0, none⟩)) (.pointer (some ⟨nd B t, 0, none⟩))).run Yba.prog wr = .ok (.bool false) wr := by rw [hc.back]; exact neq28_same wr _
      have mk : (Instr.makeSlice 33 (.int .i64 0) (.int .i64 ((k : Int) + 1))).run Yba.prog wr = .ok (.slice (some ⟨wr.heap.size, 0, none⟩) 0 (k + 1)) (wr.alloc (.cells (zeros (k + 1)) 3)) := mk33 0 (k + 1) (by omega) (by omega) wr
      have own0 := own_made wr w.heap.size (k + 1) R.below.size
      have bA := (Below.refl wr.heap.size wr).alloc (Nat.le_refl _) (.cells (zeros (k + 1)) 3)
      go_wp2_with (at_builtin; refine wpList_own_append rfl _ _ 33 rfl w.heap.size 3 i0 (.int .i64 0) 8 Yba.underlying33 hi0 hz0 hz1 hz2 rfl _ [] rfl own0 ⟨g, o + L, none⟩ (k - L) (c - L) ((arf (fun j => tx (it nx t j)) k).drop L) ?c0 rfl ?c1 ?c2 ?c3 ?c4 ?c5 ?_)
      case c0 => rw [List.length_drop, arf_length]
      case c1 =>
        intro j u hj
        rw [add_at, bA.cell (p := ⟨g, o + L + j, none⟩) hg2, Nat.add_assoc]
        exact hcell (L + j) u (by rw [List.getElem?_drop] at hj; exact hj)
      case c2 => exact fun u hu => arf_one _ k u (List.mem_of_mem_drop hu)
      case c3 => simp [arf_length]; unfold maxLen; omega
      case c4 => simp [arf_length]; omega
      case c5 => have := R.below.size; simp; omega
      intro v1 w1 own1 grow1 row1
      have b1 : Below wr.heap.size wr w1 := bA.grown grow1 (by simp) (fun j hj => by simp [Value.ownBlock] at hj; omega)
      have r1 : ∀ j, v1.ownBlock = some j → wr.heap.size ≤ j := fun j hj => by
        rcases row1 j hj with h | h
        · first | omega | (simp at h; omega)
        · simp [Value.ownBlock] at h; omega
      clear grow1 row1 own0 bA
      go_wp2_with (at_builtin; refine wpList_own_append rfl _ _ 33 rfl w.heap.size 3 i0 (.int .i64 0) 8 Yba.underlying33 hi0 hz0 hz1 hz2 rfl _ _ rfl own1 ⟨g, o, none⟩ L c ((arf (fun j => tx (it nx t j)) k).take L) ?c0 rfl ?c1 ?c2 ?c3 ?c4 ?c5 ?_)
      case c0 => rw [List.length_take, arf_length]; omega
      case c1 =>
        intro j u hj
        rw [add_at, b1.cell (p := ⟨g, o + j, none⟩) hg2]
        refine hcell j u ?_
        rw [List.getElem?_take] at hj
        split at hj
        · exact hj
        · simp at hj
      case c2 => exact fun u hu => arf_one _ k u (List.mem_of_mem_take hu)
      case c3 => simp [arf_length]; unfold maxLen; omega
      case c4 => simp [arf_length]; omega
      case c5 => have := R.below.size; have := b1.size; omega
      intro v2 w2 own2 grow2 row2
      have b2 : Below wr.heap.size wr w2 := b1.grown grow2 b1.size r1
      have r2 : ∀ j, v2.ownBlock = some j → wr.heap.size ≤ j := fun j hj => by
        rcases row2 j hj with h | h
        · have := b1.size; omega
        · exact r1 j h
      have z2 := (b2.cell (p := ⟨g, o + L, none⟩) hg2).trans z
      clear grow2 row2 own1 b1 r1 z
      go_wp2_with (at_builtin; refine wpList_own_append rfl _ _ 33 rfl w.heap.size 3 i0 (.int .i64 0) 8 Yba.underlying33 hi0 hz0 hz1 hz2 rfl _ _ rfl (own2.below ((Below.refl _ _).alloc (Nat.le_refl _) _)) ⟨w2.heap.size, 0, none⟩ 1 1 [.int .i64 (tx (it nx t L))] rfl rfl ?c1 ?c2 ?c3 ?c4 ?c5 ?_)
      case c1 => exact lit_news w2 _ _
      case c2 => intro u hu; simp at hu; subst hu; rfl
      case c3 => simp [arf_length]; unfold maxLen; omega
      case c4 => simp [arf_length]; omega
      case c5 => have := R.below.size; have := b2.size; simp; omega
      intro v3 w3 own3 grow3 row3
      have b3 : Below wr.heap.size wr w3 := (b2.alloc b2.size _).grown grow3 (by have := b2.size; simp; omega) r2
      clear grow3 row3 own2
      go_wp2
      go_ret
      refine ⟨v3, rfl, R.below.trans (b3.mono R.below.size), ?_⟩
      unfold rot
      rw [hL]
      simpa using own3
end Go.Proofs.Ybulkcagu
