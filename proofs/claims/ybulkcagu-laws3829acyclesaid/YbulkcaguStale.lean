import Derived.Test.YbulkcaguHunt
namespace Go.Proofs.Ybulkcagu
open Go.RowKit
set_option linter.unusedVariables false
set_option linter.unusedSimpArgs false

/-- append onto a slice of the call's own, as one step of a region that draws. -/
theorem step_own_append {P : Program} {ops : Array Oper} {o : Oper} {a : Act} {w : World} {K : Act → World → Prop} {Q : Exit → Act → World → Prop} {E : Prop}
    (hg : o.guard = none) (s x : Operand) (t : TypeId) (hop : o.op = Op.call { callee := Callee.builtin Builtin.append, args := #[s, x], argTypes := #[t, t] })
    (base : Nat) (e : TypeId) (i : TypeInfo) (z : Value) (bytes : Nat) (ht : P.underlying t = some (.slice e)) (hi : P.info? e = some i) (hz : i.zero = some z) (hsize : i.size = 1) (hby : i.bytes = bytes) (hzs : z.cells.size = 1)
    (v : Value) (xs : List Value) (hs : a.eval s = v) (hown : Own w base v xs) (ad : Addr) (u : Value) (hx : a.eval x = .slice (some ad) 1 1) (hnews : ∀ j y, [u][j]? = some y → w.cell? (ad.add j) = some y) (h1 : u.oneCell' = true)
    (hl : xs.length ≤ 100000) (hb : bytes = 8) (hbase : base ≤ w.heap.size)
    (hK : ∀ v' w', Own w' base v' (xs ++ [u]) → w.grownBy w' v.ownBlock → (∀ k, v'.ownBlock = some k → w.heap.size ≤ k ∨ v.ownBlock = some k) → K (a.put o.dst v') w') :
    if Region.wanted o (yielded ops a.tmps) = true then Oper.wp P o a w K Q else E := by
  obtain ⟨v', w', hr, r1, r2, r3⟩ := own_append (P := P) w base t o.type e i z bytes ht hi hz hsize hby hzs v xs hown ad 1 [u] hnews (by simpa using h1) (by simp; unfold maxLen; omega) (by subst hb; simp; omega) hbase
  exact step_append_run hg s x t hop v _ hs hx hr (hK v' w' r1 r2 r3)

/-- What is kept while the net is made: what was there ahead of it, and the row of parents. -/
structure Step (B n : Nat) (w w' : World) : Prop where
  os : w'.os = w.os
  tape : w'.tape = w.tape
  output : w'.output = w.output
  size : w.heap.size ≤ w'.heap.size
  block : ∀ k, k < B ∨ k = nd B n → k < w.heap.size → w'.heap[k]? = w.heap[k]?

theorem Step.refl (B n : Nat) (w : World) : Step B n w w := ⟨rfl, rfl, rfl, Nat.le_refl _, fun _ _ _ => rfl⟩
theorem Step.trans {B n : Nat} {a b c : World} (h : Step B n a b) (k : Step B n b c) : Step B n a c :=
  ⟨k.os.trans h.os, k.tape.trans h.tape, k.output.trans h.output, Nat.le_trans h.size k.size, fun i hi hs => (k.block i hi (Nat.lt_of_lt_of_le hs h.size)).trans (h.block i hi hs)⟩
theorem Step.below {B n : Nat} {a b : World} (h : Step B n a b) (hB : B ≤ a.heap.size) : Below B a b := ⟨h.os, h.tape, h.output, h.size, fun k hk => h.block k (.inl hk) (by omega)⟩
theorem Step.of {B n : Nat} {a b : World} (h : Below a.heap.size a b) : Step B n a b := ⟨h.os, h.tape, h.output, h.size, fun k _ hk => h.block k hk⟩
theorem Step.set {B n i j : Nat} {w : World} {u : Value} (hi : i < n) : Step B n w (w.setCell ⟨nd B i, j, none⟩ u) :=
  ⟨rfl, rfl, rfl, by simp [World.setCell], fun k hk _ => Below.heap_setCell _ _ _ _ (by show k ≠ nd B i; rcases hk with h | h <;> unfold nd at * <;> omega)⟩

/-- The end of a push: a request in its node's row. -/
theorem push_end {B n q s d : Nat} {tx : Nat → Int} {rq : Nat → Option Nat} {ws : Nat → List (Nat × Nat)} {av : Nat → Value} {wr wA w3 : World} {v : Value} (hn : Net wr B n tx rq ws av) (hd : d < n) (hs : s < n) (hq : wr.heap.size ≤ q)
    (hb : Below wr.heap.size wr wA) (hr : ReqAt wA B q s d) (grow : wA.grownBy w3 (av d).ownBlock) (own : Own w3 (B + n + 2) v (rowOf (ws d) ++ [.pointer (some ⟨q, 0, none⟩)])) (row : ∀ k, v.ownBlock = some k → wA.heap.size ≤ k ∨ (av d).ownBlock = some k) :
    Net (w3.setCell ⟨nd B d, 5, none⟩ v) B n tx rq (fun i => if i = d then ws d ++ [(q, s)] else ws i) (fun i => if i = d then v else av i) ∧ Step B n wr (w3.setCell ⟨nd B d, 5, none⟩ v) := by
  have hnA := hn.below hb
  have hne : ∀ j, j < n → (av j).ownBlock ≠ some q := fun j hj e => by have := ((hn.rows j hj).lt e).2; omega
  have hz := hn.size
  constructor
  · rw [rowOf_snoc] at own
    exact hnA.push hd hs (by omega) hr.lt hne (hr.kept grow.size (grow.block q hr.lt (fun e => hne d hd e.symm))) grow.size grow.block own row
  · refine (Step.of hb).trans (Step.trans ?_ (Step.set hd))
    refine ⟨grow.os, grow.tape, grow.output, grow.size, fun k hk hlt => grow.block k hlt (fun e => ?_)⟩
    have := ((hn.rows d hd).lt e.symm).1
    rcases hk with h | h
    · omega
    · unfold nd at h; omega

/-- The cell that the push writes, as the append leaves it. -/
theorem push_cell {B n d : Nat} {tx : Nat → Int} {rq : Nat → Option Nat} {ws : Nat → List (Nat × Nat)} {av : Nat → Value} {wr wA w3 : World} (hn : Net wr B n tx rq ws av) (hd : d < n) (hb : Below wr.heap.size wr wA) (grow : wA.grownBy w3 (av d).ownBlock) :
    w3.cell? ⟨nd B d, 5, none⟩ = some (av d) ∧ w3.frozen? ⟨nd B d, 5, none⟩ = false ∧ w3.cell? ⟨B, d, none⟩ = some (.pointer (some ⟨nd B d, 0, none⟩)) := by
  have hnA := hn.below hb
  have e : w3.heap[nd B d]? = wA.heap[nd B d]? := grow.block _ (hnA.lt hd) (fun e => by have := ((hn.rows d hd).lt e.symm).1; unfold nd at this; omega)
  have e' : w3.heap[B]? = wA.heap[B]? := grow.block _ (by have := hnA.size; omega) (fun e => by have := ((hn.rows d hd).lt e.symm).1; omega)
  exact ⟨(World.cell?_of_block (w := wA) (a := ⟨nd B d, 5, none⟩) e).trans (hnA.wait d hd), (World.frozen?_of_block (w := wA) (a := ⟨nd B d, 5, none⟩) e).trans (hnA.free hd 5), (World.cell?_of_block (w := wA) (a := ⟨B, d, none⟩) e').trans (hnA.nodes d hd)⟩

theorem Own.form1 {w : World} {b : Nat} {v u : Value} {xs : List Value} (h : Own w b v (xs ++ [u])) : ∃ g o c, v = .slice (some ⟨g, o, none⟩) (xs.length + 1) c := by
  obtain ⟨g, o, c, hv, _⟩ := h.form (by simp)
  exact ⟨g, o, c, by rw [hv]; simp⟩

theorem push_len {n d q s M : Nat} {ws : Nat → List (Nat × Nat)} (h : ∀ i, i < n → (ws i).length ≤ M) : ∀ i, i < n → (if i = d then ws d ++ [(q, s)] else ws i).length ≤ M + 1 := by
  intro i hi
  have := h i hi
  by_cases e : i = d
  · subst e; simp; omega
  · simp [e]; omega
theorem push_sub {d q s : Nat} {ws0 ws : Nat → List (Nat × Nat)} (h : ∀ i p, p ∈ ws0 i → p ∈ ws i) : ∀ i p, p ∈ ws0 i → p ∈ (if i = d then ws d ++ [(q, s)] else ws i) := by
  intro i p hp
  have := h i p hp
  by_cases e : i = d
  · subst e; simp [this]
  · simp [e, this]

/-- A request as it is made. -/
theorem req_new (w : World) (B s d : Nat) (x y : Value) (c : Array Value) (t : TypeId) (h0 : c[0]? = some (.pointer (some ⟨nd B s, 0, none⟩))) (h8 : c[8]? = some (.pointer (some ⟨nd B d, 0, none⟩))) : ReqAt (w.alloc (.cells c t)) B w.heap.size s d :=
  ⟨by simp, by rw [World.cell?_alloc_new]; exact h0, by rw [World.cell?_alloc_new]; exact h8, Plain.new w c t⟩

/-- The cells of a request, as it is made. -/
def reqCells (B s d : Nat) : Array Value := #[.pointer (some ⟨nd B s, 0, none⟩), .int .i64 0, .int .i64 0, .int .i64 0, .string { data := #[] }, .pointer none, .int .i64 0, .int .i64 0, .pointer (some ⟨nd B d, 0, none⟩)]

theorem req_made (wr : World) (B s d : Nat) : ∃ w1, (wr.alloc (.cells #[.pointer (some ⟨nd B s, 0, none⟩), .int .i64 0, .int .i64 0, .int .i64 0, .string { data := #[] }, .pointer none, .int .i64 0, .int .i64 0, .pointer (some ⟨nd B d, 0, none⟩)] 41)).drew = w1 ∧ Below wr.heap.size wr w1 ∧ ReqAt w1 B wr.heap.size s d :=
  ⟨_, rfl, ((Below.refl wr.heap.size wr).alloc (Nat.le_refl _) _).drew, (req_new wr B s d .nilIface .nilIface (reqCells B s d) 41 rfl rfl).kept (Nat.le_refl _) rfl⟩

/-- Numbers that came in, below block B. -/
def InU (w : World) (B : Nat) (a : Option Addr) (zs : Nat → Nat) (len : Nat) : Prop :=
  len = 0 ∨ ∃ b o, a = some ⟨b, o, none⟩ ∧ b < B ∧ ∀ j, j < len → w.cell? ⟨b, o + j, none⟩ = some (.int .u16 (zs j))

set_option maxRecDepth 100000 in
set_option maxHeartbeats 4000000 in
theorem stale_any {w : World} {B n : Nat} {tx : Nat → Int} {rq : Nat → Option Nat} {ws : Nat → List (Nat × Nat)} {av : Nat → Value} (a : Option Addr) (len c : Nat) (zs : Nat → Nat) (L : Nat) (hn : Net w B n tx rq ws av) (hN : n ≤ 301) (h0 : 0 < n) (hlen : len ≤ 300) (hL : L ≤ 2000)
    (hws : ∀ i, i < n → (ws i).length ≤ L) (hz : ∀ j, j < len → zs j < 65536) (hi : InU w B a zs len) :
    Calls Yba.prog 5 #[.slice (some ⟨B, 0, none⟩) n n, .slice a len c] w fun e w' => e = .returned (.tuple #[]) ∧ Step B n w w' ∧ ∃ ws' av', Net w' B n tx rq ws' av' ∧ (∀ i, i < n → (ws' i).length ≤ L + len) ∧ ∀ i p, p ∈ ws i → p ∈ ws' i := by
  obtain ⟨i0, hi0, hz0, hz1, hz2⟩ := info29
  go_enter Yba.func5, Yba.ntmps5
  go_wp2
  go_loopw [14] (fun jv wr => ∃ j ws' av', j ≤ len ∧ jv = .int .i64 (j : Nat) ∧ Step B n w wr ∧ Net wr B n tx rq ws' av' ∧ (∀ i, i < n → (ws' i).length ≤ L + j) ∧ ∀ i p, p ∈ ws i → p ∈ ws' i) (fun jv _ => len - (intOf jv).toNat)
  case atStart => exact ⟨0, ws, av, Nat.zero_le _, rfl, Step.refl _ _ _, hn, hws, fun _ _ h => h⟩
  case round =>
    obtain ⟨j, ws', av', hj, rfl, hst, hn', hws', hsub⟩ := hrel
    by_cases hlt : j < len
    · rcases hi with hi | ⟨b, o, rfl, hb, hcell⟩
      · omega
      have hsz := hn.size
      have y0 := ((hst.below (by omega)).cell (p := ⟨b, o + j, none⟩) hb).trans (hcell j hlt)
      have hzj := hz j hlt
      generalize zs j = x at *
      have hji : (j : Int) < (len : Int) := by omega
      obtain ⟨s, hs⟩ : ∃ s, x % n = s := ⟨_, rfl⟩
      obtain ⟨d, hd⟩ : ∃ d, x / n % n = d := ⟨_, rfl⟩
      obtain ⟨y, hy⟩ : ∃ y, x / n = y := ⟨_, rfl⟩
      have hsn : s < n := by rw [← hs]; exact Nat.mod_lt _ h0
      have hdn : d < n := by rw [← hd]; exact Nat.mod_lt _ h0
      have hyx : y ≤ x := by rw [← hy]; exact Nat.div_le_self _ _
      have r1 : ((x : Int)).tmod (n : Int) = (s : Int) := by rw [← hs]; exact (Int.ofNat_tmod x n).symm
      have r2 : ((x : Int)).tdiv (n : Int) = (y : Int) := by rw [← hy]; exact (Int.ofNat_tdiv x n).symm
      have r3 : ((y : Int)).tmod (n : Int) = (d : Int) := by rw [← hd, ← hy]; exact (Int.ofNat_tmod _ n).symm
      have c1 := hn'.nodes s hsn
      have c2 := hn'.nodes d hdn
      have hsi : (s : Int) < (n : Int) := by omega
      have hdi : (d : Int) < (n : Int) := by omega
      have hn0 : ¬ ((n : Int) = 0) := by omega
      clear hs hd hy hcell hz
      go_wp2
      go_region
      obtain ⟨w1, hw1, hb1, hr1⟩ := req_made wr B s d
      rw [hw1]
      clear hw1 c1 c2 y0
      have hn1 := hn'.below hb1
      have c2 := hn1.nodes d hdn
      have c5 := hn1.wait d hdn
      have ltd := hn1.lt hdn
      have ltB : B < w1.heap.size := by have := hn1.size; omega
      go_wp2
      go_region_law ((refine step_own_append rfl (.tmp 48) (.tmp 50) 30 rfl (B + n + 2) 29 i0 (.pointer none) 8 Yba.underlying30 hi0 hz0 hz1 hz2 rfl (av' d) (rowOf (ws' d)) (by simp [Act.eval]) ?_ ⟨w1.heap.size, 0, none⟩ (.pointer (some ⟨wr.heap.size, 0, none⟩)) (by simp [Act.eval]) ?_ rfl ?_ rfl ?_ ?_); (exact (hn1.rows d hdn).below (((Below.refl w1.heap.size w1).alloc (Nat.le_refl _) _).drew)); (exact lit_news w1 _ _); (rw [rowOf_length]; have := hws' d hdn; omega); (have := hn1.size; simp; omega); (intro v' w3 hown hgrow hrow); (obtain ⟨e1, e2, e3⟩ := push_cell hn1 hdn (((Below.refl w1.heap.size w1).alloc (Nat.le_refl _) _).drew) hgrow); (obtain ⟨g1, o1, cap1, hv⟩ := hown.form1); (subst hv))
      all_goals
        obtain ⟨nt, st⟩ := push_end hn' hdn hsn (Nat.le_refl _) (hb1.trans ((((Below.refl w1.heap.size w1).alloc (Nat.le_refl _) _).drew).mono hb1.size)) (hr1.kept (by simp) (Below.heap_alloc _ _ _ hr1.lt)) hgrow hown hrow
        go_wp2
        go_roundw
        case rel => exact ⟨j + 1, _, _, by omega, by go_num, hst.trans st, nt, push_len hws', push_sub hsub⟩
        case measure => simp [intOf]; omega
    · obtain rfl : j = len := by omega
      go_wp2
      go_end0
      exact ⟨rfl, hst, ws', av', hn', hws', hsub⟩
end Go.Proofs.Ybulkcagu
