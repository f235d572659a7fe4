import Derived.Test.YbulkcaggFixWalk
import Derived.Laws.IdiomCopy
namespace Go.Proofs.Ybulkcagg
open Go.RowKit
set_option linter.unusedVariables false
set_option linter.unusedSimpArgs false

theorem info3 : ∃ i, Yba.prog.info? 3 = some i ∧ i.zero = some (.int .i64 0) ∧ i.size = 1 ∧ i.bytes = 8 := by
  have h : (Yba.prog.info? 3).map (fun i => (i.zero, i.size, i.bytes)) = some (some (.int .i64 0), 1, 8) := by kernel_rfl
  cases hi : Yba.prog.info? 3 with
  | none => rw [hi] at h; simp at h
  | some i => rw [hi] at h; simp at h; exact ⟨i, rfl, h.1, h.2.1, h.2.2⟩

/-- Zeros: what 'make' lays. -/
def zeros (n : Nat) : Array Value := madeCells #[.int .i64 0] n
def zeroPins (n : Nat) : Array Value := madeCells #[.int .i64 0, .int .i64 0, .int .u64 0, .int .u64 0] (n * 4)

theorem mk22 (n : Nat) (hn : n ≤ 1024) (w : World) : (Instr.makeSlice 22 (.int .i64 n) (.int .i64 n)).run Yba.prog w = .ok (.slice (some ⟨w.heap.size, 0, none⟩) n n) (w.alloc (.cells (zeros n) 3)) := by
  obtain ⟨i, hi, hz, hs, hb⟩ := info3
  have h := run_make (P := Yba.prog) w 22 3 i _ Yba.underlying22 hi hz .i64 .i64 (n : Int) (n : Int) (by omega) (Int.le_refl _) (by rw [hb]; omega) (by omega)
  rw [hs, Nat.mul_one] at h
  exact h

theorem mk25 (n : Nat) (hn : n ≤ 1024) (w : World) : (Instr.makeSlice 25 (.int .i64 0) (.int .i64 n)).run Yba.prog w = .ok (.slice (some ⟨w.heap.size, 0, none⟩) 0 n) (w.alloc (.cells (zeroPins n) 29)) := by
  obtain ⟨i, hi, hz, hs, hb⟩ := info29'
  have h := run_make (P := Yba.prog) w 25 29 i _ Yba.underlying25 hi hz .i64 .i64 (0 : Int) (n : Int) (by omega) (by omega) (by rw [hb]; omega) (by omega)
  rw [hs] at h
  exact h

theorem Row.made (w : World) (n : Nat) : Row (w.alloc (.cells (zeros n) 3)) w.heap.size (List.replicate n 0) := by
  refine ⟨⟨by simp, fun j hj => ?_⟩, fun j => by simp⟩
  simp only [List.length_replicate] at hj
  rw [World.cell?_alloc_new]
  simp [zeros, madeCells, hj, nth, Nat.mod_one]

theorem ownsRow_pins (w : World) (B n : Nat) (hn : n ≤ 1024) (hB : B ≤ w.heap.size) : (w.alloc (.cells (zeroPins n) 29)).ownsRow B 29 4 (.slice (some ⟨w.heap.size, 0, none⟩) 0 n) 0 [] :=
  World.ownsRow_made w _ n hB (by unfold maxLen; omega) (by simp [zeroPins, size_madeCells])

/-- The elements of a slice of ints that came in. -/
def InRow (w : World) (a : Option Addr) (zs : List Int) : Prop :=
  zs.length = 0 ∨ ∃ b o, a = some ⟨b, o, none⟩ ∧ b < w.heap.size ∧ ∀ j, j < zs.length → w.cell? ⟨b, o + j, none⟩ = some (.int .i64 (nth zs j))

theorem InRow.below {w w' : World} {a : Option Addr} {zs : List Int} (h : InRow w a zs) (hb : Below w.heap.size w w') : InRow w' a zs := by
  rcases h with h | ⟨b, o, h1, h2, h3⟩
  · exact .inl h
  · exact .inr ⟨b, o, h1, Nat.lt_of_lt_of_le h2 hb.size, fun j hj => by rw [hb.cell (p := ⟨b, o + j, none⟩) h2]; exact h3 j hj⟩

theorem size3 : (Yba.prog.info? 3).map (·.size) = some 1 := by kernel_rfl

theorem one_ints (zs : List Int) : ∀ v ∈ zs.map (Value.int .i64), v.oneCell' = true := by
  intro v hv
  obtain ⟨x, _, rfl⟩ := List.mem_map.1 hv
  rfl

theorem run_copy (w : World) (N : Nat) (a : Option Addr) (c : Nat) (zs : List Int) (h : Row w N (List.replicate zs.length 0)) (hi : InRow w a zs) (ty : TypeId) :
    ∃ w1, (Builtin.copy_ #[22, 22] ty #[.slice (some ⟨N, 0, none⟩) zs.length zs.length, .slice a zs.length c]).run Yba.prog w = .ok (.int .i64 zs.length) w1 ∧ Row w1 N zs ∧ Kept (fun k => k = N) w w1 ∧ w1.heap.size = w.heap.size := by
  rcases hi with hi | ⟨b, o, rfl, hb, hcell⟩
  · refine ⟨w, ?_, ?_, Kept.refl _ _, rfl⟩
    · have := run_copy_none (P := Yba.prog) w 22 22 ty 3 (some ⟨N, 0, none⟩) a zs.length zs.length zs.length c Yba.underlying22 size3 (by simp [hi])
      rw [this, hi]; rfl
    · exact ⟨⟨h.ints.1, fun j hj => by omega⟩, h.free⟩
  · have hl : (zs.map (Value.int .i64)).length = zs.length := by simp
    have hcp := run_copy_cells (P := Yba.prog) w 22 22 ty 3 N 0 zs.length zs.length ⟨b, o, none⟩ zs.length c (zs.map (Value.int .i64)) Yba.underlying22 size3 (by rw [hl]; simp)
      (fun j v hv => by
        rw [List.getElem?_map] at hv
        obtain ⟨x, hx, rfl⟩ := Option.map_eq_some_iff.1 hv
        have hj : j < zs.length := by
          rcases Nat.lt_or_ge j zs.length with h | h
          · exact h
          · rw [List.getElem?_eq_none h] at hx; simp at hx
        have ea : (⟨b, o, none⟩ : Addr).add j = ⟨b, o + j, none⟩ := by unfold Addr.add; split <;> simp_all
        rw [ea, hcell j hj]
        simp [nth, hx])
      (fun j hj => by rw [hl] at hj; rw [Nat.zero_add, h.ints.2 j (by simpa using hj)]; rfl) (fun j _ => by rw [Nat.zero_add]; exact h.free j) (one_ints zs)
    have hk := setCells_kept N (zs.map (Value.int .i64)) 0 w
    refine ⟨_, by rw [hcp, hl]; rfl, ⟨⟨Nat.lt_of_lt_of_le h.ints.1 hk.size, fun j hj => ?_⟩, fun j => by rw [World.frozen?_setCells]; exact h.free j⟩, hk, ?_⟩
    · have := World.cell?_setCells_in N (zs.map (Value.int .i64)) 0 w (fun i hi => by rw [hl] at hi; rw [Nat.zero_add, h.ints.2 i (by simpa using hi)]; rfl) j (by simpa using hj)
      rw [Nat.zero_add] at this
      rw [this]
      simp [nth, hj]
    · have : ∀ (vs : List Value) (o : Nat) (w : World), (w.setCells N o vs).heap.size = w.heap.size := by
        intro vs
        induction vs with
        | nil => intro o w; rfl
        | cons v r ih => intro o w; rw [World.setCells, ih]; simp [World.setCell]
      exact this _ _ _

/-- An 'append' whose run is known. -/
theorem wpList_append_run {P : Program} {w : World} {ops : Array Oper} {rest : List Oper} {o : Oper} {a : Act} {Q : Exit → Act → World → Prop} (hgd : o.guard = none) (s x : Operand) (t : TypeId)
    (ho : o.op = .call { callee := .builtin .append, args := #[s, x], argTypes := #[t, t] }) (v u : Value) (hs : a.eval s = v) (hx : a.eval x = u) {v' : Value} {w' : World}
    (hr : (Builtin.append_ #[t, t] o.type #[v, u]).run P w = .ok v' w') (h : wpList P ops Q rest (a.put o.dst v') w') : wpList P ops Q (o :: rest) a w :=
  wpList_plain hgd fun _ hK => by
    unfold Oper.wp execOp
    simp only [ho, resolve, invoke, builtin, Sem.run_bind, Sem.run_pure, Result.andThen_ok, List.map_toArray, List.map_cons, List.map_nil, hs, hx, hr]
    exact hK _ _ h
end Go.Proofs.Ybulkcagg
