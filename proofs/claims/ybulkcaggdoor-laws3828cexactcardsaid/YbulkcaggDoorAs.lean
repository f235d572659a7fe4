import Derived.Test.YbulkcaggDoorFresh
import Derived.WalkKit
import Derived.LaidEql
import Derived.Stop.Asserts
import Derived.RowKitTokens
namespace Go.Proofs.YbulkcaggDoor
open Go.RowKit Go.Extern.Stop Go.Stop Go.Extern

/-- errors.As(nil, target). -/
theorem as_nil (t : Value) (w : World) :
    Calls Ybad.prog 8 #[.nilIface, t] w fun e w' => e = .returned (.bool false) ∧ w' = w := by
  go_enter Ybad.func8, Ybad.ntmps8
  go_wp2
  go_ret
  exact ⟨rfl, rfl⟩

/-! ### Closed facts on the model's entries for reflectlite, at this program's types: 30: *RangeError, 32: **RangeError, 26: error, 69: reflectlite's rtype, 51: reflectlite's Value; 4: how many package-level variables the dump has. Turned to this program from the guide's worked example toyas. -/
theorem AsvalueOf27 (t : Addr) (w : World) : (ReflectliteValue.unpack (.iface 32 (.pointer (some t)))).run Ybad.prog w
    = .ok (.agg #[.pointer (some ⟨4, 32, none⟩), .pointer (some ⟨w.heap.size, 0, none⟩), .int .u64 150]) (w.alloc (.cells #[.pointer (some t)] 32)) := by kernel_rfl
theorem Astype27 (a : Addr) (w : World) : (ReflectliteValue.methodAny (ReflectliteValue.valueError "reflectlite.Value.Type" 0) (fun t _ _ _ => ReflectliteType.toType t) #[.agg #[.pointer (some ⟨4, 32, none⟩), .pointer (some a), .int .u64 150]]).run Ybad.prog w
    = .ok (.iface 69 (.agg #[.pointer (some ⟨4, 32, none⟩)])) w := by kernel_rfl
theorem AsmethodKind (h : Value) (w : World) : (Go.method 214 69 (.agg #[h]) "Kind").run Ybad.prog w = .ok (39, h) w := by kernel_rfl
theorem Askind27 (w : World) : ((ReflectliteType.abiMethod fun t => (fun a : Nat => Value.int IntKind.u8 (a : Int)) <$> Rtype.kind t) #[.pointer (some ⟨4, 32, none⟩)]).run Ybad.prog w = .ok (.int .u8 22) w := by kernel_rfl
theorem Askind25 (w : World) : ((ReflectliteType.abiMethod fun t => (fun a : Nat => Value.int IntKind.u8 (a : Int)) <$> Rtype.kind t) #[.pointer (some ⟨4, 30, none⟩)]).run Ybad.prog w = .ok (.int .u8 22) w := by kernel_rfl

/-! ### THE ENTRIES THAT READ OR WRITE MEMORY: laws with a premise on the cell (after Derived/Lib/ReflectliteSlice.lean's manner: each unfolding a lemma of its own, by rfl) -/
theorem rlm (z : Sem Value) (f : TypeId → Addr → Nat → Nat → Sem Value) (v : Value) :
    ReflectliteValue.method z f #[v] = (do match ← ReflectliteValue.parts v with | none => z | some (t, a, fl) => f t a fl (fl % 32)) := rfl
theorem Asparts27 (a : Addr) (w : World) : (ReflectliteValue.parts (.agg #[.pointer (some ⟨4, 32, none⟩), .pointer (some a), .int .u64 150])).run Ybad.prog w = .ok (some (32, a, 150)) w := by kernel_rfl
/-- (Value).IsNil at the Value of a **p.E that is not nil. -/
theorem AsisNil27 (a p : Addr) (W : World) (ha : W.cell? a = some (.pointer (some p))) :
    (ReflectliteValue.method (ReflectliteValue.valueError "reflectlite.Value.IsNil" 0) ReflectliteValue.isNil #[.agg #[.pointer (some ⟨4, 32, none⟩), .pointer (some a), .int .u64 150]]).run Ybad.prog W = .ok (.bool false) W := by
  rw [rlm]
  simp only [Sem.run_bind, Asparts27, Result.andThen]
  simp [ReflectliteValue.isNil, loadVar, isAgg, underlying, Ybad.underlying32, ha, Result.andThen]

theorem AsmethodElem (h : Value) (w : World) : (Go.method 214 69 (.agg #[h]) "Elem").run Ybad.prog w = .ok (50, .agg #[h]) w := by kernel_rfl
theorem AsmethodImplements (h : Value) (w : World) : (Go.method 214 69 (.agg #[h]) "Implements").run Ybad.prog w = .ok (51, .agg #[h]) w := by kernel_rfl
theorem AsmethodAssignableTo (h : Value) (w : World) : (Go.method 214 69 (.agg #[h]) "AssignableTo").run Ybad.prog w = .ok (48, .agg #[h]) w := by kernel_rfl
theorem Aselem27 (w : World) : (ReflectliteType.method ReflectliteType.elem #[.agg #[.pointer (some ⟨4, 32, none⟩)]]).run Ybad.prog w = .ok (.iface 69 (.agg #[.pointer (some ⟨4, 30, none⟩)])) w := by kernel_rfl
theorem Asimplements25 (w : World) : (ReflectliteType.relation "Implements" ReflectliteType.implements_ #[.agg #[.pointer (some ⟨4, 30, none⟩)], .iface 69 (.agg #[.pointer (some ⟨4, 26, none⟩)])]).run Ybad.prog w = .ok (.bool true) w := by kernel_rfl
theorem AstypeOf25 (v : Value) (w : World) : (ReflectliteType.typeOf #[.iface 30 v]).run Ybad.prog w = .ok (.iface 69 (.agg #[.pointer (some ⟨4, 30, none⟩)])) w := by kernel_rfl
theorem Asassignable25 (w : World) : (ReflectliteType.relation "AssignableTo" ReflectliteType.assignableTo #[.agg #[.pointer (some ⟨4, 30, none⟩)], .iface 69 (.agg #[.pointer (some ⟨4, 30, none⟩)])]).run Ybad.prog w = .ok (.bool true) w := by kernel_rfl
theorem AsvalueOf25 (e : Addr) (w : World) : (ReflectliteValue.unpack (.iface 30 (.pointer (some e)))).run Ybad.prog w
    = .ok (.agg #[.pointer (some ⟨4, 30, none⟩), .pointer (some ⟨w.heap.size, 0, none⟩), .int .u64 150]) (w.alloc (.cells #[.pointer (some e)] 30)) := by kernel_rfl

theorem AselemOf27 (w : World) : (Rtype.elem? 32).run Ybad.prog w = .ok (some 30) w := by kernel_rfl
theorem Asmk25 (p : Addr) (w : World) : (ReflectliteValue.mk 30 p ReflectliteValue.flagAddr).run Ybad.prog w = .ok (.agg #[.pointer (some ⟨4, 30, none⟩), .pointer (some p), .int .u64 406]) w := by kernel_rfl
/-- (Value).Elem at the Value of a **p.E that is not nil: the Value of the *p.E variable that it points to, addressable. -/
theorem AselemV27 (a p : Addr) (W : World) (ha : W.cell? a = some (.pointer (some p))) :
    (ReflectliteValue.method (ReflectliteValue.valueError "reflectlite.Value.Elem" 0) ReflectliteValue.elem #[.agg #[.pointer (some ⟨4, 32, none⟩), .pointer (some a), .int .u64 150]]).run Ybad.prog W
      = .ok (.agg #[.pointer (some ⟨4, 30, none⟩), .pointer (some p), .int .u64 406]) W := by
  rw [rlm]
  simp only [Sem.run_bind, Asparts27, Result.andThen]
  simp [ReflectliteValue.elem, loadVar, isAgg, underlying, Ybad.underlying32, ha, Result.andThen, AselemOf27, Asmk25]
/-- (Value).Set, laid open; what it does where it cannot set is left as it is. -/
theorem rls (v x : Value) : ∃ (z1 : Sem Value) (z2 : Sem PUnit) (other : TypeId → Addr → TypeId → Value → Sem Value), ReflectliteValue.set #[v, x] = (do
    let (some (dst, a, fl), some (src, b, _)) := (← ReflectliteValue.parts v, ← ReflectliteValue.parts x) | z1
    if fl / ReflectliteValue.flagAddr % 2 == 0 then z2
    let val ← loadVar src b
    if ← Rtype.directlyAssignable dst src then do
      storeVar dst a val
      pure (.tuple #[])
    else other dst a src val) := ⟨_, _, _, rfl⟩
theorem Asparts25a (a : Addr) (w : World) : (ReflectliteValue.parts (.agg #[.pointer (some ⟨4, 30, none⟩), .pointer (some a), .int .u64 406])).run Ybad.prog w = .ok (some (30, a, 406)) w := by kernel_rfl
theorem Asparts25 (a : Addr) (w : World) : (ReflectliteValue.parts (.agg #[.pointer (some ⟨4, 30, none⟩), .pointer (some a), .int .u64 150])).run Ybad.prog w = .ok (some (30, a, 150)) w := by kernel_rfl
theorem Asdirect25 (w : World) : (Rtype.directlyAssignable 30 30).run Ybad.prog w = .ok true w := by kernel_rfl
theorem Assize25 (w : World) : (sizeOf 30).run Ybad.prog w = .ok 1 w := by kernel_rfl
/-- (Value).Set: the *p.E variable at 'ta' gets what the Value's own variable 'b' holds. -/
theorem Asset25 (ta b e : Addr) (old : Value) (W : World) (hb : W.cell? b = some (.pointer (some e))) (ht : W.cell? ta = some old) (hf : W.frozen? ta = false) :
    (ReflectliteValue.set #[.agg #[.pointer (some ⟨4, 30, none⟩), .pointer (some ta), .int .u64 406], .agg #[.pointer (some ⟨4, 30, none⟩), .pointer (some b), .int .u64 150]]).run Ybad.prog W
      = .ok (.tuple #[]) (W.setCell ta (.pointer (some e))) := by
  obtain ⟨z1, z2, other, hs⟩ := rls (.agg #[.pointer (some ⟨4, 30, none⟩), .pointer (some ta), .int .u64 406]) (.agg #[.pointer (some ⟨4, 30, none⟩), .pointer (some b), .int .u64 150])
  rw [hs]
  simp only [Sem.run_bind, Asparts25a, Asparts25, Result.andThen]
  simp [ReflectliteValue.flagAddr, loadVar, isAgg, underlying, Ybad.underlying30, hb, Result.andThen, Asdirect25, storeVar, Value.cells, storeCells, Addr.add]
  rw [run_store Ybad.prog W ta _ _ (by rfl)]
  simp [ht, hf]

set_option maxHeartbeats 4000000 in
theorem as_hit (e t : Addr) (old : Value) (w : World) (hg : w.cell? ⟨0, 0, none⟩ = some (.iface 69 (.agg #[.pointer (some ⟨4, 26, none⟩)]))) (ht0 : w.cell? t = some old) (hf0 : w.frozen? t = false) :
    Calls Ybad.prog 8 #[.iface 30 (.pointer (some e)), .iface 32 (.pointer (some t))] w fun ev w' => ev = .returned (.bool true) ∧ w' = ((((w.alloc (.cells #[.pointer (some t)] 32)).alloc (.cells #[.pointer (some ⟨4, 32, none⟩), .pointer (some ⟨w.heap.size, 0, none⟩), .int .u64 150] 51)).alloc (.cells #[.pointer (some ⟨4, 32, none⟩), .pointer (some ⟨w.heap.size, 0, none⟩), .int .u64 150] 51)).alloc (.cells #[.pointer (some e)] 30)).setCell t (.pointer (some e)) := by
  have h6 := @run_callFunc_extern Ybad.prog 12 _ (fun args => ReflectliteValue.unpack (args.getD 0 (.tuple #[]))) Ybad.func12 (by kernel_rfl) (by kernel_rfl) (by kernel_rfl) (by kernel_rfl)
  have h7 := @run_callFunc_extern Ybad.prog 13 _ (ReflectliteValue.methodAny (ReflectliteValue.valueError "reflectlite.Value.Type" 0) (fun t _ _ _ => ReflectliteType.toType t)) Ybad.func13 (by kernel_rfl) (by kernel_rfl) (by kernel_rfl) (by kernel_rfl)
  have h8 := @run_callFunc_extern Ybad.prog 14 _ (ReflectliteValue.method (ReflectliteValue.valueError "reflectlite.Value.IsNil" 0) ReflectliteValue.isNil) Ybad.func14 (by kernel_rfl) (by kernel_rfl) (by kernel_rfl) (by kernel_rfl)
  have h27 := @run_callFunc_extern Ybad.prog 39 _ (ReflectliteType.abiMethod fun t => do pure (.int .u8 (← Rtype.kind t))) Ybad.func39 (by kernel_rfl) (by kernel_rfl) (by kernel_rfl) (by kernel_rfl)
  have h37 := @run_callFunc_extern Ybad.prog 50 _ (ReflectliteType.method ReflectliteType.elem) Ybad.func50 (by kernel_rfl) (by kernel_rfl) (by kernel_rfl) (by kernel_rfl)
  have h38 := @run_callFunc_extern Ybad.prog 51 _ (ReflectliteType.relation "Implements" ReflectliteType.implements_) Ybad.func51 (by kernel_rfl) (by kernel_rfl) (by kernel_rfl) (by kernel_rfl)
  have h10 := @run_callFunc_extern Ybad.prog 19 _ ReflectliteType.typeOf Ybad.func19 (by kernel_rfl) (by kernel_rfl) (by kernel_rfl) (by kernel_rfl)
  have h35 := @run_callFunc_extern Ybad.prog 48 _ (ReflectliteType.relation "AssignableTo" ReflectliteType.assignableTo) Ybad.func48 (by kernel_rfl) (by kernel_rfl) (by kernel_rfl) (by kernel_rfl)
  have h11 := @run_callFunc_extern Ybad.prog 20 _ (ReflectliteValue.method (ReflectliteValue.valueError "reflectlite.Value.Elem" 0) ReflectliteValue.elem) Ybad.func20 (by kernel_rfl) (by kernel_rfl) (by kernel_rfl) (by kernel_rfl)
  have h12 := @run_callFunc_extern Ybad.prog 21 _ ReflectliteValue.set Ybad.func21 (by kernel_rfl) (by kernel_rfl) (by kernel_rfl) (by kernel_rfl)
  have tO := AstypeOf25
  have mA := AsmethodAssignableTo
  have a25 := Asassignable25
  have v25 := AsvalueOf25
  have f6 := AsvalueOf27
  have f7 := Astype27
  have mK := AsmethodKind
  have mE := AsmethodElem
  have mI := AsmethodImplements
  have k27 := Askind27
  have k25 := Askind25
  have e27 := Aselem27
  have i25 := Asimplements25
  have n8 := AsisNil27 ⟨w.heap.size, 0, none⟩ t ((w.alloc (.cells #[.pointer (some t)] 32)).alloc (.cells #[.pointer (some ⟨4, 32, none⟩), .pointer (some ⟨w.heap.size, 0, none⟩), .int .u64 150] 51)) (by simp)
  have hlt : 0 < w.heap.size := by
    rcases Nat.eq_zero_or_pos w.heap.size with h0 | h
    · simp [World.cell?, h0] at hg
    · exact h
  have hg2 : ((w.alloc (.cells #[.pointer (some t)] 32)).alloc (.cells #[.pointer (some ⟨4, 32, none⟩), .pointer (some ⟨w.heap.size, 0, none⟩), .int .u64 150] 51)).cell? ⟨0, 0, none⟩ = some (.iface 69 (.agg #[.pointer (some ⟨4, 26, none⟩)])) := by
    rw [World.cell?_alloc_lt _ _ ⟨0, 0, none⟩ (by simp), World.cell?_alloc_lt _ _ ⟨0, 0, none⟩ hlt]; exact hg
  have htl : t.block < w.heap.size := by
    rcases Nat.lt_or_ge t.block w.heap.size with h | h
    · exact h
    · simp [World.cell?, Array.getElem?_eq_none h] at ht0
  have el := AselemV27 ⟨w.heap.size, 0, none⟩ t (((w.alloc (.cells #[.pointer (some t)] 32)).alloc (.cells #[.pointer (some ⟨4, 32, none⟩), .pointer (some ⟨w.heap.size, 0, none⟩), .int .u64 150] 51)).alloc (.cells #[.pointer (some ⟨4, 32, none⟩), .pointer (some ⟨w.heap.size, 0, none⟩), .int .u64 150] 51)) (by rw [World.cell?_alloc_lt _ _ ⟨w.heap.size, 0, none⟩ (by simp; omega)]; simp)
  have st := Asset25 t ⟨w.heap.size + 1 + 1 + 1, 0, none⟩ e old ((((w.alloc (.cells #[.pointer (some t)] 32)).alloc (.cells #[.pointer (some ⟨4, 32, none⟩), .pointer (some ⟨w.heap.size, 0, none⟩), .int .u64 150] 51)).alloc (.cells #[.pointer (some ⟨4, 32, none⟩), .pointer (some ⟨w.heap.size, 0, none⟩), .int .u64 150] 51)).alloc (.cells #[.pointer (some e)] 30))
    (by rw [World.cell?_alloc_at _ _ _ _ (by simp)]; rfl)
    (by rw [World.cell?_alloc_lt _ _ t (by simp; omega), World.cell?_alloc_lt _ _ t (by simp; omega), World.cell?_alloc_lt _ _ t (by simp; omega), World.cell?_alloc_lt _ _ t htl]; exact ht0)
    (by rw [World.frozen?_alloc_old _ _ t (by simp; omega), World.frozen?_alloc_old _ _ t (by simp; omega), World.frozen?_alloc_old _ _ t (by simp; omega), World.frozen?_alloc_old _ _ t (Nat.ne_of_lt htl)]; exact hf0)
  go_enter Ybad.func8, Ybad.ntmps8
  go_wp2
  refine wp_loop_rounds 1 ?_
  rw [rounds_succ]
  go_wp2
  go_ret
  exact ⟨rfl, rfl⟩
end Go.Proofs.YbulkcaggDoor
