/-
  Seat b6613651aD: errors.As BY ITS CONTRACT AT A CONCRETE TARGET ('var valueErr *ValueError; errors.As(err, &valueErr)' where err holds a *ValueError): Go's own text of errors.As and errors.as is walked. After the guide's worked toy 'toyas' (its As text), turned to this program's numbers.
-/
import Derived.Test.Qxb6613651aDoorProg
import Derived.WalkKit
import Derived.LaidEql
import Derived.Stop.Asserts
import Derived.RowKitTokens
namespace Go.Proofs.Qxb6613651aDoor
open Go.RowKit Go.Extern.Stop Go.Stop Go.Extern

/-- errors.As(nil, target). -/
theorem as_nil (t : Value) (w : World) :
    Calls Tryd.prog 28 #[.nilIface, t] w fun e w' => e = .returned (.bool false) ∧ w' = w := by
  go_enter Tryd.func28, Tryd.ntmps28
  go_wp2
  go_ret
  exact ⟨rfl, rfl⟩

/-! ### CLOSED FACTS ON THE MODEL's ENTRIES FOR internal/reflectlite, at this program's types: 47: *cdni.ValueError · 57: **cdni.ValueError · 43: error · 78: reflectlite's rtype · 63: reflectlite's Value · 7: how many package-level variables the dump has -/
theorem Tryd.valueOf57 (t : Addr) (w : World) : (ReflectliteValue.unpack (.iface 57 (.pointer (some t)))).run Tryd.prog w
    = .ok (.agg #[.pointer (some ⟨7, 57, none⟩), .pointer (some ⟨w.heap.size, 0, none⟩), .int .u64 150]) (w.alloc (.cells #[.pointer (some t)] 57)) := by kernel_rfl
theorem Tryd.type57 (a : Addr) (w : World) : (ReflectliteValue.methodAny (ReflectliteValue.valueError "reflectlite.Value.Type" 0) (fun t _ _ _ => ReflectliteType.toType t) #[.agg #[.pointer (some ⟨7, 57, none⟩), .pointer (some a), .int .u64 150]]).run Tryd.prog w
    = .ok (.iface 78 (.agg #[.pointer (some ⟨7, 57, none⟩)])) w := by kernel_rfl
theorem Tryd.methodKind (h : Value) (w : World) : (Go.method 247 78 (.agg #[h]) "Kind").run Tryd.prog w = .ok (83, h) w := by kernel_rfl
theorem Tryd.kind57 (w : World) : ((ReflectliteType.abiMethod fun t => (fun a : Nat => Value.int IntKind.u8 (a : Int)) <$> Rtype.kind t) #[.pointer (some ⟨7, 57, none⟩)]).run Tryd.prog w = .ok (.int .u8 22) w := by kernel_rfl
theorem Tryd.kind47 (w : World) : ((ReflectliteType.abiMethod fun t => (fun a : Nat => Value.int IntKind.u8 (a : Int)) <$> Rtype.kind t) #[.pointer (some ⟨7, 47, none⟩)]).run Tryd.prog w = .ok (.int .u8 22) w := by kernel_rfl

/-! ### THE ENTRIES THAT READ OR WRITE MEMORY: laws with a premise on the cell (after Derived/Lib/ReflectliteSlice.lean's manner: each unfolding a lemma of its own, by rfl) -/
theorem rlm (z : Sem Value) (f : TypeId → Addr → Nat → Nat → Sem Value) (v : Value) :
    ReflectliteValue.method z f #[v] = (do match ← ReflectliteValue.parts v with | none => z | some (t, a, fl) => f t a fl (fl % 32)) := rfl
theorem Tryd.parts57 (a : Addr) (w : World) : (ReflectliteValue.parts (.agg #[.pointer (some ⟨7, 57, none⟩), .pointer (some a), .int .u64 150])).run Tryd.prog w = .ok (some (57, a, 150)) w := by kernel_rfl
/-- (Value).IsNil at the Value of a **ValueError that is not nil. -/
theorem Tryd.isNil57 (a p : Addr) (W : World) (ha : W.cell? a = some (.pointer (some p))) :
    (ReflectliteValue.method (ReflectliteValue.valueError "reflectlite.Value.IsNil" 0) ReflectliteValue.isNil #[.agg #[.pointer (some ⟨7, 57, none⟩), .pointer (some a), .int .u64 150]]).run Tryd.prog W = .ok (.bool false) W := by
  rw [rlm]
  simp only [Sem.run_bind, Tryd.parts57, Result.andThen]
  simp [ReflectliteValue.isNil, loadVar, isAgg, underlying, Tryd.underlying57, ha, Result.andThen]

theorem Tryd.methodElem (h : Value) (w : World) : (Go.method 247 78 (.agg #[h]) "Elem").run Tryd.prog w = .ok (93, .agg #[h]) w := by kernel_rfl
theorem Tryd.methodImplements (h : Value) (w : World) : (Go.method 247 78 (.agg #[h]) "Implements").run Tryd.prog w = .ok (94, .agg #[h]) w := by kernel_rfl
theorem Tryd.methodAssignableTo (h : Value) (w : World) : (Go.method 247 78 (.agg #[h]) "AssignableTo").run Tryd.prog w = .ok (91, .agg #[h]) w := by kernel_rfl
theorem Tryd.elem57 (w : World) : (ReflectliteType.method ReflectliteType.elem #[.agg #[.pointer (some ⟨7, 57, none⟩)]]).run Tryd.prog w = .ok (.iface 78 (.agg #[.pointer (some ⟨7, 47, none⟩)])) w := by kernel_rfl
theorem Tryd.implements47 (w : World) : (ReflectliteType.relation "Implements" ReflectliteType.implements_ #[.agg #[.pointer (some ⟨7, 47, none⟩)], .iface 78 (.agg #[.pointer (some ⟨7, 43, none⟩)])]).run Tryd.prog w = .ok (.bool true) w := by kernel_rfl
theorem Tryd.typeOf47 (v : Value) (w : World) : (ReflectliteType.typeOf #[.iface 47 v]).run Tryd.prog w = .ok (.iface 78 (.agg #[.pointer (some ⟨7, 47, none⟩)])) w := by kernel_rfl
theorem Tryd.assignable47 (w : World) : (ReflectliteType.relation "AssignableTo" ReflectliteType.assignableTo #[.agg #[.pointer (some ⟨7, 47, none⟩)], .iface 78 (.agg #[.pointer (some ⟨7, 47, none⟩)])]).run Tryd.prog w = .ok (.bool true) w := by kernel_rfl
theorem Tryd.valueOf47 (e : Addr) (w : World) : (ReflectliteValue.unpack (.iface 47 (.pointer (some e)))).run Tryd.prog w
    = .ok (.agg #[.pointer (some ⟨7, 47, none⟩), .pointer (some ⟨w.heap.size, 0, none⟩), .int .u64 150]) (w.alloc (.cells #[.pointer (some e)] 47)) := by kernel_rfl

theorem Tryd.elemOf57 (w : World) : (Rtype.elem? 57).run Tryd.prog w = .ok (some 47) w := by kernel_rfl
theorem Tryd.mk47 (p : Addr) (w : World) : (ReflectliteValue.mk 47 p ReflectliteValue.flagAddr).run Tryd.prog w = .ok (.agg #[.pointer (some ⟨7, 47, none⟩), .pointer (some p), .int .u64 406]) w := by kernel_rfl
/-- (Value).Elem at the Value of a **ValueError that is not nil: the Value of the *ValueError variable that it points to, addressable. -/
theorem Tryd.elemV57 (a p : Addr) (W : World) (ha : W.cell? a = some (.pointer (some p))) :
    (ReflectliteValue.method (ReflectliteValue.valueError "reflectlite.Value.Elem" 0) ReflectliteValue.elem #[.agg #[.pointer (some ⟨7, 57, none⟩), .pointer (some a), .int .u64 150]]).run Tryd.prog W
      = .ok (.agg #[.pointer (some ⟨7, 47, none⟩), .pointer (some p), .int .u64 406]) W := by
  rw [rlm]
  simp only [Sem.run_bind, Tryd.parts57, Result.andThen]
  simp [ReflectliteValue.elem, loadVar, isAgg, underlying, Tryd.underlying57, ha, Result.andThen, Tryd.elemOf57, Tryd.mk47]
/-- (Value).Set's own text, laid open at two arguments; what it says where it refuses or panics stays unnamed. -/
theorem rls (v x : Value) : ∃ (e1 e2 e3 : Unsupported) (s1 s2 : String), ReflectliteValue.set #[v, x] = (do
    let (some (dst, a, fl), some (src, b, _)) := (← ReflectliteValue.parts v, ← ReflectliteValue.parts x)
      | unsupported e1
    if fl / ReflectliteValue.flagAddr % 2 == 0 then unsupported e2
    let val ← loadVar src b
    if ← Rtype.directlyAssignable dst src then storeVar dst a val
    else if ← Rtype.implements dst src then
      if (← Rtype.kind src) == 20 then
        match val with
        | .nilIface => unsupported e3
        | _ => storeVar dst a val
      else storeVar dst a (.iface src val)
    else panicString (s1 ++ (← Rtype.spelt src) ++ s2 ++ (← Rtype.spelt dst))
    pure (.tuple #[])) := ⟨_, _, _, _, _, rfl⟩
theorem Tryd.parts47a (a : Addr) (w : World) : (ReflectliteValue.parts (.agg #[.pointer (some ⟨7, 47, none⟩), .pointer (some a), .int .u64 406])).run Tryd.prog w = .ok (some (47, a, 406)) w := by kernel_rfl
theorem Tryd.parts47 (a : Addr) (w : World) : (ReflectliteValue.parts (.agg #[.pointer (some ⟨7, 47, none⟩), .pointer (some a), .int .u64 150])).run Tryd.prog w = .ok (some (47, a, 150)) w := by kernel_rfl
theorem Tryd.direct47 (w : World) : (Rtype.directlyAssignable 47 47).run Tryd.prog w = .ok true w := by kernel_rfl
theorem Tryd.size47 (w : World) : (sizeOf 47).run Tryd.prog w = .ok 1 w := by kernel_rfl
/-- (Value).Set: the *ValueError variable at 'ta' gets what the Value's own variable 'b' holds. -/
theorem Tryd.set47 (ta b e : Addr) (old : Value) (W : World) (hb : W.cell? b = some (.pointer (some e))) (ht : W.cell? ta = some old) (hf : W.frozen? ta = false) :
    (ReflectliteValue.set #[.agg #[.pointer (some ⟨7, 47, none⟩), .pointer (some ta), .int .u64 406], .agg #[.pointer (some ⟨7, 47, none⟩), .pointer (some b), .int .u64 150]]).run Tryd.prog W
      = .ok (.tuple #[]) (W.setCell ta (.pointer (some e))) := by
  obtain ⟨e1, e2, e3, s1, s2, hset⟩ := rls (.agg #[.pointer (some ⟨7, 47, none⟩), .pointer (some ta), .int .u64 406]) (.agg #[.pointer (some ⟨7, 47, none⟩), .pointer (some b), .int .u64 150])
  rw [hset]
  simp only [Sem.run_bind, Tryd.parts47a, Tryd.parts47, Result.andThen]
  simp [ReflectliteValue.flagAddr, loadVar, isAgg, underlying, Tryd.underlying47, hb, Result.andThen, Tryd.direct47, storeVar, Value.cells, storeCells, Addr.add]
  rw [run_store Tryd.prog W ta _ _ (by rfl)]
  simp [ht, hf]

set_option maxHeartbeats 4000000 in
theorem as_hit (e t : Addr) (old : Value) (w : World) (hg : w.cell? ⟨0, 0, none⟩ = some (.iface 78 (.agg #[.pointer (some ⟨7, 43, none⟩)]))) (ht0 : w.cell? t = some old) (hf0 : w.frozen? t = false) :
    Calls Tryd.prog 28 #[.iface 47 (.pointer (some e)), .iface 57 (.pointer (some t))] w fun ev w' => ev = .returned (.bool true) ∧ w' = ((((w.alloc (.cells #[.pointer (some t)] 57)).alloc (.cells #[.pointer (some ⟨7, 57, none⟩), .pointer (some ⟨w.heap.size, 0, none⟩), .int .u64 150] 63)).alloc (.cells #[.pointer (some ⟨7, 57, none⟩), .pointer (some ⟨w.heap.size, 0, none⟩), .int .u64 150] 63)).alloc (.cells #[.pointer (some e)] 47)).setCell t (.pointer (some e)) := by
  have h6 := @run_callFunc_extern Tryd.prog 33 _ (fun args => ReflectliteValue.unpack (args.getD 0 (.tuple #[]))) Tryd.func33 (by kernel_rfl) (by kernel_rfl) (by kernel_rfl) (by kernel_rfl)
  have h7 := @run_callFunc_extern Tryd.prog 34 _ (ReflectliteValue.methodAny (ReflectliteValue.valueError "reflectlite.Value.Type" 0) (fun t _ _ _ => ReflectliteType.toType t)) Tryd.func34 (by kernel_rfl) (by kernel_rfl) (by kernel_rfl) (by kernel_rfl)
  have h8 := @run_callFunc_extern Tryd.prog 35 _ (ReflectliteValue.method (ReflectliteValue.valueError "reflectlite.Value.IsNil" 0) ReflectliteValue.isNil) Tryd.func35 (by kernel_rfl) (by kernel_rfl) (by kernel_rfl) (by kernel_rfl)
  have h27 := @run_callFunc_extern Tryd.prog 83 _ (ReflectliteType.abiMethod fun t => do pure (.int .u8 (← Rtype.kind t))) Tryd.func83 (by kernel_rfl) (by kernel_rfl) (by kernel_rfl) (by kernel_rfl)
  have h37 := @run_callFunc_extern Tryd.prog 93 _ (ReflectliteType.method ReflectliteType.elem) Tryd.func93 (by kernel_rfl) (by kernel_rfl) (by kernel_rfl) (by kernel_rfl)
  have h38 := @run_callFunc_extern Tryd.prog 94 _ (ReflectliteType.relation "Implements" ReflectliteType.implements_) Tryd.func94 (by kernel_rfl) (by kernel_rfl) (by kernel_rfl) (by kernel_rfl)
  have h10 := @run_callFunc_extern Tryd.prog 43 _ ReflectliteType.typeOf Tryd.func43 (by kernel_rfl) (by kernel_rfl) (by kernel_rfl) (by kernel_rfl)
  have h35 := @run_callFunc_extern Tryd.prog 91 _ (ReflectliteType.relation "AssignableTo" ReflectliteType.assignableTo) Tryd.func91 (by kernel_rfl) (by kernel_rfl) (by kernel_rfl) (by kernel_rfl)
  have h11 := @run_callFunc_extern Tryd.prog 44 _ (ReflectliteValue.method (ReflectliteValue.valueError "reflectlite.Value.Elem" 0) ReflectliteValue.elem) Tryd.func44 (by kernel_rfl) (by kernel_rfl) (by kernel_rfl) (by kernel_rfl)
  have h12 := @run_callFunc_extern Tryd.prog 45 _ ReflectliteValue.set Tryd.func45 (by kernel_rfl) (by kernel_rfl) (by kernel_rfl) (by kernel_rfl)
  have tO := Tryd.typeOf47
  have mA := Tryd.methodAssignableTo
  have a25 := Tryd.assignable47
  have v25 := Tryd.valueOf47
  have f6 := Tryd.valueOf57
  have f7 := Tryd.type57
  have mK := Tryd.methodKind
  have mE := Tryd.methodElem
  have mI := Tryd.methodImplements
  have k27 := Tryd.kind57
  have k25 := Tryd.kind47
  have e27 := Tryd.elem57
  have i25 := Tryd.implements47
  have n8 := Tryd.isNil57 ⟨w.heap.size, 0, none⟩ t ((w.alloc (.cells #[.pointer (some t)] 57)).alloc (.cells #[.pointer (some ⟨7, 57, none⟩), .pointer (some ⟨w.heap.size, 0, none⟩), .int .u64 150] 63)) (by simp)
  have hlt : 0 < w.heap.size := by
    rcases Nat.eq_zero_or_pos w.heap.size with h0 | h
    · simp [World.cell?, h0] at hg
    · exact h
  have hg2 : ((w.alloc (.cells #[.pointer (some t)] 57)).alloc (.cells #[.pointer (some ⟨7, 57, none⟩), .pointer (some ⟨w.heap.size, 0, none⟩), .int .u64 150] 63)).cell? ⟨0, 0, none⟩ = some (.iface 78 (.agg #[.pointer (some ⟨7, 43, none⟩)])) := by
    rw [World.cell?_alloc_lt _ _ ⟨0, 0, none⟩ (by simp), World.cell?_alloc_lt _ _ ⟨0, 0, none⟩ hlt]; exact hg
  have htl : t.block < w.heap.size := by
    rcases Nat.lt_or_ge t.block w.heap.size with h | h
    · exact h
    · simp [World.cell?, Array.getElem?_eq_none h] at ht0
  have el := Tryd.elemV57 ⟨w.heap.size, 0, none⟩ t (((w.alloc (.cells #[.pointer (some t)] 57)).alloc (.cells #[.pointer (some ⟨7, 57, none⟩), .pointer (some ⟨w.heap.size, 0, none⟩), .int .u64 150] 63)).alloc (.cells #[.pointer (some ⟨7, 57, none⟩), .pointer (some ⟨w.heap.size, 0, none⟩), .int .u64 150] 63)) (by rw [World.cell?_alloc_lt _ _ ⟨w.heap.size, 0, none⟩ (by simp; omega)]; simp)
  have st := Tryd.set47 t ⟨w.heap.size + 1 + 1 + 1, 0, none⟩ e old ((((w.alloc (.cells #[.pointer (some t)] 57)).alloc (.cells #[.pointer (some ⟨7, 57, none⟩), .pointer (some ⟨w.heap.size, 0, none⟩), .int .u64 150] 63)).alloc (.cells #[.pointer (some ⟨7, 57, none⟩), .pointer (some ⟨w.heap.size, 0, none⟩), .int .u64 150] 63)).alloc (.cells #[.pointer (some e)] 47))
    (by rw [World.cell?_alloc_at _ _ _ _ (by simp)]; rfl)
    (by rw [World.cell?_alloc_lt _ _ t (by simp; omega), World.cell?_alloc_lt _ _ t (by simp; omega), World.cell?_alloc_lt _ _ t (by simp; omega), World.cell?_alloc_lt _ _ t htl]; exact ht0)
    (by rw [World.frozen?_alloc_old _ _ t (by simp; omega), World.frozen?_alloc_old _ _ t (by simp; omega), World.frozen?_alloc_old _ _ t (by simp; omega), World.frozen?_alloc_old _ _ t (Nat.ne_of_lt htl)]; exact hf0)
  go_enter Tryd.func28, Tryd.ntmps28
  go_wp2
  refine wp_loop_rounds 1 ?_
  rw [rounds_succ]
  go_wp2
  go_ret
  exact ⟨rfl, rfl⟩
end Go.Proofs.Qxb6613651aDoor
