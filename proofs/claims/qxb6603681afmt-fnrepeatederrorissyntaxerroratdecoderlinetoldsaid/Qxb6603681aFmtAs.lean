/-
  errors.As at the one target of this road ('var se *SyntaxError; errors.As(err, &se)'): the guide's Toyas texts turned to this program's numbers.
-/
import Derived.Test.Qxb6603681aFmtProg
import Derived.WalkKit
import Derived.LaidEql
import Derived.Stop.Asserts
import Derived.RowKitTokens
namespace Go.Proofs.Qxb6603681aFmt
open Go.RowKit Go.Extern.Stop Go.Stop Go.Extern

/-! ### CLOSED FACTS ON THE MODEL's ENTRIES FOR internal/reflectlite, at this program's types: 42: *rdf.SyntaxError · 44: **rdf.SyntaxError · 38: error · 90: reflectlite's rtype · 1: how many package-level variables the dump has -/
theorem Tryf.valueOf44 (t : Addr) (w : World) : (ReflectliteValue.unpack (.iface 44 (.pointer (some t)))).run Tryf.prog w
    = .ok (.agg #[.pointer (some ⟨1, 44, none⟩), .pointer (some ⟨w.heap.size, 0, none⟩), .int .u64 150]) (w.alloc (.cells #[.pointer (some t)] 44)) := by kernel_rfl
theorem Tryf.type44 (a : Addr) (w : World) : (ReflectliteValue.methodAny (ReflectliteValue.valueError "reflectlite.Value.Type" 0) (fun t _ _ _ => ReflectliteType.toType t) #[.agg #[.pointer (some ⟨1, 44, none⟩), .pointer (some a), .int .u64 150]]).run Tryf.prog w
    = .ok (.iface 90 (.agg #[.pointer (some ⟨1, 44, none⟩)])) w := by kernel_rfl
theorem Tryf.methodKind (h : Value) (w : World) : (Go.method 281 90 (.agg #[h]) "Kind").run Tryf.prog w = .ok (38, h) w := by kernel_rfl
theorem Tryf.kind44 (w : World) : ((ReflectliteType.abiMethod fun t => (fun a : Nat => Value.int IntKind.u8 (a : Int)) <$> Rtype.kind t) #[.pointer (some ⟨1, 44, none⟩)]).run Tryf.prog w = .ok (.int .u8 22) w := by kernel_rfl
theorem Tryf.kind42 (w : World) : ((ReflectliteType.abiMethod fun t => (fun a : Nat => Value.int IntKind.u8 (a : Int)) <$> Rtype.kind t) #[.pointer (some ⟨1, 42, none⟩)]).run Tryf.prog w = .ok (.int .u8 22) w := by kernel_rfl

/-! ### THE ENTRIES THAT READ OR WRITE MEMORY: laws with a premise on the cell (after Derived/Lib/ReflectliteSlice.lean's manner: each unfolding a lemma of its own, by rfl) -/
theorem rlm (z : Sem Value) (f : TypeId → Addr → Nat → Nat → Sem Value) (v : Value) :
    ReflectliteValue.method z f #[v] = (do match ← ReflectliteValue.parts v with | none => z | some (t, a, fl) => f t a fl (fl % 32)) := rfl
theorem Tryf.parts44 (a : Addr) (w : World) : (ReflectliteValue.parts (.agg #[.pointer (some ⟨1, 44, none⟩), .pointer (some a), .int .u64 150])).run Tryf.prog w = .ok (some (44, a, 150)) w := by kernel_rfl
/-- (Value).IsNil at the Value of a **SyntaxError that is not nil. -/
theorem Tryf.isNil44 (a p : Addr) (W : World) (ha : W.cell? a = some (.pointer (some p))) :
    (ReflectliteValue.method (ReflectliteValue.valueError "reflectlite.Value.IsNil" 0) ReflectliteValue.isNil #[.agg #[.pointer (some ⟨1, 44, none⟩), .pointer (some a), .int .u64 150]]).run Tryf.prog W = .ok (.bool false) W := by
  rw [rlm]
  simp only [Sem.run_bind, Tryf.parts44, Result.andThen]
  simp [ReflectliteValue.isNil, loadVar, isAgg, underlying, Tryf.underlying44, ha, Result.andThen]

theorem Tryf.methodElem (h : Value) (w : World) : (Go.method 281 90 (.agg #[h]) "Elem").run Tryf.prog w = .ok (60, .agg #[h]) w := by kernel_rfl
theorem Tryf.methodImplements (h : Value) (w : World) : (Go.method 281 90 (.agg #[h]) "Implements").run Tryf.prog w = .ok (61, .agg #[h]) w := by kernel_rfl
theorem Tryf.methodAssignableTo (h : Value) (w : World) : (Go.method 281 90 (.agg #[h]) "AssignableTo").run Tryf.prog w = .ok (58, .agg #[h]) w := by kernel_rfl
theorem Tryf.elem44 (w : World) : (ReflectliteType.method ReflectliteType.elem #[.agg #[.pointer (some ⟨1, 44, none⟩)]]).run Tryf.prog w = .ok (.iface 90 (.agg #[.pointer (some ⟨1, 42, none⟩)])) w := by kernel_rfl
theorem Tryf.implements42 (w : World) : (ReflectliteType.relation "Implements" ReflectliteType.implements_ #[.agg #[.pointer (some ⟨1, 42, none⟩)], .iface 90 (.agg #[.pointer (some ⟨1, 38, none⟩)])]).run Tryf.prog w = .ok (.bool true) w := by kernel_rfl
theorem Tryf.typeOf42 (v : Value) (w : World) : (ReflectliteType.typeOf #[.iface 42 v]).run Tryf.prog w = .ok (.iface 90 (.agg #[.pointer (some ⟨1, 42, none⟩)])) w := by kernel_rfl
theorem Tryf.assignable42 (w : World) : (ReflectliteType.relation "AssignableTo" ReflectliteType.assignableTo #[.agg #[.pointer (some ⟨1, 42, none⟩)], .iface 90 (.agg #[.pointer (some ⟨1, 42, none⟩)])]).run Tryf.prog w = .ok (.bool true) w := by kernel_rfl
theorem Tryf.valueOf42 (e : Addr) (w : World) : (ReflectliteValue.unpack (.iface 42 (.pointer (some e)))).run Tryf.prog w
    = .ok (.agg #[.pointer (some ⟨1, 42, none⟩), .pointer (some ⟨w.heap.size, 0, none⟩), .int .u64 150]) (w.alloc (.cells #[.pointer (some e)] 42)) := by kernel_rfl

theorem Tryf.elemOf44 (w : World) : (Rtype.elem? 44).run Tryf.prog w = .ok (some 42) w := by kernel_rfl
theorem Tryf.mk42 (p : Addr) (w : World) : (ReflectliteValue.mk 42 p ReflectliteValue.flagAddr).run Tryf.prog w = .ok (.agg #[.pointer (some ⟨1, 42, none⟩), .pointer (some p), .int .u64 406]) w := by kernel_rfl
/-- (Value).Elem at the Value of a **SyntaxError that is not nil: the Value of the *SyntaxError variable that it points to, addressable. -/
theorem Tryf.elemV44 (a p : Addr) (W : World) (ha : W.cell? a = some (.pointer (some p))) :
    (ReflectliteValue.method (ReflectliteValue.valueError "reflectlite.Value.Elem" 0) ReflectliteValue.elem #[.agg #[.pointer (some ⟨1, 44, none⟩), .pointer (some a), .int .u64 150]]).run Tryf.prog W
      = .ok (.agg #[.pointer (some ⟨1, 42, none⟩), .pointer (some p), .int .u64 406]) W := by
  rw [rlm]
  simp only [Sem.run_bind, Tryf.parts44, Result.andThen]
  simp [ReflectliteValue.elem, loadVar, isAgg, underlying, Tryf.underlying44, ha, Result.andThen, Tryf.elemOf44, Tryf.mk42]
theorem rls : ∃ s1 s2 s3 s4 s5 : String, ∀ v x : Value, ReflectliteValue.set #[v, x] = (do
    let (some (dst, a, fl), some (src, b, _)) := (← ReflectliteValue.parts v, ← ReflectliteValue.parts x)
      | unsupported (.noEntry s1)
    if fl / ReflectliteValue.flagAddr % 2 == 0 then unsupported (.noEntry s2)
    let val ← loadVar src b
    if ← Rtype.directlyAssignable dst src then storeVar dst a val
    else if ← Rtype.implements dst src then
      if (← Rtype.kind src) == 20 then
        match val with
        | .nilIface => unsupported (.noEntry s3)
        | _ => storeVar dst a val
      else storeVar dst a (.iface src val)
    else panicString (s4 ++ (← Rtype.spelt src) ++ s5 ++ (← Rtype.spelt dst))
    pure (.tuple #[])) := ⟨_, _, _, _, _, fun _ _ => rfl⟩
theorem Tryf.parts42a (a : Addr) (w : World) : (ReflectliteValue.parts (.agg #[.pointer (some ⟨1, 42, none⟩), .pointer (some a), .int .u64 406])).run Tryf.prog w = .ok (some (42, a, 406)) w := by kernel_rfl
theorem Tryf.parts42 (a : Addr) (w : World) : (ReflectliteValue.parts (.agg #[.pointer (some ⟨1, 42, none⟩), .pointer (some a), .int .u64 150])).run Tryf.prog w = .ok (some (42, a, 150)) w := by kernel_rfl
theorem Tryf.direct42 (w : World) : (Rtype.directlyAssignable 42 42).run Tryf.prog w = .ok true w := by kernel_rfl
theorem Tryf.size42 (w : World) : (sizeOf 42).run Tryf.prog w = .ok 1 w := by kernel_rfl
/-- (Value).Set: the *SyntaxError variable at 'ta' gets what the Value's own variable 'b' holds. -/
theorem Tryf.set42 (ta b e : Addr) (old : Value) (W : World) (hb : W.cell? b = some (.pointer (some e))) (ht : W.cell? ta = some old) (hf : W.frozen? ta = false) :
    (ReflectliteValue.set #[.agg #[.pointer (some ⟨1, 42, none⟩), .pointer (some ta), .int .u64 406], .agg #[.pointer (some ⟨1, 42, none⟩), .pointer (some b), .int .u64 150]]).run Tryf.prog W
      = .ok (.tuple #[]) (W.setCell ta (.pointer (some e))) := by
  obtain ⟨s1, s2, s3, s4, s5, hset⟩ := rls
  rw [hset]
  simp only [Sem.run_bind, Tryf.parts42a, Tryf.parts42, Result.andThen]
  simp [ReflectliteValue.flagAddr, loadVar, isAgg, underlying, Tryf.underlying42, hb, Result.andThen, Tryf.direct42, storeVar, Value.cells, storeCells, Addr.add]
  rw [run_store Tryf.prog W ta _ _ (by rfl)]
  simp [ht, hf]

set_option maxHeartbeats 4000000 in
theorem as_hit (e t : Addr) (old : Value) (w : World) (hg : w.cell? ⟨0, 0, none⟩ = some (.iface 90 (.agg #[.pointer (some ⟨1, 38, none⟩)]))) (ht0 : w.cell? t = some old) (hf0 : w.frozen? t = false) :
    Calls Tryf.prog 9 #[.iface 42 (.pointer (some e)), .iface 44 (.pointer (some t))] w fun ev w' => ev = .returned (.bool true) ∧ w' = ((((w.alloc (.cells #[.pointer (some t)] 44)).alloc (.cells #[.pointer (some ⟨1, 44, none⟩), .pointer (some ⟨w.heap.size, 0, none⟩), .int .u64 150] 72)).alloc (.cells #[.pointer (some ⟨1, 44, none⟩), .pointer (some ⟨w.heap.size, 0, none⟩), .int .u64 150] 72)).alloc (.cells #[.pointer (some e)] 42)).setCell t (.pointer (some e)) := by
  have h6 := @run_callFunc_extern Tryf.prog 12 _ (fun args => ReflectliteValue.unpack (args.getD 0 (.tuple #[]))) Tryf.func12 (by kernel_rfl) (by kernel_rfl) (by kernel_rfl) (by kernel_rfl)
  have h7 := @run_callFunc_extern Tryf.prog 13 _ (ReflectliteValue.methodAny (ReflectliteValue.valueError "reflectlite.Value.Type" 0) (fun t _ _ _ => ReflectliteType.toType t)) Tryf.func13 (by kernel_rfl) (by kernel_rfl) (by kernel_rfl) (by kernel_rfl)
  have h8 := @run_callFunc_extern Tryf.prog 14 _ (ReflectliteValue.method (ReflectliteValue.valueError "reflectlite.Value.IsNil" 0) ReflectliteValue.isNil) Tryf.func14 (by kernel_rfl) (by kernel_rfl) (by kernel_rfl) (by kernel_rfl)
  have h27 := @run_callFunc_extern Tryf.prog 38 _ (ReflectliteType.abiMethod fun t => do pure (.int .u8 (← Rtype.kind t))) Tryf.func38 (by kernel_rfl) (by kernel_rfl) (by kernel_rfl) (by kernel_rfl)
  have h37 := @run_callFunc_extern Tryf.prog 60 _ (ReflectliteType.method ReflectliteType.elem) Tryf.func60 (by kernel_rfl) (by kernel_rfl) (by kernel_rfl) (by kernel_rfl)
  have h38 := @run_callFunc_extern Tryf.prog 61 _ (ReflectliteType.relation "Implements" ReflectliteType.implements_) Tryf.func61 (by kernel_rfl) (by kernel_rfl) (by kernel_rfl) (by kernel_rfl)
  have h10 := @run_callFunc_extern Tryf.prog 19 _ ReflectliteType.typeOf Tryf.func19 (by kernel_rfl) (by kernel_rfl) (by kernel_rfl) (by kernel_rfl)
  have h35 := @run_callFunc_extern Tryf.prog 58 _ (ReflectliteType.relation "AssignableTo" ReflectliteType.assignableTo) Tryf.func58 (by kernel_rfl) (by kernel_rfl) (by kernel_rfl) (by kernel_rfl)
  have h11 := @run_callFunc_extern Tryf.prog 20 _ (ReflectliteValue.method (ReflectliteValue.valueError "reflectlite.Value.Elem" 0) ReflectliteValue.elem) Tryf.func20 (by kernel_rfl) (by kernel_rfl) (by kernel_rfl) (by kernel_rfl)
  have h12 := @run_callFunc_extern Tryf.prog 21 _ ReflectliteValue.set Tryf.func21 (by kernel_rfl) (by kernel_rfl) (by kernel_rfl) (by kernel_rfl)
  have tO := Tryf.typeOf42
  have mA := Tryf.methodAssignableTo
  have a25 := Tryf.assignable42
  have v25 := Tryf.valueOf42
  have f6 := Tryf.valueOf44
  have f7 := Tryf.type44
  have mK := Tryf.methodKind
  have mE := Tryf.methodElem
  have mI := Tryf.methodImplements
  have k27 := Tryf.kind44
  have k25 := Tryf.kind42
  have e27 := Tryf.elem44
  have i25 := Tryf.implements42
  have n8 := Tryf.isNil44 ⟨w.heap.size, 0, none⟩ t ((w.alloc (.cells #[.pointer (some t)] 44)).alloc (.cells #[.pointer (some ⟨1, 44, none⟩), .pointer (some ⟨w.heap.size, 0, none⟩), .int .u64 150] 72)) (by simp)
  have hlt : 0 < w.heap.size := by
    rcases Nat.eq_zero_or_pos w.heap.size with h0 | h
    · simp [World.cell?, h0] at hg
    · exact h
  have hg2 : ((w.alloc (.cells #[.pointer (some t)] 44)).alloc (.cells #[.pointer (some ⟨1, 44, none⟩), .pointer (some ⟨w.heap.size, 0, none⟩), .int .u64 150] 72)).cell? ⟨0, 0, none⟩ = some (.iface 90 (.agg #[.pointer (some ⟨1, 38, none⟩)])) := by
    rw [World.cell?_alloc_lt _ _ ⟨0, 0, none⟩ (by simp), World.cell?_alloc_lt _ _ ⟨0, 0, none⟩ hlt]; exact hg
  have htl : t.block < w.heap.size := by
    rcases Nat.lt_or_ge t.block w.heap.size with h | h
    · exact h
    · simp [World.cell?, Array.getElem?_eq_none h] at ht0
  have el := Tryf.elemV44 ⟨w.heap.size, 0, none⟩ t (((w.alloc (.cells #[.pointer (some t)] 44)).alloc (.cells #[.pointer (some ⟨1, 44, none⟩), .pointer (some ⟨w.heap.size, 0, none⟩), .int .u64 150] 72)).alloc (.cells #[.pointer (some ⟨1, 44, none⟩), .pointer (some ⟨w.heap.size, 0, none⟩), .int .u64 150] 72)) (by rw [World.cell?_alloc_lt _ _ ⟨w.heap.size, 0, none⟩ (by simp; omega)]; simp)
  have st := Tryf.set42 t ⟨w.heap.size + 1 + 1 + 1, 0, none⟩ e old ((((w.alloc (.cells #[.pointer (some t)] 44)).alloc (.cells #[.pointer (some ⟨1, 44, none⟩), .pointer (some ⟨w.heap.size, 0, none⟩), .int .u64 150] 72)).alloc (.cells #[.pointer (some ⟨1, 44, none⟩), .pointer (some ⟨w.heap.size, 0, none⟩), .int .u64 150] 72)).alloc (.cells #[.pointer (some e)] 42))
    (by rw [World.cell?_alloc_at _ _ _ _ (by simp)]; rfl)
    (by rw [World.cell?_alloc_lt _ _ t (by simp; omega), World.cell?_alloc_lt _ _ t (by simp; omega), World.cell?_alloc_lt _ _ t (by simp; omega), World.cell?_alloc_lt _ _ t htl]; exact ht0)
    (by rw [World.frozen?_alloc_old _ _ t (by simp; omega), World.frozen?_alloc_old _ _ t (by simp; omega), World.frozen?_alloc_old _ _ t (by simp; omega), World.frozen?_alloc_old _ _ t (Nat.ne_of_lt htl)]; exact hf0)
  go_enter Tryf.func9, Tryf.ntmps9
  go_wp2
  refine wp_loop_rounds 1 ?_
  rw [rounds_succ]
  go_wp2
  go_ret
  exact ⟨rfl, rfl⟩
end Go.Proofs.Qxb6603681aFmt
