/- A part of the proof: errors.Is and errors.As at the errors that a reader hands back; the thin package's failure. errors.As; the thin package's failure. errors.As; the thin package's failure. The thin package's failure. Slices of strings; clone; InputOffset; FieldPos. InputOffset; FieldPos; the thin package's position. -/
import Derived.Test.YtfadgnopfjajbaaGreatDoorP10
import Derived.Stop.Asserts
import Derived.RowKitTokens
import Derived.Tactics2
import Derived.Defers
import Derived.Recover
import Derived.Laws.Pointers
namespace Go.Proofs.YtfadgnopfjajbaaGreatDoor
open Go.RowKit Go.Extern.Stop Go.Stop Go.Extern
/- The model's entries for internal/reflectlite, by name. -/
def eComparable : Array Value → Sem Value := ReflectliteType.method fun t => do Rtype.noPackHeld "Comparable" t; pure (.bool (← typeInfo t).comparable)
def eTypeOf : Array Value → Sem Value := ReflectliteType.typeOf
def eValueOf : Array Value → Sem Value := fun args => ReflectliteValue.unpack (args.getD 0 (.tuple #[]))
def eType : Array Value → Sem Value := ReflectliteValue.methodAny (ReflectliteValue.valueError "reflectlite.Value.Type" 0) fun t _ _ _ => ReflectliteType.toType t
def eIsNil : Array Value → Sem Value := ReflectliteValue.method (ReflectliteValue.valueError "reflectlite.Value.IsNil" 0) ReflectliteValue.isNil
def eElemV : Array Value → Sem Value := ReflectliteValue.method (ReflectliteValue.valueError "reflectlite.Value.Elem" 0) ReflectliteValue.elem
def eSet : Array Value → Sem Value := ReflectliteValue.set
def eKind : Array Value → Sem Value := ReflectliteType.abiMethod fun t => do pure (.int .u8 (← Rtype.kind t))
def eElem : Array Value → Sem Value := ReflectliteType.method ReflectliteType.elem
def eImplements : Array Value → Sem Value := ReflectliteType.relation "Implements" ReflectliteType.implements_
def eAssignable : Array Value → Sem Value := ReflectliteType.relation "AssignableTo" ReflectliteType.assignableTo
abbrev rt (t : Nat) : Value := .agg #[.pointer (some ⟨14, t, none⟩)]
theorem er_typeOf (v : Value) (w : World) : (eTypeOf #[.iface 207 v]).run Tryz.prog w = .ok (.iface 173 (rt 207)) w := by kernel_rfl
theorem er_typeOfP (v : Value) (w : World) : (eTypeOf #[.iface 104 v]).run Tryz.prog w = .ok (.iface 173 (rt 104)) w := by kernel_rfl
theorem er_comparable (w : World) : (eComparable #[rt 207]).run Tryz.prog w = .ok (.bool true) w := by kernel_rfl
theorem er_mComparable (v : Value) (w : World) : (Go.method 342 173 v "Comparable").run Tryz.prog w = .ok (145, v) w := by kernel_rfl
theorem er_xComparable (args : Array Value) (w : World) : (callFunc 145 args).run Tryz.prog w = ((eComparable args).run Tryz.prog w).andThen fun v w' => .ok (.value v) w' := run_callFunc_extern Tryz.func145 (by kernel_rfl) (by kernel_rfl) (by kernel_rfl) (e := eComparable) (by kernel_rfl) args w
theorem er_xTypeOf (args : Array Value) (w : World) : (callFunc 79 args).run Tryz.prog w = ((eTypeOf args).run Tryz.prog w).andThen fun v w' => .ok (.value v) w' := run_callFunc_extern Tryz.func79 (by kernel_rfl) (by kernel_rfl) (by kernel_rfl) (e := eTypeOf) (by kernel_rfl) args w
theorem er_noIsE (v : Value) (xT : TypeId) (w : World) : (Instr.typeAssert (.iface 207 v) xT 175 true).run Tryz.prog w = .ok (.tuple #[.nilIface, .bool false]) w := run_typeAssert_lacksB Tryz.underlying175 (by kernel_rfl) (by kernel_rfl) v xT w
theorem er_noAsE (v : Value) (xT : TypeId) (w : World) : (Instr.typeAssert (.iface 207 v) xT 185 true).run Tryz.prog w = .ok (.tuple #[.nilIface, .bool false]) w := run_typeAssert_lacksB Tryz.underlying185 (by kernel_rfl) (by kernel_rfl) v xT w
theorem er_noIsP (v : Value) (xT : TypeId) (w : World) : (Instr.typeAssert (.iface 104 v) xT 175 true).run Tryz.prog w = .ok (.tuple #[.nilIface, .bool false]) w := run_typeAssert_lacksB Tryz.underlying175 (by kernel_rfl) (by kernel_rfl) v xT w
theorem er_noAsP (v : Value) (xT : TypeId) (w : World) : (Instr.typeAssert (.iface 104 v) xT 185 true).run Tryz.prog w = .ok (.tuple #[.nilIface, .bool false]) w := run_typeAssert_lacksB Tryz.underlying185 (by kernel_rfl) (by kernel_rfl) v xT w
theorem er_noUnwrapE (v : Value) (xT : TypeId) (w : World) : (Instr.typeAssert (.iface 207 v) xT 178 true).run Tryz.prog w = .ok (.tuple #[.nilIface, .bool false]) w := run_typeAssert_lacksB Tryz.underlying178 (by kernel_rfl) (by kernel_rfl) v xT w
theorem er_noUnwrapsE (v : Value) (xT : TypeId) (w : World) : (Instr.typeAssert (.iface 207 v) xT 180 true).run Tryz.prog w = .ok (.tuple #[.nilIface, .bool false]) w := run_typeAssert_lacksB Tryz.underlying180 (by kernel_rfl) (by kernel_rfl) v xT w
theorem er_hasUnwrapP (v : Value) (xT : TypeId) (w : World) : (Instr.typeAssert (.iface 104 v) xT 178 true).run Tryz.prog w = .ok (.tuple #[.iface 104 v, .bool true]) w := run_typeAssert_hasB Tryz.underlying178 (by kernel_rfl) v xT w
theorem er_mUnwrap (v : Value) (w : World) : (Go.method 342 104 v "Unwrap").run Tryz.prog w = .ok (139, v) w := by kernel_rfl
/-- errors.is at a sentinel. -/
theorem isc_sent (a b : EA) (t : Bool) (w : World) (hq : (binOp .eql 70 (errVal a) (errVal b)).run Tryz.prog w = .ok (.bool t) w) :
    Calls Tryz.prog 80 [errVal a, errVal b, .bool true].toArray w fun e w' => e = .returned (.bool t) ∧ w' = w := by
  have nE := er_noIsE
  have uE := er_noUnwrapE
  have vE := er_noUnwrapsE
  refine enter 54 Tryz.func80 rfl rfl (by simp) ?_
  go_wp
  refine wp_loop_once ?_
  cases t
  · go_wp
    refine wp_if_false rfl (by simp [lk]) ?_
    go_wp
    refine wp_if_false rfl (by simp [lk]) ?_
    go_wp
    refine wp_if_false rfl (by simp [lk]) ?_
    go_wp
    refine wp_if_false rfl (by simp [lk]) ?_
    go_wp
    exact ret1 rfl rfl ⟨by simp [lk], rfl⟩
  · go_wp
    refine wp_if_true rfl (by simp [lk]) ?_
    go_wp
    exact ret1 rfl rfl ⟨by simp [lk], rfl⟩
theorem unwrap_any (g : Nat) (a : EA) (w : World) (hc : w.cell? ⟨g, 3, none⟩ = some (errVal a)) : Calls Tryz.prog 139 [.pointer (some ⟨g, 0, none⟩)].toArray w fun e w' => e = .returned (errVal a) ∧ w' = w := by
  refine enter 7 Tryz.func139 rfl rfl (by simp) ?_
  go_wp
  exact ret1 rfl rfl ⟨by simp [lk], rfl⟩
/-- errors.is at a ParseError. -/
theorem isc_parse (g : Nat) (a b : EA) (t : Bool) (w : World) (hc : w.cell? ⟨g, 3, none⟩ = some (errVal a)) (hq : (binOp .eql 70 (errVal a) (errVal b)).run Tryz.prog w = .ok (.bool t) w) :
    Calls Tryz.prog 80 [peVal g, errVal b, .bool true].toArray w fun e w' => e = .returned (.bool t) ∧ w' = w := by
  have nE := er_noIsE
  have uE := er_noUnwrapE
  have vE := er_noUnwrapsE
  have nP := er_noIsP
  have uP := er_hasUnwrapP
  have mP := er_mUnwrap
  have hty := run_eql_iface_types (P := Tryz.prog) 104 207 (.pointer (some ⟨g, 0, none⟩)) (.pointer (some ⟨b.1, b.2, none⟩)) Tryz.underlying70 (by decide) w
  refine enter 54 Tryz.func80 rfl rfl (by simp) ?_
  go_wp
  refine wp_loop_n (fun k a' w' => ∃ l f, a' = Fr 54 l f ∧ lk l f 1 = errVal b ∧ lk l f 2 = .bool true ∧ w' = w ∧ ((k = 1 ∧ lk l f 0 = peVal g) ∨ (k = 0 ∧ lk l f 0 = errVal a))) 1 ⟨_, _, rfl, rfl, rfl, rfl, .inl ⟨rfl, rfl⟩⟩ ?_
  rintro k a' w' ⟨l, f, rfl, h1, h2, rfl, ⟨rfl, h0⟩ | ⟨rfl, h0⟩⟩
  · clear hq nE uE vE
    go_wp
    refine wp_if_false rfl (by simp [lk]) ?_
    go_wp
    refine wp_if_false rfl (by simp [lk]) ?_
    go_wp
    refine wp_if_true rfl (by simp [lk]) ?_
    go_wp
    refine (unwrap_any g a w' hc).mono ?_
    rintro e w1 ⟨rfl, rfl⟩
    dsimp only
    go_wp
    refine wp_if_false rfl (by simp [lk]) ?_
    refine wp_skip ?_
    exact ⟨0, by omega, _, _, rfl, by simp [lk, h1], by simp [lk, h2], rfl, .inr ⟨rfl, by simp [lk]⟩⟩
  · clear nP uP mP hty
    cases t
    · go_wp
      refine wp_if_false rfl (by simp [lk]) ?_
      go_wp
      refine wp_if_false rfl (by simp [lk]) ?_
      go_wp
      refine wp_if_false rfl (by simp [lk]) ?_
      go_wp
      refine wp_if_false rfl (by simp [lk]) ?_
      go_wp
      exact ret1 rfl rfl ⟨by simp [lk], rfl⟩
    · go_wp
      refine wp_if_true rfl (by simp [lk]) ?_
      go_wp
      exact ret1 rfl rfl ⟨by simp [lk], rfl⟩
/-- errors.Is at a sentinel. -/
theorem is_sent (a b : EA) (t : Bool) (w : World) (hq : (binOp .eql 70 (errVal a) (errVal b)).run Tryz.prog w = .ok (.bool t) w) :
    Calls Tryz.prog 52 [errVal a, errVal b].toArray w fun e w' => e = .returned (.bool t) ∧ w' = w := by
  have h8 := er_xTypeOf
  have h32 := er_xComparable
  have tT := er_typeOf
  have cT := er_comparable
  have mR := er_mComparable
  refine enter 22 Tryz.func52 rfl rfl (by simp) ?_
  have hi := isc_sent a b t w hq
  clear hq
  go_wp
  refine wp_if_false rfl (by simp [lk]) ?_
  go_wp
  refine hi.mono ?_
  rintro e w1 ⟨rfl, rfl⟩
  dsimp only
  go_wp
  exact ret1 rfl rfl ⟨by simp [lk], rfl⟩
/-- errors.Is at a ParseError. -/
theorem is_parse (g : Nat) (a b : EA) (t : Bool) (w : World) (hc : w.cell? ⟨g, 3, none⟩ = some (errVal a)) (hq : (binOp .eql 70 (errVal a) (errVal b)).run Tryz.prog w = .ok (.bool t) w) :
    Calls Tryz.prog 52 [peVal g, errVal b].toArray w fun e w' => e = .returned (.bool t) ∧ w' = w := by
  have h8 := er_xTypeOf
  have h32 := er_xComparable
  have tT := er_typeOf
  have cT := er_comparable
  have mR := er_mComparable
  refine enter 22 Tryz.func52 rfl rfl (by simp) ?_
  have hi := isc_parse g a b t w hc hq
  clear hq
  go_wp
  refine wp_if_false rfl (by simp [lk]) ?_
  go_wp
  refine hi.mono ?_
  rintro e w1 ⟨rfl, rfl⟩
  dsimp only
  go_wp
  exact ret1 rfl rfl ⟨by simp [lk], rfl⟩
/- errors.As -/
theorem er_xValueOf (args : Array Value) (w : World) : (callFunc 81 args).run Tryz.prog w = ((eValueOf args).run Tryz.prog w).andThen fun v w' => .ok (.value v) w' := run_callFunc_extern Tryz.func81 (by kernel_rfl) (by kernel_rfl) (by kernel_rfl) (e := eValueOf) (by kernel_rfl) args w
theorem er_xType (args : Array Value) (w : World) : (callFunc 82 args).run Tryz.prog w = ((eType args).run Tryz.prog w).andThen fun v w' => .ok (.value v) w' := run_callFunc_extern Tryz.func82 (by kernel_rfl) (by kernel_rfl) (by kernel_rfl) (e := eType) (by kernel_rfl) args w
theorem er_xIsNil (args : Array Value) (w : World) : (callFunc 83 args).run Tryz.prog w = ((eIsNil args).run Tryz.prog w).andThen fun v w' => .ok (.value v) w' := run_callFunc_extern Tryz.func83 (by kernel_rfl) (by kernel_rfl) (by kernel_rfl) (e := eIsNil) (by kernel_rfl) args w
theorem er_xElemV (args : Array Value) (w : World) : (callFunc 106 args).run Tryz.prog w = ((eElemV args).run Tryz.prog w).andThen fun v w' => .ok (.value v) w' := run_callFunc_extern Tryz.func106 (by kernel_rfl) (by kernel_rfl) (by kernel_rfl) (e := eElemV) (by kernel_rfl) args w
theorem er_xSet (args : Array Value) (w : World) : (callFunc 107 args).run Tryz.prog w = ((eSet args).run Tryz.prog w).andThen fun v w' => .ok (.value v) w' := run_callFunc_extern Tryz.func107 (by kernel_rfl) (by kernel_rfl) (by kernel_rfl) (e := eSet) (by kernel_rfl) args w
theorem er_xKind (args : Array Value) (w : World) : (callFunc 132 args).run Tryz.prog w = ((eKind args).run Tryz.prog w).andThen fun v w' => .ok (.value v) w' := run_callFunc_extern Tryz.func132 (by kernel_rfl) (by kernel_rfl) (by kernel_rfl) (e := eKind) (by kernel_rfl) args w
theorem er_xElem (args : Array Value) (w : World) : (callFunc 146 args).run Tryz.prog w = ((eElem args).run Tryz.prog w).andThen fun v w' => .ok (.value v) w' := run_callFunc_extern Tryz.func146 (by kernel_rfl) (by kernel_rfl) (by kernel_rfl) (e := eElem) (by kernel_rfl) args w
theorem er_xImplements (args : Array Value) (w : World) : (callFunc 147 args).run Tryz.prog w = ((eImplements args).run Tryz.prog w).andThen fun v w' => .ok (.value v) w' := run_callFunc_extern Tryz.func147 (by kernel_rfl) (by kernel_rfl) (by kernel_rfl) (e := eImplements) (by kernel_rfl) args w
theorem er_xAssignable (args : Array Value) (w : World) : (callFunc 144 args).run Tryz.prog w = ((eAssignable args).run Tryz.prog w).andThen fun v w' => .ok (.value v) w' := run_callFunc_extern Tryz.func144 (by kernel_rfl) (by kernel_rfl) (by kernel_rfl) (e := eAssignable) (by kernel_rfl) args w
abbrev rv (t : Nat) (p : Addr) (k : Int) : Value := .agg #[.pointer (some ⟨14, t, none⟩), .pointer (some p), .int .u64 k]
theorem er_valueOfPP (t : Addr) (w : World) : (eValueOf #[.iface 106 (.pointer (some t))]).run Tryz.prog w = .ok (rv 106 ⟨w.heap.size, 0, none⟩ 150) (w.alloc (.cells #[.pointer (some t)] 106)) := by kernel_rfl
theorem er_valueOfP (t : Addr) (w : World) : (eValueOf #[.iface 104 (.pointer (some t))]).run Tryz.prog w = .ok (rv 104 ⟨w.heap.size, 0, none⟩ 150) (w.alloc (.cells #[.pointer (some t)] 104)) := by kernel_rfl
theorem er_typePP (a : Addr) (w : World) : (eType #[rv 106 a 150]).run Tryz.prog w = .ok (.iface 173 (rt 106)) w := by kernel_rfl
theorem er_mKind (h : Value) (w : World) : (Go.method 342 173 (.agg #[h]) "Kind").run Tryz.prog w = .ok (132, h) w := by kernel_rfl
theorem er_mElem (h : Value) (w : World) : (Go.method 342 173 (.agg #[h]) "Elem").run Tryz.prog w = .ok (146, .agg #[h]) w := by kernel_rfl
theorem er_mImplements (h : Value) (w : World) : (Go.method 342 173 (.agg #[h]) "Implements").run Tryz.prog w = .ok (147, .agg #[h]) w := by kernel_rfl
theorem er_mAssignable (h : Value) (w : World) : (Go.method 342 173 (.agg #[h]) "AssignableTo").run Tryz.prog w = .ok (144, .agg #[h]) w := by kernel_rfl
theorem er_kindPP (w : World) : (eKind #[.pointer (some ⟨14, 106, none⟩)]).run Tryz.prog w = .ok (.int .u8 22) w := by kernel_rfl
theorem er_kindP (w : World) : (eKind #[.pointer (some ⟨14, 104, none⟩)]).run Tryz.prog w = .ok (.int .u8 22) w := by kernel_rfl
theorem er_elemPP (w : World) : (eElem #[rt 106]).run Tryz.prog w = .ok (.iface 173 (rt 104)) w := by kernel_rfl
theorem er_implementsP (w : World) : (eImplements #[rt 104, .iface 173 (rt 70)]).run Tryz.prog w = .ok (.bool true) w := by kernel_rfl
theorem er_assignableP (w : World) : (eAssignable #[rt 104, .iface 173 (rt 104)]).run Tryz.prog w = .ok (.bool true) w := by kernel_rfl
theorem er_assignableE (w : World) : (eAssignable #[rt 207, .iface 173 (rt 104)]).run Tryz.prog w = .ok (.bool false) w := by kernel_rfl
theorem method_arm {m : Array Value → Type} (v : Value) (h1 : ∀ v : Value, m #[v]) (h2 : ∀ a : Array Value, m a) : ReflectliteValue.method.match_2 m #[v] h1 h2 = h1 v := rfl
theorem er_partsPP (a : Addr) (w : World) : (ReflectliteValue.parts (rv 106 a 150)).run Tryz.prog w = .ok (some (106, a, 150)) w := by kernel_rfl
theorem er_isNilPP (a p : Addr) (W : World) (ha : W.cell? a = some (.pointer (some p))) : (eIsNil #[rv 106 a 150]).run Tryz.prog W = .ok (.bool false) W := by
  unfold eIsNil
  delta ReflectliteValue.method
  rw [method_arm]
  simp only [Sem.run_bind, er_partsPP, Result.andThen]
  simp [ReflectliteValue.isNil, loadVar, isAgg, underlying, Tryz.underlying106, ha, Result.andThen]
theorem er_elemOfPP (w : World) : (Rtype.elem? 106).run Tryz.prog w = .ok (some 104) w := by kernel_rfl
theorem er_mkP (p : Addr) (w : World) : (ReflectliteValue.mk 104 p ReflectliteValue.flagAddr).run Tryz.prog w = .ok (rv 104 p 406) w := by kernel_rfl
theorem er_elemVPP (a p : Addr) (W : World) (ha : W.cell? a = some (.pointer (some p))) : (eElemV #[rv 106 a 150]).run Tryz.prog W = .ok (rv 104 p 406) W := by
  unfold eElemV
  delta ReflectliteValue.method
  rw [method_arm]
  simp only [Sem.run_bind, er_partsPP, Result.andThen]
  simp [ReflectliteValue.elem, loadVar, isAgg, underlying, Tryz.underlying106, ha, Result.andThen, er_elemOfPP, er_mkP]
end Go.Proofs.YtfadgnopfjajbaaGreatDoor
namespace Go.Proofs.YtfadgnopfjajbaaGreatDoor
open Go.RowKit Go.Extern.Stop Go.Stop Go.Extern
theorem er_partsPa (a : Addr) (w : World) : (ReflectliteValue.parts (rv 104 a 406)).run Tryz.prog w = .ok (some (104, a, 406)) w := by kernel_rfl
theorem er_partsP (a : Addr) (w : World) : (ReflectliteValue.parts (rv 104 a 150)).run Tryz.prog w = .ok (some (104, a, 150)) w := by kernel_rfl
theorem er_directP (w : World) : (Rtype.directlyAssignable 104 104).run Tryz.prog w = .ok true w := by kernel_rfl
theorem set_arm {m : Array Value → Type} (v x : Value) (h1 : ∀ v x : Value, m #[v, x]) (h2 : ∀ a : Array Value, m a) : ReflectliteValue.set.match_3 m #[v, x] h1 h2 = h1 v x := rfl
theorem er_setP (ta b e : Addr) (old : Value) (W : World) (hb : W.cell? b = some (.pointer (some e))) (ht : W.cell? ta = some old) (hf : W.frozen? ta = false) :
    (eSet #[rv 104 ta 406, rv 104 b 150]).run Tryz.prog W = .ok (.tuple #[]) (W.setCell ta (.pointer (some e))) := by
  unfold eSet
  delta ReflectliteValue.set
  rw [set_arm]
  simp only [Sem.run_bind, er_partsPa, er_partsP, Result.andThen]
  simp [ReflectliteValue.flagAddr, loadVar, isAgg, underlying, Tryz.underlying104, hb, Result.andThen, er_directP, storeVar, Value.cells, storeCells, Addr.add]
  rw [run_store Tryz.prog W ta _ _ (by rfl)]
  simp [ht, hf]
/- errors.as at a ParseError. -/
set_option maxRecDepth 100000 in
theorem asc_hit (g tb va : Nat) (old : Value) (w : World) (hva : w.cell? ⟨va, 0, none⟩ = some (.pointer (some ⟨tb, 0, none⟩))) (htB : Blk w tb 104 [old]) :
    Calls Tryz.prog 84 [peVal g, .iface 106 (.pointer (some ⟨tb, 0, none⟩)), rv 106 ⟨va, 0, none⟩ 150, .iface 173 (rt 104)].toArray w fun e w' => e = .returned (.bool true) ∧ Only (fun k => k = tb) w w' ∧ Blk w' tb 104 [.pointer (some ⟨g, 0, none⟩)] := by
  have ht := htB.cell 0
  have hf := htB.frozen 0
  simp at ht
  have HB := Lib.hid htB
  clear htB
  have x1 := er_xTypeOf
  have x2 := er_xAssignable
  have x3 := er_xElemV
  have x4 := er_xValueOf
  have x5 := er_xSet
  have f1 := er_typeOfP
  have f2 := er_assignableP
  have m2 := er_mAssignable
  have f4 := er_valueOfP ⟨g, 0, none⟩
  have hvl : va < w.heap.size := by
    rcases Nat.lt_or_ge va w.heap.size with h | h
    · exact h
    · simp [World.cell?, Array.getElem?_eq_none h] at hva
  have htl : tb < w.heap.size := by
    rcases Nat.lt_or_ge tb w.heap.size with h | h
    · exact h
    · simp [World.cell?, Array.getElem?_eq_none h] at ht
  obtain ⟨o1, ho1⟩ : ∃ o1 : Obj, o1 = .cells #[.pointer (some ⟨14, 106, none⟩), .pointer (some ⟨va, 0, none⟩), .int .u64 150] 139 := ⟨_, rfl⟩
  have f3 := er_elemVPP ⟨va, 0, none⟩ ⟨tb, 0, none⟩ (w.alloc o1) (by rw [World.cell?_alloc_lt _ _ ⟨va, 0, none⟩ hvl]; exact hva)
  have f5 := er_setP ⟨tb, 0, none⟩ ⟨w.heap.size + 1, 0, none⟩ ⟨g, 0, none⟩ old ((w.alloc o1).alloc (.cells #[.pointer (some ⟨g, 0, none⟩)] 104)) (by rw [World.cell?_alloc_at _ _ _ _ (by simp)]; rfl)
    (by rw [World.cell?_alloc_lt _ _ ⟨tb, 0, none⟩ (by simp; omega), World.cell?_alloc_lt _ _ ⟨tb, 0, none⟩ htl]; exact ht)
    (by rw [World.frozen?_alloc_old _ _ ⟨tb, 0, none⟩ (by simp; omega), World.frozen?_alloc_old _ _ ⟨tb, 0, none⟩ (Nat.ne_of_lt htl)]; exact hf)
  rw [ho1] at f3 f5
  refine enter 62 Tryz.func84 rfl rfl (by simp) ?_
  go_wp
  refine wp_loop_once ?_
  go_wp
  refine wp_if_true rfl (by simp [lk]) ?_
  go_wp
  refine ret1 rfl rfl ⟨by simp [lk], ?_, ?_⟩
  · exact (((Only.refl (fun k => k = tb) w).setCell (p := ⟨tb, 0, none⟩) (fun _ => rfl) _).alloc _).alloc _
  · exact ((HB.out.set 0 _).alloc _).alloc _
/- errors.as at a sentinel. -/
set_option maxRecDepth 100000 in
theorem asc_miss (a : EA) (tv vv : Value) (w : World) (hvv : ∃ x y z, vv = .agg #[x, y, z] ∧ x.oneCell' = true ∧ y.oneCell' = true ∧ z.oneCell' = true) :
    Calls Tryz.prog 84 [errVal a, tv, vv, .iface 173 (rt 104)].toArray w fun e w' => e = .returned (.bool false) ∧ Below w.heap.size w w' := by
  obtain ⟨x, y, z, rfl, hx, hy, hz⟩ := hvv
  have x1 := er_xTypeOf
  have x2 := er_xAssignable
  have f1 := er_typeOf
  have f2 := er_assignableE
  have m2 := er_mAssignable
  have nE := er_noAsE
  have uE := er_noUnwrapE
  have vE := er_noUnwrapsE
  refine enter 62 Tryz.func84 rfl rfl (by simp) ?_
  go_wp
  refine wp_loop_once ?_
  go_wp
  refine wp_if_false rfl (by simp [lk]) ?_
  go_wp
  refine wp_if_false rfl (by simp [lk]) ?_
  go_wp
  refine wp_if_false rfl (by simp [lk]) ?_
  go_wp
  refine wp_if_false rfl (by simp [lk]) ?_
  go_wp
  exact ret1 rfl rfl ⟨by simp [lk], (Below.refl _ w).alloc (Nat.le_refl _) _⟩
end Go.Proofs.YtfadgnopfjajbaaGreatDoor
namespace Go.Proofs.YtfadgnopfjajbaaGreatDoor
open Go.RowKit Go.Extern.Stop Go.Stop Go.Extern
/-- What errors.As asks of the package's variable. -/
def ETy (B : Nat) (w : World) : Prop := w.cell? ⟨6, 0, none⟩ = some (.iface 173 (rt 70)) ∧ 6 < B
theorem ETy.keep {B : Nat} {w w' : World} (h : ETy B w) (hb : Below B w w') : ETy B w' := ⟨(hb.cell (p := ⟨6, 0, none⟩) h.2).trans h.1, h.2⟩
set_option maxRecDepth 100000 in
set_option maxHeartbeats 1000000 in
theorem as_any (B : Nat) (err : Value) (tb : Nat) (w : World) (hE : ETy B w) (hBw : B ≤ w.heap.size) (ht : Blk w tb 104 [.pointer none]) (R : Bool → World → Prop)
    (hcase : ∀ w1 va, Below w.heap.size w w1 → w1.cell? ⟨va, 0, none⟩ = some (.pointer (some ⟨tb, 0, none⟩)) → Calls Tryz.prog 84 [err, .iface 106 (.pointer (some ⟨tb, 0, none⟩)), rv 106 ⟨va, 0, none⟩ 150, .iface 173 (rt 104)].toArray w1 fun e w' => ∃ b, e = .returned (.bool b) ∧ R b w')
    (hne : ∃ t x, err = .iface t x) :
    Calls Tryz.prog 53 [err, .iface 106 (.pointer (some ⟨tb, 0, none⟩))].toArray w fun e w' => ∃ b, e = .returned (.bool b) ∧ R b w' := by
  obtain ⟨t, x, rfl⟩ := hne
  have x1 := er_xValueOf
  have x2 := er_xType
  have x3 := er_xIsNil
  have x4 := er_xKind
  have x5 := er_xElem
  have x6 := er_xImplements
  have f1 := er_valueOfPP ⟨tb, 0, none⟩
  have f2 := er_typePP
  have m1 := er_mKind
  have m2 := er_mElem
  have m3 := er_mImplements
  have k1 := er_kindPP
  have k2 := er_kindP
  have e1 := er_elemPP
  have i1 := er_implementsP
  have hgl : 6 < w.heap.size := Nat.lt_of_lt_of_le hE.2 hBw
  obtain ⟨w1, hw1⟩ : ∃ w1, w1 = (w.alloc (.cells #[.pointer (some ⟨tb, 0, none⟩)] 106)).alloc (.cells #[.pointer (some ⟨14, 106, none⟩), .pointer (some ⟨w.heap.size, 0, none⟩), .int .u64 150] 139) := ⟨_, rfl⟩
  have hva : w1.cell? ⟨w.heap.size, 0, none⟩ = some (.pointer (some ⟨tb, 0, none⟩)) := by
    rw [hw1, World.cell?_alloc_lt _ _ ⟨w.heap.size, 0, none⟩ (by simp)]
    simp
  have n1 := er_isNilPP ⟨w.heap.size, 0, none⟩ ⟨tb, 0, none⟩ w1 hva
  have g1 : w1.cell? ⟨6, 0, none⟩ = some (.iface 173 (rt 70)) := by
    rw [hw1, World.cell?_alloc_lt _ _ ⟨6, 0, none⟩ (by simp; omega), World.cell?_alloc_lt _ _ ⟨6, 0, none⟩ hgl]
    exact hE.1
  have hc := hcase w1 w.heap.size (by rw [hw1]; exact ((Below.refl _ w).alloc (Nat.le_refl _) _).alloc (by simp) _) hva
  rw [hw1] at n1 g1 hc
  have HC := Lib.hid hc
  clear hcase hE hva hw1 hc ht
  refine enter 42 Tryz.func53 rfl rfl (by simp) ?_
  go_wp
  refine wp_if_false rfl (by simp [lk]) ?_
  go_wp
  refine wp_if_false rfl (by simp [lk]) ?_
  go_wp
  refine wp_if_false rfl (by simp [lk]) ?_
  go_wp
  refine wp_if_false rfl (by simp [lk]) ?_
  go_wp
  refine HC.out.mono ?_
  rintro e w2 ⟨b, rfl, hR⟩
  dsimp only
  clear x1 x2 x3 x4 x5 x6 f1 f2 m1 m2 m3 k1 k2 e1 i1 n1 g1 HC
  have HR := Lib.hid hR
  clear hR
  go_wp
  exact ret1 rfl rfl ⟨b, by simp [lk], HR.out⟩
end Go.Proofs.YtfadgnopfjajbaaGreatDoor
namespace Go.Proofs.YtfadgnopfjajbaaGreatDoor
open Go.RowKit Go.Extern.Stop Go.Stop Go.Extern
theorem results_cell {fn : Func} {p : Tmp} {ty : TypeId} (h : fn.results = #[.cell p ty]) (tmps : Array Value) (P : Program) (w : World) :
    (results fn tmps).run P w = ((asAddr (tmps.getD p undef)).run P w).andThen fun a w₁ => (loadVar ty a).run P w₁ := by
  simp only [results, h]
  simp [Sem.run_bind, Result.andThen]
/-- A result that lies in a cell. -/
theorem retCell {P : Program} {fn : Func} {R : Ending → World → Prop} {w : World} {n : Nat} {l : List (Nat × Value)} {f : Nat → Value} {t : Tmp} {ty : TypeId} {a : Addr} {v : Value} (h : fn.results = #[.cell t ty]) (hn : decide (t < n) = true) (ht : lk l f t = .pointer (some a)) (hv : (loadVar ty a).run P w = .ok v w)
    (hR : R (.returned v) w) : bodyPost P fn R .ret (Fr n l f) w :=
  bodyPost_ret (by rw [results_cell h, Fr_getD n l f t hn, ht]; simp [asAddr, Result.andThen, hv]) (Fr_defers n l f) hR
def failV (k s l c : Nat) : List Value := [i64v k, i64v s, i64v l, i64v c]
theorem load_failure (w : World) (g k s l c : Nat) (h : Blk w g 51 (failV k s l c)) : (loadVar 51 ⟨g, 0, none⟩).run Tryz.prog w = .ok (.agg (failV k s l c).toArray) w := by
  have hc := h.cell
  unfold failV at hc ⊢
  have h0 := hc 0
  have h1 := hc 1
  have h2 := hc 2
  have h3 := hc 3
  simp at h0 h1 h2 h3
  go_simp
noncomputable def failBody : Code := (Tryz.f28.body).getD .skip
noncomputable def failKind : Code := part [true, true, true, false] failBody
/- The kind of an error. -/
set_option maxRecDepth 100000 in
set_option maxHeartbeats 1000000 in
theorem fail_kind (B : Nat) (G : Glob) (w : World) (ev : Value) (fb k : Nat) (l : List (Nat × Value)) (f : Nat → Value) (h0 : lk l f 0 = ev) (h3 : lk l f 3 = .pointer (some ⟨fb, 0, none⟩)) (hG : GInv B w G) (hfb : Blk w fb 51 (failV 5 0 0 0))
    (i1 : Calls Tryz.prog 52 [ev, errVal G.eof].toArray w fun e w' => e = .returned (.bool (k == 1)) ∧ w' = w)
    (i2 : Calls Tryz.prog 52 [ev, errVal G.bare].toArray w fun e w' => e = .returned (.bool (k == 2)) ∧ w' = w)
    (i3 : Calls Tryz.prog 52 [ev, errVal G.quote].toArray w fun e w' => e = .returned (.bool (k == 3)) ∧ w' = w)
    (i4 : Calls Tryz.prog 52 [ev, errVal G.count].toArray w fun e w' => e = .returned (.bool (k == 4)) ∧ w' = w) (hk : k = 1 ∨ k = 2 ∨ k = 3 ∨ k = 4 ∨ k = 5) :
    failKind.wp Tryz.prog (NPost fun a w' => ∃ l', a = Fr 48 l' f ∧ lk l' f 0 = ev ∧ lk l' f 2 = lk l f 2 ∧ lk l' f 3 = .pointer (some ⟨fb, 0, none⟩) ∧ Only (fun q => q = fb) w w' ∧ Blk w' fb 51 (failV k 0 0 0)) (Fr 48 l f) w := by
  dsimp only [failKind, failBody, part, part.sub2', sub1, sub2, Tryz.f28, Option.getD]
  have g1 := hG.eof.var
  have g2 := hG.bare.var
  have g3 := hG.quote.var
  have g4 := hG.count.var
  have hc := hfb.cell
  have hz := hfb.frozen
  unfold failV i64v at hc
  have HF := Lib.hid hfb
  clear hG hfb
  refine wp_block ?_
  have fin : ∀ (l' : List (Nat × Value)) (n : Nat), lk l' f 0 = ev → lk l' f 2 = lk l f 2 → lk l' f 3 = .pointer (some ⟨fb, 0, none⟩) → k = n → ∃ l2, Fr 48 l' f = Fr 48 l2 f ∧ lk l2 f 0 = ev ∧ lk l2 f 2 = lk l f 2 ∧ lk l2 f 3 = .pointer (some ⟨fb, 0, none⟩) ∧ Only (fun q => q = fb) w (w.setCell ⟨fb, 0, none⟩ (.int .i64 (n : Int))) ∧ Blk (w.setCell ⟨fb, 0, none⟩ (.int .i64 (n : Int))) fb 51 (failV k 0 0 0) :=
    fun l' n a b c e => by
      subst e
      exact ⟨l', rfl, a, b, c, (Only.refl (fun q => q = fb) w).setCell (p := ⟨fb, 0, none⟩) (fun _ => rfl) _, HF.out.set 0 _⟩
  have FIN := Lib.hid fin
  clear fin
  go_wp
  refine i1.mono ?_
  rintro e w1 ⟨rfl, rfl⟩
  dsimp only
  rcases hk with rfl | hk
  · go_wp
    refine wp_if_true rfl (by simp [lk]) ?_
    go_wp
    exact FIN.out _ 1 (by simp [lk, h0]) (by simp [lk]) (by simp [lk, h3]) rfl
  have n1 : (k == 1) = false := by rw [beq_eq_false_iff_ne]; omega
  go_wp
  refine wp_if_false rfl (by simp [lk]) ?_
  go_wp
  refine i2.mono ?_
  rintro e w1 ⟨rfl, rfl⟩
  dsimp only
  rcases hk with rfl | hk
  · go_wp
    refine wp_if_true rfl (by simp [lk]) ?_
    go_wp
    exact FIN.out _ 2 (by simp [lk, h0]) (by simp [lk]) (by simp [lk, h3]) rfl
  have n2 : (k == 2) = false := by rw [beq_eq_false_iff_ne]; omega
  go_wp
  refine wp_if_false rfl (by simp [lk]) ?_
  go_wp
  refine i3.mono ?_
  rintro e w1 ⟨rfl, rfl⟩
  dsimp only
  rcases hk with rfl | hk
  · go_wp
    refine wp_if_true rfl (by simp [lk]) ?_
    go_wp
    exact FIN.out _ 3 (by simp [lk, h0]) (by simp [lk]) (by simp [lk, h3]) rfl
  have n3 : (k == 3) = false := by rw [beq_eq_false_iff_ne]; omega
  go_wp
  refine wp_if_false rfl (by simp [lk]) ?_
  go_wp
  refine i4.mono ?_
  rintro e w1 ⟨rfl, rfl⟩
  dsimp only
  rcases hk with rfl | rfl
  · go_wp
    refine wp_if_true rfl (by simp [lk]) ?_
    go_wp
    exact FIN.out _ 4 (by simp [lk, h0]) (by simp [lk]) (by simp [lk, h3]) rfl
  · go_wp
    refine wp_if_false rfl (by simp [lk]) ?_
    refine wp_skip ?_
    exact ⟨_, rfl, by simp [lk, h0], by simp [lk], by simp [lk, h3], Only.refl _ _, HF.out⟩
noncomputable def failNums : Code := part [true, true, true, true, true, false, true, false] failBody
/- The numbers of a ParseError. -/
set_option maxRecDepth 100000 in
set_option maxHeartbeats 1000000 in
theorem fail_nums (w : World) (fb tb g k s n c : Nat) (x : Value) (l : List (Nat × Value)) (f : Nat → Value) (h3 : lk l f 3 = .pointer (some ⟨fb, 0, none⟩)) (h4 : lk l f 4 = .pointer (some ⟨tb, 0, none⟩)) (hfb : Blk w fb 51 (failV k 0 0 0)) (htb : Blk w tb 104 [.pointer (some ⟨g, 0, none⟩)]) (hg : Blk w g 108 [i64v s, i64v n, i64v c, x]) :
    failNums.wp Tryz.prog (NPost fun a w' => ∃ l', a = Fr 48 l' f ∧ lk l' f 2 = lk l f 2 ∧ lk l' f 3 = .pointer (some ⟨fb, 0, none⟩) ∧ Only (fun q => q = fb) w w' ∧ Blk w' fb 51 (failV k s n c)) (Fr 48 l f) w := by
  dsimp only [failNums, failBody, part, part.sub2', sub1, sub2, Tryz.f28, Option.getD]
  refine held_start (fun w' => Blk w' tb 104 [.pointer (some ⟨g, 0, none⟩)] ∧ Blk w' g 108 [i64v s, i64v n, i64v c, x]) [] mixed ?_
  have hS0 : Blk w.drew tb 104 [.pointer (some ⟨g, 0, none⟩)] ∧ Blk w.drew g 108 [i64v s, i64v n, i64v c, x] := ⟨htb, hg⟩
  have e1 : tb ≠ fb := htb.ne hfb (by decide)
  have e2 : g ≠ fb := hg.ne hfb (by decide)
  refine take 0 _ _ ?tv1 rfl rfl (by kernel_rfl) hS0 (by intro c a d v w h; cases d <;> exact h) ?th1 ?tn1
  case th1 => intro w' hS K hK; have hc := Blk.cell hS.1; have hd := Blk.cell hS.2; unfold i64v at hd; go_simp; exact hK
  refine take 1 _ _ ?tv2 rfl rfl (by kernel_rfl) hS0 (by intro c a d v w h; cases d <;> exact h) ?th2 ?tn2
  case th2 => intro w' hS K hK; have hc := Blk.cell hS.1; have hd := Blk.cell hS.2; unfold i64v at hd; go_simp; exact hK
  refine take 2 _ _ ?tv3 rfl rfl (by kernel_rfl) hS0 (by intro c a d v w h; cases d <;> exact h) ?th3 ?tn3
  case th3 => intro w' hS K hK; have hc := Blk.cell hS.1; have hd := Blk.cell hS.2; unfold i64v at hd; go_simp; exact hK
  refine take 3 _ _ ?tv4 rfl rfl (by kernel_rfl) hS0 (by intro c a d v w h; cases d <;> exact h) ?th4 ?tn4
  case th4 => intro w' hS K hK; have hc := Blk.cell hS.1; have hd := Blk.cell hS.2; unfold i64v at hd; go_simp; exact hK
  refine take 4 _ _ ?tv5 rfl rfl (by kernel_rfl) hS0 (by intro c a d v w h; cases d <;> exact h) ?th5 ?tn5
  case th5 => intro w' hS K hK; have hc := Blk.cell hS.1; have hd := Blk.cell hS.2; unfold i64v at hd; go_simp; exact hK
  refine take 5 _ _ ?tv6 rfl rfl (by kernel_rfl) hS0 (by intro c a d v w h; cases d <;> exact h) ?th6 ?tn6
  case th6 => intro w' hS K hK; have hc := Blk.cell hS.1; have hd := Blk.cell hS.2; unfold i64v at hd; go_simp; exact hK
  refine take 6 _ _ ?tv7 rfl rfl (by kernel_rfl) hS0 (by intro c a d v w h; cases d <;> exact h) ?th7 ?tn7
  case th7 => intro w' hS K hK; have hc := Blk.cell hS.1; have hd := Blk.cell hS.2; unfold i64v at hd; go_simp; exact hK
  refine take 7 _ _ ?tv8 rfl rfl (by kernel_rfl) hS0 (by intro c a d v w h; cases d <;> exact h) ?th8 ?tn8
  case th8 => intro w' hS K hK; have hc := Blk.cell hS.1; have hd := Blk.cell hS.2; unfold i64v at hd; go_simp; exact hK
  refine take 8 _ _ ?tv9 rfl rfl (by kernel_rfl) hS0 (by intro c a d v w h; cases d <;> exact h) ?th9 ?tn9
  case th9 => intro w' hS K hK; have hc := Blk.cell hS.1; have hd := Blk.cell hS.2; unfold i64v at hd; go_simp; exact hK
  refine take 9 _ _ ?tv10 rfl rfl (by kernel_rfl) hS0 (by intro c a d v w h; cases d <;> exact h) ?th10 ?tn10
  case th10 => intro w' hS K hK; have hc := Blk.cell hS.1; have hd := Blk.cell hS.2; unfold i64v at hd; go_simp; exact hK
  refine take 10 _ _ ?tv11 rfl rfl (by kernel_rfl) hS0 (by intro c a d v w h; cases d <;> exact h) ?th11 ?tn11
  case th11 => intro w' hS K hK; have hc := Blk.cell hS.1; have hd := Blk.cell hS.2; unfold i64v at hd; go_simp; exact hK
  refine take 11 _ _ ?tv12 rfl rfl (by kernel_rfl) hS0 (by intro c a d v w h; cases d <;> exact h) ?th12 ?tn12
  case th12 => intro w' hS K hK; have hc := Blk.cell hS.1; have hd := Blk.cell hS.2; unfold i64v at hd; go_simp; exact hK
  refine held_alone 12 _ rfl (by kernel_rfl) ?_
  go_wp
  refine ⟨fun _ => hS0, ?_⟩
  have hfb0 : Blk w.drew fb 51 (failV k 0 0 0) := hfb
  clear hfb htb hg
  refine held_alone 13 _ rfl (by kernel_rfl) ?_
  have hz := hfb0.frozen
  have hc := hfb0.cell
  unfold failV i64v at hc
  go_wp
  have hfb1 : Blk (w.drew.setCell ⟨fb, 1, none⟩ (i64v s)) fb 51 (failV k s 0 0) := hfb0.set 1 (i64v s)
  have hS1 : Blk (w.drew.setCell ⟨fb, 1, none⟩ (i64v s)) tb 104 [.pointer (some ⟨g, 0, none⟩)] ∧ Blk (w.drew.setCell ⟨fb, 1, none⟩ (i64v s)) g 108 [i64v s, i64v n, i64v c, x] := ⟨hS0.1.far (p := ⟨fb, 1, none⟩) e1 _, hS0.2.far (p := ⟨fb, 1, none⟩) e2 _⟩
  have hO1 : Only (fun q => q = fb) w (w.drew.setCell ⟨fb, 1, none⟩ (i64v s)) := (Only.refl (fun q => q = fb) w).drew.setCell (p := ⟨fb, 1, none⟩) (fun _ => rfl) _
  refine ⟨fun _ => hS1, ?_⟩
  clear hfb0 hS0 hz hc
  obtain ⟨w1, hw1⟩ : ∃ w1, w1 = w.drew.setCell ⟨fb, 1, none⟩ (i64v s) := ⟨_, rfl⟩
  have hw1' : w1 = (w.setCell ⟨fb, 1, none⟩ (.int .i64 (s : Int))).drew := hw1
  rw [← hw1']
  rw [← hw1] at hfb1 hS1 hO1
  clear hw1 hw1'
  refine held_alone 14 _ rfl (by kernel_rfl) ?_
  go_wp
  refine ⟨fun _ => hS1, ?_⟩
  refine held_alone 15 _ rfl (by kernel_rfl) ?_
  have hz := hfb1.frozen
  have hc := hfb1.cell
  unfold failV i64v at hc
  go_wp
  have hfb2 : Blk (w1.setCell ⟨fb, 2, none⟩ (i64v n)) fb 51 (failV k s n 0) := hfb1.set 2 (i64v n)
  have hS2 : Blk (w1.setCell ⟨fb, 2, none⟩ (i64v n)) tb 104 [.pointer (some ⟨g, 0, none⟩)] ∧ Blk (w1.setCell ⟨fb, 2, none⟩ (i64v n)) g 108 [i64v s, i64v n, i64v c, x] := ⟨hS1.1.far (p := ⟨fb, 2, none⟩) e1 _, hS1.2.far (p := ⟨fb, 2, none⟩) e2 _⟩
  have hO2 : Only (fun q => q = fb) w (w1.setCell ⟨fb, 2, none⟩ (i64v n)) := hO1.setCell (p := ⟨fb, 2, none⟩) (fun _ => rfl) _
  refine ⟨fun _ => hS2, ?_⟩
  clear hfb1 hS1 hz hc hO1
  obtain ⟨w2, hw2⟩ : ∃ w2, w2 = w1.setCell ⟨fb, 2, none⟩ (i64v n) := ⟨_, rfl⟩
  have hw2' : w2 = w1.setCell ⟨fb, 2, none⟩ (.int .i64 (n : Int)) := hw2
  rw [← hw2']
  rw [← hw2] at hfb2 hS2 hO2
  clear hw2 hw2'
  refine held_alone 16 _ rfl (by kernel_rfl) ?_
  go_wp
  refine ⟨fun _ => hS2, ?_⟩
  refine held_alone 17 _ rfl (by kernel_rfl) ?_
  have hz := hfb2.frozen
  have hc := hfb2.cell
  unfold failV i64v at hc
  go_wp
  have hfb3 : Blk (w2.setCell ⟨fb, 3, none⟩ (i64v c)) fb 51 (failV k s n c) := hfb2.set 3 (i64v c)
  have hS3 : Blk (w2.setCell ⟨fb, 3, none⟩ (i64v c)) tb 104 [.pointer (some ⟨g, 0, none⟩)] ∧ Blk (w2.setCell ⟨fb, 3, none⟩ (i64v c)) g 108 [i64v s, i64v n, i64v c, x] := ⟨hS2.1.far (p := ⟨fb, 3, none⟩) e1 _, hS2.2.far (p := ⟨fb, 3, none⟩) e2 _⟩
  have hO3 : Only (fun q => q = fb) w (w2.setCell ⟨fb, 3, none⟩ (i64v c)) := hO2.setCell (p := ⟨fb, 3, none⟩) (fun _ => rfl) _
  refine ⟨fun _ => hS3, ?_⟩
  refine held_done (by kernel_rfl) ?_
  exact NPost.mk ⟨_, rfl, by simp [lk], by simp [lk, h3], hO3, hfb3⟩
noncomputable def fail0 : Code := part [false] failBody
set_option maxRecDepth 100000 in
theorem fail_p0 (w : World) (l : List (Nat × Value)) (f : Nat → Value) :
    fail0.wp Tryz.prog (NPost fun a w' => ∃ l', a = Fr 48 ((2, .pointer (some ⟨w.heap.size, 0, none⟩)) :: l') f ∧ l' = l ∧ w' = w.alloc (.cells (failV 0 0 0 0).toArray 51)) (Fr 48 l f) w := by
  dsimp only [fail0, failBody, part, part.sub2', sub1, sub2, Tryz.f28, Option.getD]
  go_wp
  exact NPost.mk ⟨_, rfl, rfl, rfl⟩
noncomputable def fail1 : Code := part [true, false] failBody
set_option maxRecDepth 100000 in
theorem fail_p1 (w : World) (l : List (Nat × Value)) (f : Nat → Value) (t : TypeId) (x : Value) (h0 : lk l f 0 = .iface t x) :
    fail1.wp Tryz.prog (NPost fun a w' => ∃ l', a = Fr 48 l' f ∧ lk l' f 0 = .iface t x ∧ lk l' f 2 = lk l f 2 ∧ w' = w) (Fr 48 l f) w := by
  dsimp only [fail1, failBody, part, part.sub2', sub1, sub2, Tryz.f28, Option.getD]
  go_wp
  refine wp_if_false rfl (by simp [lk]) ?_
  refine wp_skip ?_
  exact NPost.mk ⟨_, rfl, by simp [lk, h0], by simp [lk], rfl⟩
noncomputable def fail3 : Code := part [true, true, false] failBody
set_option maxRecDepth 100000 in
theorem fail_p3 (w : World) (l : List (Nat × Value)) (f : Nat → Value) :
    fail3.wp Tryz.prog (NPost fun a w' => ∃ l', a = Fr 48 ((3, .pointer (some ⟨w.heap.size, 0, none⟩)) :: l') f ∧ lk l' f 0 = lk l f 0 ∧ lk l' f 2 = lk l f 2 ∧ w' = w.alloc (.cells (failV 5 0 0 0).toArray 51)) (Fr 48 l f) w := by
  dsimp only [fail3, failBody, part, part.sub2', sub1, sub2, Tryz.f28, Option.getD]
  go_wp
  exact NPost.mk ⟨_, rfl, by simp [lk], by simp [lk], rfl⟩
noncomputable def fail12 : Code := part [true, true, true, true, false] failBody
set_option maxRecDepth 100000 in
theorem fail_p12 (w : World) (l : List (Nat × Value)) (f : Nat → Value) :
    fail12.wp Tryz.prog (NPost fun a w' => a = Fr 48 ((4, .pointer (some ⟨w.heap.size, 0, none⟩)) :: l) f ∧ w' = w.alloc (.cells #[.pointer none] 104)) (Fr 48 l f) w := by
  dsimp only [fail12, failBody, part, part.sub2', sub1, sub2, Tryz.f28, Option.getD]
  go_wp
  exact NPost.mk ⟨rfl, rfl⟩
noncomputable def fail13 : Code := part [true, true, true, true, true, false, false] failBody
set_option maxRecDepth 100000 in
theorem fail_p13 (w : World) (l : List (Nat × Value)) (f : Nat → Value) (ev : Value) (tb : Nat) (h0 : lk l f 0 = ev) (h4 : lk l f 4 = .pointer (some ⟨tb, 0, none⟩)) (R : Bool → World → Prop)
    (hA : Calls Tryz.prog 53 [ev, .iface 106 (.pointer (some ⟨tb, 0, none⟩))].toArray w fun e w' => ∃ b, e = .returned (.bool b) ∧ R b w') :
    fail13.wp Tryz.prog (NPost fun a w' => ∃ l' b, a = Fr 48 ((31, .bool b) :: l') f ∧ lk l' f 2 = lk l f 2 ∧ lk l' f 3 = lk l f 3 ∧ lk l' f 4 = lk l f 4 ∧ R b w') (Fr 48 l f) w := by
  dsimp only [fail13, failBody, part, part.sub2', sub1, sub2, Tryz.f28, Option.getD]
  go_wp
  refine hA.mono ?_
  rintro e w1 ⟨b, rfl, hR⟩
  dsimp only
  have HR := Lib.hid hR
  clear hR hA
  go_wp
  exact NPost.mk ⟨_, b, rfl, by simp [lk], by simp [lk], by simp [lk], HR.out⟩
noncomputable def fail15 : Code := part [true, true, true, true, true, true] failBody
set_option maxRecDepth 100000 in
theorem fail_p15 (w : World) (l : List (Nat × Value)) (f : Nat → Value) (ab fb k s n c : Nat) (h2 : lk l f 2 = .pointer (some ⟨ab, 0, none⟩)) (h3 : lk l f 3 = .pointer (some ⟨fb, 0, none⟩)) (hab : Blk w ab 51 (failV 0 0 0 0)) (hfb : Blk w fb 51 (failV k s n c)) :
    fail15.wp Tryz.prog (fun e a w' => e = .ret ∧ ∃ l', a = Fr 48 l' f ∧ lk l' f 2 = .pointer (some ⟨ab, 0, none⟩) ∧ Only (fun q => q = ab) w w' ∧ Blk w' ab 51 (failV k s n c)) (Fr 48 l f) w := by
  dsimp only [fail15, failBody, part, part.sub2', sub1, sub2, Tryz.f28, Option.getD]
  have hc := hfb.cell
  have hz := hab.frozen
  have hc2 := hab.cell
  unfold failV i64v at hc hc2
  have HF := Lib.hid hab
  clear hab hfb
  go_wp
  refine ⟨rfl, _, rfl, by simp [lk, h2], ?_, ?_⟩
  · exact ((((Only.refl (fun q => q = ab) w).setCell (p := ⟨ab, 0, none⟩) (fun _ => rfl) _).setCell (p := ⟨ab, 1, none⟩) (fun _ => rfl) _).setCell (p := ⟨ab, 2, none⟩) (fun _ => rfl) _).setCell (p := ⟨ab, 3, none⟩) (fun _ => rfl) _
  · exact (((HF.out.set 0 (i64v k)).set 1 (i64v s)).set 2 (i64v n)).set 3 (i64v c)
theorem failure_iface (B : Nat) (G : Glob) (w : World) (t : TypeId) (x : Value) (k s n c : Nat) (hG : GInv B w G) (hBw : B ≤ w.heap.size) (hk : k = 1 ∨ k = 2 ∨ k = 3 ∨ k = 4 ∨ k = 5)
    (hi : ∀ w1, Below w.heap.size w w1 → (Calls Tryz.prog 52 [.iface t x, errVal G.eof].toArray w1 fun e w' => e = .returned (.bool (k == 1)) ∧ w' = w1) ∧ (Calls Tryz.prog 52 [.iface t x, errVal G.bare].toArray w1 fun e w' => e = .returned (.bool (k == 2)) ∧ w' = w1) ∧
      (Calls Tryz.prog 52 [.iface t x, errVal G.quote].toArray w1 fun e w' => e = .returned (.bool (k == 3)) ∧ w' = w1) ∧ (Calls Tryz.prog 52 [.iface t x, errVal G.count].toArray w1 fun e w' => e = .returned (.bool (k == 4)) ∧ w' = w1))
    (ha : ∀ w1 tb, Below w.heap.size w w1 → w.heap.size ≤ tb → Blk w1 tb 104 [.pointer none] → Calls Tryz.prog 53 [.iface t x, .iface 106 (.pointer (some ⟨tb, 0, none⟩))].toArray w1 fun e w' => ∃ b, e = .returned (.bool b) ∧ Only (fun q => q = tb) w1 w' ∧
      ((b = false ∧ s = 0 ∧ n = 0 ∧ c = 0) ∨ (b = true ∧ ∃ g y, Blk w' tb 104 [.pointer (some ⟨g, 0, none⟩)] ∧ Blk w' g 108 [i64v s, i64v n, i64v c, y]))) :
    Calls Tryz.prog 28 [.iface t x].toArray w fun e w' => e = .returned (.agg (failV k s n c).toArray) ∧ Below w.heap.size w w' := by
  refine enter 48 Tryz.func28 rfl rfl (by simp) ?_
  refine seq_part (x := fail0) (fail_p0 w _ _) ?_
  rintro a w1 ⟨l1, rfl, rfl, hw1⟩
  have hb1 : Below w.heap.size w w1 := by rw [hw1]; exact (Below.refl _ w).alloc (Nat.le_refl _) _
  have ha1 : Blk w1 w.heap.size 51 (failV 0 0 0 0) := by rw [hw1]; exact Blk.new w _ _
  refine seq_part (x := fail1) (fail_p1 w1 _ _ t x rfl) ?_
  rintro a w1 ⟨l2, rfl, k0, k2, rfl⟩
  refine seq_part (x := fail3) (fail_p3 w1 _ _) ?_
  rintro a w3 ⟨l3, rfl, j0, j2, hw3⟩
  have hb3' : Below w1.heap.size w1 w3 := by rw [hw3]; exact (Below.refl _ w1).alloc (Nat.le_refl _) _
  have hb3 : Below w.heap.size w w3 := hb1.trans (hb3'.mono hb1.size)
  have ha3 : Blk w3 w.heap.size 51 (failV 0 0 0 0) := ha1.below hb3' ha1.lt
  have hf3 : Blk w3 w1.heap.size 51 (failV 5 0 0 0) := by rw [hw3]; exact Blk.new w1 _ _
  have hne : w.heap.size ≠ w1.heap.size := by have := ha1.lt; omega
  obtain ⟨i1, i2, i3, i4⟩ := hi w3 hb3
  refine seq_part (x := failKind) (fail_kind B G w3 (.iface t x) w1.heap.size k _ _ (by rw [lk_ne _ _ _ _ _ rfl, j0, k0]) (lk_same _ _ _ _) (hG.keep (hb3.mono hBw)) hf3 i1 i2 i3 i4 hk) ?_
  rintro a w4 ⟨l4, rfl, m0, m2, m3, hO4, hf4⟩
  have hb4 : Below w.heap.size w w4 := hb3.trans (hO4.below hb3.size (fun q hq => by subst hq; exact hb1.size))
  have ha4 := ha3.only hO4 hne
  refine seq_part (x := fail12) (fail_p12 w4 _ _) ?_
  rintro a w5 ⟨rfl, hw5⟩
  have hb5' : Below w4.heap.size w4 w5 := by rw [hw5]; exact (Below.refl _ w4).alloc (Nat.le_refl _) _
  have ht5 : Blk w5 w4.heap.size 104 [.pointer none] := by rw [hw5]; exact Blk.new_arr w4 _ _
  have hb5 : Below w.heap.size w w5 := hb4.trans (hb5'.mono hb4.size)
  have ha5 := ha4.below hb5' ha4.lt
  have hf5 := hf4.below hb5' hf4.lt
  refine seq_part (R := fun a w' => ∃ l', a = Fr 48 l' (fun _ => undef) ∧ lk l' (fun _ => undef) 2 = .pointer (some ⟨w.heap.size, 0, none⟩) ∧ lk l' (fun _ => undef) 3 = .pointer (some ⟨w1.heap.size, 0, none⟩) ∧ Below w.heap.size w w' ∧ Blk w' w.heap.size 51 (failV 0 0 0 0) ∧ Blk w' w1.heap.size 51 (failV k s n c)) ?_ ?_
  · refine seq_part (x := fail13) (fail_p13 w5 _ _ (.iface t x) w4.heap.size (by rw [lk_ne _ _ _ _ _ rfl, m0]) (lk_same _ _ _ _) _ (ha w5 w4.heap.size hb5 hb4.size ht5)) ?_
    rintro a w6 ⟨l6, b, rfl, p2, p3, p4, hO6, hcase⟩
    have hb6 : Below w.heap.size w w6 := hb5.trans (hO6.below hb5.size (fun q hq => by subst hq; exact hb4.size))
    have ha6 : Blk w6 w.heap.size 51 (failV 0 0 0 0) := ha5.only hO6 (by have := ha4.lt; omega)
    have hf6 : Blk w6 w1.heap.size 51 (failV k 0 0 0) := hf5.only hO6 (by have := hf4.lt; omega)
    have q2 : lk l6 (fun _ => undef) 2 = .pointer (some ⟨w.heap.size, 0, none⟩) := by rw [p2, lk_ne _ _ _ _ _ rfl, m2, lk_ne _ _ _ _ _ rfl, j2, k2, lk_same]
    have q3 : lk l6 (fun _ => undef) 3 = .pointer (some ⟨w1.heap.size, 0, none⟩) := by rw [p3, lk_ne _ _ _ _ _ rfl, m3]
    rcases hcase with ⟨rfl, rfl, rfl, rfl⟩ | ⟨rfl, g, y, hg1, hg2⟩
    · refine wp_if_false rfl (lk_same _ _ _ _) ?_
      exact wp_skip ⟨_, rfl, by rw [lk_ne _ _ _ _ _ rfl, q2], by rw [lk_ne _ _ _ _ _ rfl, q3], hb6, ha6, hf6⟩
    · refine wp_if_true rfl (lk_same _ _ _ _) ?_
      refine last_part (x := failNums) (fail_nums w6 w1.heap.size w4.heap.size g k s n c y _ _ (by rw [lk_ne _ _ _ _ _ rfl, q3]) (by rw [lk_ne _ _ _ _ _ rfl, p4, lk_same]) hf6 hg1 hg2) ?_
      rintro a w7 ⟨l7, rfl, r2, r3, hO7, hf7⟩
      exact ⟨_, rfl, by rw [r2, lk_ne _ _ _ _ _ rfl, q2], r3, hb6.trans (hO7.below hb6.size (fun q hq => by subst hq; exact hb1.size)), ha6.only hO7 hne, hf7⟩
  · rintro a w7 ⟨l7, rfl, q2, q3, hb7, ha7, hf7⟩
    refine wp_mono (fail_p15 w7 _ _ w.heap.size w1.heap.size k s n c q2 q3 ha7 hf7) ?_
    rintro e a w8 ⟨rfl, l8, rfl, r2, hO8, ha8⟩
    refine retCell rfl rfl r2 (load_failure w8 w.heap.size k s n c ha8) ⟨rfl, ?_⟩
    exact hb7.trans (hO8.below hb7.size (fun q hq => by subst hq; exact Nat.le_refl _))
set_option maxRecDepth 100000 in
theorem failure_nil (w : World) : Calls Tryz.prog 28 [.nilIface].toArray w fun e w' => e = .returned (.agg (failV 0 0 0 0).toArray) ∧ Below w.heap.size w w' := by
  refine enter 48 Tryz.func28 rfl rfl (by simp) ?_
  refine seq_part (x := fail0) (fail_p0 w _ _) ?_
  rintro a w1 ⟨l1, rfl, rfl, hw1⟩
  have ha1 : Blk w1 w.heap.size 51 (failV 0 0 0 0) := by rw [hw1]; exact Blk.new w _ _
  have hb1 : Below w.heap.size w w1 := by rw [hw1]; exact (Below.refl _ w).alloc (Nat.le_refl _) _
  have hc := ha1.cell
  have hz := ha1.frozen
  unfold failV i64v at hc
  have HF := Lib.hid (And.intro ha1 hb1)
  clear ha1 hw1 hb1
  go_wp
  refine wp_if_true rfl (by simp [lk]) ?_
  go_wp
  refine retCell rfl rfl (by simp [lk]) (load_failure _ w.heap.size 0 0 0 0 ((((HF.out.1.set 0 (i64v 0)).set 1 (i64v 0)).set 2 (i64v 0)).set 3 (i64v 0))) ⟨rfl, ?_⟩
  refine HF.out.2.trans (Only.below (S := fun q => q = w.heap.size) ?_ HF.out.2.size (fun q hq => by subst hq; exact Nat.le_refl _))
  exact ((((Only.refl (fun q => q = w.heap.size) w1).setCell (p := ⟨w.heap.size, 0, none⟩) (fun _ => rfl) _).setCell (p := ⟨w.heap.size, 1, none⟩) (fun _ => rfl) _).setCell (p := ⟨w.heap.size, 2, none⟩) (fun _ => rfl) _).setCell (p := ⟨w.heap.size, 3, none⟩) (fun _ => rfl) _
/-- How a sentinel compares with the four. -/
theorem eql_sents {B : Nat} {w : World} {G : Glob} (hG : GInv B w G) (a : EA) (k : Nat) (h : (k = 1 ∧ a = G.eof) ∨ (k = 2 ∧ a = G.bare) ∨ (k = 3 ∧ a = G.quote) ∨ (k = 4 ∧ a = G.count) ∨ (k = 5 ∧ a = G.inval)) :
    (binOp .eql 70 (errVal a) (errVal G.eof)).run Tryz.prog w = .ok (.bool (k == 1)) w ∧ (binOp .eql 70 (errVal a) (errVal G.bare)).run Tryz.prog w = .ok (.bool (k == 2)) w ∧
    (binOp .eql 70 (errVal a) (errVal G.quote)).run Tryz.prog w = .ok (.bool (k == 3)) w ∧ (binOp .eql 70 (errVal a) (errVal G.count)).run Tryz.prog w = .ok (.bool (k == 4)) w := by
  rcases h with ⟨rfl, rfl⟩ | ⟨rfl, rfl⟩ | ⟨rfl, rfl⟩ | ⟨rfl, rfl⟩ | ⟨rfl, rfl⟩
  · exact ⟨eql_same _ _, eql_other hG.eof hG.bare (by decide), eql_other hG.eof hG.quote (by decide), eql_other hG.eof hG.count (by decide)⟩
  · exact ⟨eql_other hG.bare hG.eof (by decide), eql_same _ _, eql_other hG.bare hG.quote (by decide), eql_other hG.bare hG.count (by decide)⟩
  · exact ⟨eql_other hG.quote hG.eof (by decide), eql_other hG.quote hG.bare (by decide), eql_same _ _, eql_other hG.quote hG.count (by decide)⟩
  · exact ⟨eql_other hG.count hG.eof (by decide), eql_other hG.count hG.bare (by decide), eql_other hG.count hG.quote (by decide), eql_same _ _⟩
  · exact ⟨eql_other hG.inval hG.eof (by decide), eql_other hG.inval hG.bare (by decide), eql_other hG.inval hG.quote (by decide), eql_other hG.inval hG.count (by decide)⟩
theorem failure_any (B : Nat) (G : Glob) (w0 w : World) (ev : Value) (e : Csv.Fail) (hG : GInv B w G) (hE : ETy B w) (hBw : B ≤ w.heap.size) (he : ErrOut G w0 w ev e) :
    Calls Tryz.prog 28 [ev].toArray w fun e' w' => e' = .returned (.agg (failV e.kind e.start e.line e.col).toArray) ∧ Below w.heap.size w w' := by
  have sent : ∀ (a : EA) (k : Nat), ((k = 1 ∧ a = G.eof) ∨ (k = 5 ∧ a = G.inval)) → Calls Tryz.prog 28 [errVal a].toArray w fun e' w' => e' = .returned (.agg (failV k 0 0 0).toArray) ∧ Below w.heap.size w w' := by
    intro a k h
    refine failure_iface B G w _ _ k 0 0 0 hG hBw (by omega) (fun w1 hb => ?_) (fun w1 tb hb htb ht => ?_)
    · obtain ⟨q1, q2, q3, q4⟩ := eql_sents (hG.keep (hb.mono hBw)) a k (by rcases h with h | h <;> simp [h])
      exact ⟨is_sent a _ _ w1 q1, is_sent a _ _ w1 q2, is_sent a _ _ w1 q3, is_sent a _ _ w1 q4⟩
    · refine as_any B _ tb w1 (hE.keep (hb.mono hBw)) (Nat.le_trans hBw hb.size) ht _ (fun w2 va hb2 hva => ?_) ⟨_, _, rfl⟩
      refine (asc_miss a _ _ w2 ⟨_, _, _, rfl, rfl, rfl, rfl⟩).mono ?_
      rintro e w3 ⟨rfl, hb3⟩
      exact ⟨false, rfl, ((Only.of_below hb2).mono (fun k hk h => absurd hk (by omega))).trans ((Only.of_below hb3).mono (fun k hk h => absurd hk (by omega))) (fun k _ h => h), .inl ⟨rfl, rfl, rfl, rfl⟩⟩
  rcases he with (⟨rfl, rfl⟩ | ⟨g, a, rfl, _, hg, hk⟩) | ⟨rfl, rfl⟩ | ⟨rfl, rfl⟩
  · exact failure_nil w
  · refine failure_iface B G w _ _ e.kind e.start e.line e.col hG hBw (by omega) (fun w1 hb => ?_) (fun w1 tb hb htb ht => ?_)
    · obtain ⟨q1, q2, q3, q4⟩ := eql_sents (hG.keep (hb.mono hBw)) a e.kind (by rcases hk with h | h | h <;> simp [h])
      have hc := (hg.below hb hg.lt).cell 3
      exact ⟨is_parse g a _ _ w1 hc q1, is_parse g a _ _ w1 hc q2, is_parse g a _ _ w1 hc q3, is_parse g a _ _ w1 hc q4⟩
    · refine as_any B _ tb w1 (hE.keep (hb.mono hBw)) (Nat.le_trans hBw hb.size) ht _ (fun w2 va hb2 hva => ?_) ⟨_, _, rfl⟩
      have ht2 := ht.below hb2 ht.lt
      have hg2 := (hg.below hb hg.lt).below hb2 (Nat.lt_of_lt_of_le hg.lt hb.size)
      refine (asc_hit g tb va _ w2 hva ht2).mono ?_
      rintro e' w3 ⟨rfl, hO3, hc3⟩
      refine ⟨true, rfl, ((Only.of_below hb2).mono (fun k hk h => absurd hk (by omega))).trans hO3 (fun k _ h => h), .inr ⟨rfl, g, errVal a, hc3, hg2.only hO3 (hg2.ne ht2 (by decide))⟩⟩
  · exact sent G.eof 1 (.inl ⟨rfl, rfl⟩)
  · exact sent G.inval 5 (.inr ⟨rfl, rfl⟩)
end Go.Proofs.YtfadgnopfjajbaaGreatDoor
namespace Go.Proofs.YtfadgnopfjajbaaGreatDoor
open Go.RowKit
/-- The slice v holds the strings fs, in a block from B on. -/
def StrS (B : Nat) (w : World) (v : Value) (fs : List (List UInt8)) : Prop := w.ownsRow B 9 1 v fs.length (fs.map strV)
theorem StrS.nil (B : Nat) (w : World) : StrS B w (.slice none 0 0) [] := ⟨rfl, .inl ⟨rfl, rfl⟩⟩
theorem StrS.only {B : Nat} {w w' : World} {v : Value} {fs : List (List UInt8)} (h : StrS B w v fs) {S : Nat → Prop} (hO : Only S w w') (hS : ∀ k, v.ownBlock = some k → ¬ S k) : StrS B w' v fs := ownsRow_only h hO hS
theorem StrS.below {B N : Nat} {w w' : World} {v : Value} {fs : List (List UInt8)} (h : StrS B w v fs) (hb : Below N w w') (hN : ∀ k, v.ownBlock = some k → k < N) : StrS B w' v fs := h.only (Only.of_below hb) (fun k hk s => by have := hN k hk; omega)
theorem StrS.mono {B B' : Nat} {w : World} {v : Value} {fs : List (List UInt8)} (h : StrS B w v fs) (hB : B' ≤ B) : StrS B' w v fs := by
  refine ⟨h.1, ?_⟩
  rcases h.2 with h | ⟨g, cap, cur, h1, h2, h3⟩
  · exact .inl h
  · exact .inr ⟨g, cap, cur, h1, Nat.le_trans hB h2, h3⟩
theorem StrS.of_blk {B : Nat} {w : World} {g n : Nat} {arr : List (List UInt8)} (h : Blk w g 9 (arr.map strV)) (hB : B ≤ g) (hn : n ≤ arr.length) (hm : arr.length ≤ maxLen) : StrS B w (.slice (some ⟨g, 0, none⟩) n arr.length) (arr.take n) := by
  have hl : (arr.take n).length = n := by rw [List.length_take]; omega
  refine ⟨by simp, .inr ⟨g, arr.length, _, by rw [hl], hB, h, by rw [hl]; exact hn, hm, by simp, ?_⟩⟩
  rw [hl, Nat.mul_one]
  simp [List.map_take]
theorem StrS.cell {B : Nat} {w : World} {g n c : Nat} {o : Option Nat} {fs : List (List UInt8)} (h : StrS B w (.slice (some ⟨g, 0, o⟩) n c) fs) (j : Nat) (x : List UInt8) (hj : fs[j]? = some x) : o = none ∧ w.cell? ⟨g, j, none⟩ = some (strV x) := by
  rcases h.2 with ⟨h1, _⟩ | ⟨g', cap, cur, h1, hb, hg, h2, h3, h4, h5⟩
  · cases h1
  · injection h1 with h1
    injection h1 with h1
    injection h1 with e1 e2 e3
    subst e1 e3
    refine ⟨rfl, ?_⟩
    have := World.ownsRow.cells h (g := g) rfl j (strV x) (by rw [List.getElem?_map, hj]; rfl)
    rw [Addr.add_mk] at this
    simpa using this
theorem StrS.form {B : Nat} {w : World} {v : Value} {fs : List (List UInt8)} (h : StrS B w v fs) : ∃ A c, v = .slice A fs.length c ∧ fs.length ≤ c ∧ c ≤ maxLen ∧ (A = none → fs = [] ∧ c = 0) ∧ (∀ a, A = some a → ∃ g, a = ⟨g, 0, none⟩ ∧ B ≤ g ∧ g < w.heap.size) := by
  obtain ⟨A, c, h1, h2, h3, h4, h5⟩ := ownsRow_form h
  exact ⟨A, c, h1, h2, h3, fun e => ⟨List.eq_nil_of_length_eq_zero (h4 e).1, (h4 e).2⟩, h5⟩
set_option maxRecDepth 100000 in
theorem append_strs (w : World) (B : Nat) (ty : TypeId) (v : Value) (l : List (List UInt8)) (hown : StrS B w v l) (b o c : Nat) (m : List (List UInt8)) (hm : ∀ (j : Nat) (x : List UInt8), m[j]? = some x → w.cell? ⟨b, o + j, none⟩ = some (strV x))
    (hlen : l.length + m.length < 70368744177664 / 16) (hB : B ≤ w.heap.size) :
    ∃ v' w', (Builtin.append_ #[36, 36] ty #[v, .slice (some ⟨b, o, none⟩) m.length c]).run Tryz.prog w = .ok v' w' ∧ StrS B w' v' (l ++ m) ∧ w.grownBy w' v.ownBlock ∧ (v'.ownBlock = v.ownBlock ∨ v'.ownBlock = some w.heap.size) := by
  cases hi : Tryz.prog.info? 9 with
  | none => have := info_string; rw [hi] at this; cases this
  | some i =>
    have h := info_string
    rw [hi] at h
    simp only [Option.map_some, Option.some.injEq, Prod.mk.injEq] at h
    obtain ⟨hz, hs, hb⟩ := h
    obtain ⟨v', w', h1, h2, h3, h4, h5⟩ := run_append_own_at (P := Tryz.prog) w B 36 ty 9 i _ 1 16 Tryz.underlying36 hi hz hs hb rfl (by omega) v l.length (l.map strV) hown ⟨b, o, none⟩ m.length c (m.map strV) (by simp)
      (fun j u hu => by
        rw [List.getElem?_map] at hu
        cases hj : m[j]? with
        | none => rw [hj] at hu; cases hu
        | some x => rw [hj] at hu; injection hu with hu; subst hu; rw [Addr.add_mk]; exact hm j x hj)
      (fun u hu => by obtain ⟨y, _, rfl⟩ := List.mem_map.1 hu; rfl) (by simp only [maxLen]; omega) (by omega) hB
    refine ⟨v', w', h1, ?_, h3, h5⟩
    unfold StrS
    simpa using h2
set_option maxRecDepth 100000 in
theorem clone_any (B : Nat) (w : World) (v : Value) (fs : List (List UInt8)) (h : StrS B w v fs) (hlen : fs.length < 1099511627776) :
    Calls Tryz.prog 27 [v].toArray w fun e w' => ∃ v', e = .returned v' ∧ StrS w.heap.size w' v' fs ∧ Below w.heap.size w w' := by
  refine enter 5 Tryz.func27 rfl rfl (by simp) ?_
  obtain ⟨A, c, rfl, hc, hcm, hA, hS⟩ := h.form
  rcases A with _ | A
  · obtain ⟨e1, rfl⟩ := hA rfl
    rw [e1]
    simp only [List.length_nil]
    clear h hA hS e1 hlen
    go_wp
    exact ret1 rfl rfl ⟨_, rfl, by simp [lk]; exact StrS.nil _ _, Below.refl _ _⟩
  · obtain ⟨g, rfl, _, hg⟩ := hS A rfl
    obtain ⟨v', w', hrun, hown, hgr, hat⟩ := append_strs w w.heap.size 36 (.slice none 0 0) [] (StrS.nil _ _) g 0 c fs (fun j x hj => by have := (h.cell j x hj).2; rw [Nat.zero_add]; exact this) (by simp; omega) (Nat.le_refl _)
    have hb : Below w.heap.size w w' := ⟨hgr.os, hgr.tape, hgr.output, hgr.size, fun k hk => hgr.block k hk (by intro e; cases e)⟩
    have HF := Lib.hid (And.intro hown hb)
    clear hown hgr hat hb h hA hS
    refine wp_seq_mid (fun a w1 => ∃ l, a = Fr 5 l (fun _ => undef) ∧ lk l (fun _ => undef) 0 = .slice (some ⟨g, 0, none⟩) fs.length c ∧ w1 = w) ?_ ?_
    · go_wp
      exact ⟨_, rfl, by simp [lk], trivial⟩
    rintro a w1 ⟨l, rfl, h0, rfl⟩
    refine wp_seq ?_
    refine region_split 1 ?_
    simp only [List.take_succ_cons, List.take_zero, List.drop_succ_cons, List.drop_zero]
    go_wp
    refine Stop.mk (wl_append _ _ _ rfl rfl rfl (by rw [Fr_eval _ _ _ _ rfl]; simp only [lk]; rfl) hrun ?_)
    rw [Fr_put]
    clear hrun
    go_wp
    exact ret1 rfl rfl ⟨_, rfl, by simp [lk]; simpa using HF.out.1, HF.out.2⟩
end Go.Proofs.YtfadgnopfjajbaaGreatDoor
namespace Go.Proofs.YtfadgnopfjajbaaGreatDoor
open Go.RowKit
set_option maxRecDepth 100000 in
theorem InputOffset_any (B : Nat) (G : Glob) (w : World) (c : CSt) (r : RSt) (hc : RInv B G w c r) : Calls Tryz.prog 31 [.pointer (some ⟨c.cr, 0, none⟩)].toArray w fun e w' => e = .returned (i64v c.offset) ∧ w' = w := by
  have hcr := hc.l.cr.cell
  unfold crCells at hcr
  clear hc
  refine enter 7 Tryz.func31 rfl rfl (by simp) ?_
  go_wp
  exact ret1 rfl rfl ⟨by simp [lk, i64v], rfl⟩
def posText : Value := .string ⟨#[111, 117, 116, 32, 111, 102, 32, 114, 97, 110, 103, 101, 32, 105, 110, 100, 101, 120, 32, 112, 97, 115, 115, 101, 100, 32, 116, 111, 32, 70, 105, 101, 108, 100, 80, 111, 115]⟩
set_option maxRecDepth 100000 in
theorem FieldPos_bad (B : Nat) (G : Glob) (w : World) (c : CSt) (r : RSt) (i : Int) (hc : RInv B G w c r) (hi : i < 0 ∨ (r.pos.length : Int) ≤ i) : Calls Tryz.prog 55 [.pointer (some ⟨c.cr, 0, none⟩), .int .i64 i].toArray w fun e w' => e = .panicked [{ v := .iface 9 posText, recovered := false }] ∧ w' = w := by
  have hcr := hc.l.cr.cell
  unfold crCells at hcr
  obtain ⟨A1, c1, hA1, _⟩ := ownsRow_form hc.pos
  rw [hA1] at hcr
  clear hc hA1
  refine enter 33 Tryz.func55 rfl rfl (by simp) ?_
  obtain ⟨n, hn⟩ : ∃ n, n = r.pos.length := ⟨_, rfl⟩
  rw [← hn] at hcr hi
  clear hn
  rcases Int.lt_or_le i 0 with h | h
  · clear hi
    go_wp
    refine wp_if_true rfl (by simp [lk]) ?_
    go_wp
    exact ⟨Fr_defers _ _ _, rfl, rfl⟩
  · have h1 : (n : Int) ≤ i := by omega
    have h2 : ¬ i < 0 := by omega
    clear hi
    go_wp
    refine wp_if_true rfl (by simp [lk]) ?_
    go_wp
    exact ⟨Fr_defers _ _ _, rfl, rfl⟩
set_option maxRecDepth 100000 in
theorem FieldPos_good (B : Nat) (G : Glob) (w : World) (c : CSt) (r : RSt) (i : Nat) (p : Nat × Nat) (hc : RInv B G w c r) (hi : r.pos[i]? = some p) : Calls Tryz.prog 55 [.pointer (some ⟨c.cr, 0, none⟩), .int .i64 (i : Int)].toArray w fun e w' => e = .returned (.tuple #[i64v p.1, i64v p.2]) ∧ w' = w.drew := by
  have hcr := hc.l.cr.cell
  unfold crCells at hcr
  have hil : i < r.pos.length := by
    rcases Nat.lt_or_ge i r.pos.length with h | h
    · exact h
    · rw [List.getElem?_eq_none h] at hi; cases hi
  obtain ⟨A1, c1, hA1, _, _, hnil, hsome⟩ := ownsRow_form hc.pos
  rcases A1 with _ | A1
  · have := (hnil rfl).1; omega
  · obtain ⟨g, rfl, _, _⟩ := hsome A1 rfl
    have hob : c.pos.ownBlock = some g := by rw [hA1]; rfl
    have hfm : ∀ (l : List (Nat × Nat)) (i : Nat) (p : Nat × Nat), l[i]? = some p → (l.flatMap posCells)[2 * i]? = some (i64v p.1) ∧ (l.flatMap posCells)[2 * i + 1]? = some (i64v p.2) := by
      intro l
      induction l with
      | nil => intro i p h; simp at h
      | cons q l ih =>
        intro i p h
        cases i with
        | zero => simp at h; subst h; exact ⟨rfl, rfl⟩
        | succ i =>
          have := ih i p (by simpa using h)
          rw [show 2 * (i + 1) = 2 * i + 2 by omega, show 2 * i + 2 + 1 = 2 * i + 1 + 2 by omega]
          simpa [posCells, List.flatMap_cons] using this
    obtain ⟨q1, q2⟩ := hfm r.pos i p hi
    have c1' := hc.pos.cells (g := g) hob (2 * i) _ q1
    have c2' := hc.pos.cells (g := g) hob (2 * i + 1) _ q2
    rw [Addr.add_mk] at c1' c2'
    unfold i64v at c1' c2'
    rw [hA1] at hcr
    obtain ⟨n, hn⟩ : ∃ n, n = r.pos.length := ⟨_, rfl⟩
    rw [← hn] at hcr hil
    rw [show (0 + 2 * i) = i * 2 by omega] at c1'
    rw [show (0 + (2 * i + 1)) = i * 2 + 1 by omega] at c2'
    have hil2 : (i : Int) < (n : Int) := by omega
    have hil3 : ¬ (i : Int) < 0 := by omega
    clear hc hA1 hn hi q1 q2 hfm hob hnil hsome
    refine enter 33 Tryz.func55 rfl rfl (by simp) ?_
    go_wp
    refine wp_if_false rfl (by simp [lk] <;> omega) ?_
    go_wp
    refine draw_still mixed (by kernel_rfl) ?_
    iterate 10 still_step
    refine wpStill_nil ?_
    go_wp
    exact ret2 rfl rfl rfl ⟨by simp [lk, i64v], rfl⟩
/-- The cells of an Answer. -/
def ansCells (rv lv sv : Value) (k s n c : Nat) (ln cl : Nat) (pn : Bool) (x : Int) : List Value := [rv, lv, sv, i64v k, i64v s, i64v n, i64v c, i64v ln, i64v cl, .bool pn, .int .i64 x]
def ansZero : List Value := ansCells (.slice none 0 0) (.slice none 0 0) (.slice none 0 0) 0 0 0 0 0 0 false 0
def ansPan : List Value := ansCells (.slice none 0 0) (.slice none 0 0) (.slice none 0 0) 0 0 0 0 0 0 true 0
set_option maxRecDepth 100000 in
theorem catch_panicking (p : Nat) (u : TypeId) (pv : Value) (older : List PanicEntry) (w : World) (hp : Blk w p 53 ansZero) :
    CallsD Tryz.prog 54 #[.pointer (some ⟨p, 0, none⟩)] (.panicking ({ v := .iface u pv, recovered := false } :: older)) w fun e u' w' =>
      e = .returned (.tuple #[]) ∧ u' = .panicking ({ v := .iface u pv, recovered := true } :: older) ∧ Only (fun k => k = p) w w' ∧ Blk w' p 53 ansPan := by
  have hc := hp.cell
  have hz := hp.frozen
  unfold ansZero ansCells i64v at hc
  refine callsD_of_wpS Tryz.func54 rfl fun c₀ cs hu => ?_
  apply wpS_seq
  apply wpS_region
  simp [wpOpsS, go_sem, recoverD, hu, Exit.thenS]
  refine wpS_cond (t := true) (by simp [Act.eval, Array.replicate]) ?_
  simp only [if_true]
  apply wpS_region
  simp [wpOpsS, go_sem, hc, hz, bodyPostS, results]
  refine ⟨?_, ?_⟩
  · exact (((((((((((Only.refl (fun k => k = p) w).setCell (p := ⟨p, 0, none⟩) (fun _ => rfl) _).setCell (p := ⟨p, 1, none⟩) (fun _ => rfl) _).setCell (p := ⟨p, 2, none⟩) (fun _ => rfl) _).setCell (p := ⟨p, 3, none⟩) (fun _ => rfl) _).setCell (p := ⟨p, 4, none⟩) (fun _ => rfl) _).setCell (p := ⟨p, 5, none⟩) (fun _ => rfl) _).setCell (p := ⟨p, 6, none⟩) (fun _ => rfl) _).setCell (p := ⟨p, 7, none⟩) (fun _ => rfl) _).setCell (p := ⟨p, 8, none⟩) (fun _ => rfl) _).setCell (p := ⟨p, 9, none⟩) (fun _ => rfl) _).setCell (p := ⟨p, 10, none⟩) (fun _ => rfl) _
  · exact (((((((((((hp.set 0 (.slice none 0 0)).set 1 (.slice none 0 0)).set 2 (.slice none 0 0)).set 3 (i64v 0)).set 4 (i64v 0)).set 5 (i64v 0)).set 6 (i64v 0)).set 7 (i64v 0)).set 8 (i64v 0)).set 9 (.bool true)).set 10 (.int .i64 0))
set_option maxRecDepth 100000 in
theorem catch_idle (p : Addr) (w : World) :
    CallsD Tryz.prog 54 #[.pointer (some p)] .returning w fun e u' w' => e = .returned (.tuple #[]) ∧ u' = .returning ∧ w' = w := by
  refine callsD_of_wpS Tryz.func54 rfl fun c₀ cs hu => ?_
  apply wpS_seq
  apply wpS_region
  simp [wpOpsS, go_sem, recoverD, hu, Exit.thenS]
  refine wpS_cond (t := false) (by simp [Act.eval, Array.replicate]) ?_
  simp only [Bool.false_eq_true, if_false]
  refine wpS_of_wp (wp_skip ?_)
  cases c₀
  simp_all [bodyPostS, results]
theorem load_answer (w : World) (g : Nat) (rv lv sv : Value) (k s n c ln cl : Nat) (pn : Bool) (x : Int) (h : Blk w g 53 (ansCells rv lv sv k s n c ln cl pn x)) : (loadVar 53 ⟨g, 0, none⟩).run Tryz.prog w = .ok (.agg (ansCells rv lv sv k s n c ln cl pn x).toArray) w := by
  have hc := h.cell
  unfold ansCells at hc ⊢
  have h0 := hc 0
  have h1 := hc 1
  have h2 := hc 2
  have h3 := hc 3
  have h4 := hc 4
  have h5 := hc 5
  have h6 := hc 6
  have h7 := hc 7
  have h8 := hc 8
  have h9 := hc 9
  have h10 := hc 10
  simp at h0 h1 h2 h3 h4 h5 h6 h7 h8 h9 h10
  go_simp
set_option maxRecDepth 100000 in
set_option maxHeartbeats 1000000 in
theorem position_bad (B : Nat) (G : Glob) (w : World) (c : CSt) (r : RSt) (i : Int) (hc : RInv B G w c r) (hi : i < 0 ∨ (r.pos.length : Int) ≤ i) : Calls Tryz.prog 30 #[.pointer (some ⟨c.cr, 0, none⟩), .int .i64 i] w fun e w' => e = .returned (.agg ansPan.toArray) ∧ Below w.heap.size w w' := by
  have hmf : ∀ (fn : Fn) (first cap : Array Value) (w : World), (Instr.makeFunc fn first cap).run Tryz.prog w = .ok (.func fn first cap) w := fun _ _ _ _ => rfl
  have hb1 : Below w.heap.size w (w.alloc (.cells ansZero.toArray 53)) := (Below.refl _ w).alloc (Nat.le_refl _) _
  have cF := FieldPos_bad B G _ c r i (hc.below hb1) hi
  have hp := Blk.new w 53 ansZero
  have cD := catch_panicking w.heap.size 9 posText [] _ hp
  clear hc hi
  refine calls_of_wp_defers Tryz.func30 rfl ?_
  go_wp2_with fail
  refine cF.mono ?_
  rintro e w' ⟨rfl, rfl⟩
  dsimp only
  refine leaves_cons (f := 54) (args := #[.pointer (some ⟨w.heap.size, 0, none⟩)]) (by simp) (by simp [go_sem]) ?_
  refine cD.mono ?_
  rintro e u' w2 ⟨rfl, rfl, hO, hb⟩
  have hcc := hb.cell
  unfold ansPan ansCells i64v at hcc
  simp [Leaves, settle, results, go_sem, hcc]
  refine ⟨rfl, ?_⟩
  exact hb1.trans (hO.below hb1.size (fun k hk => by subst hk; exact Nat.le_refl _))
set_option maxRecDepth 100000 in
set_option maxHeartbeats 1000000 in
theorem position_good (B : Nat) (G : Glob) (w : World) (c : CSt) (r : RSt) (i : Nat) (p : Nat × Nat) (hc : RInv B G w c r) (hi : r.pos[i]? = some p) : Calls Tryz.prog 30 #[.pointer (some ⟨c.cr, 0, none⟩), .int .i64 (i : Int)] w fun e w' => e = .returned (.agg (ansCells (.slice none 0 0) (.slice none 0 0) (.slice none 0 0) 0 0 0 0 p.1 p.2 false 0).toArray) ∧ Below w.heap.size w w' := by
  have hmf : ∀ (fn : Fn) (first cap : Array Value) (w : World), (Instr.makeFunc fn first cap).run Tryz.prog w = .ok (.func fn first cap) w := fun _ _ _ _ => rfl
  have hb1 : Below w.heap.size w (w.alloc (.cells ansZero.toArray 53)) := (Below.refl _ w).alloc (Nat.le_refl _) _
  have cF : Calls Tryz.prog 55 [.pointer (some ⟨c.cr, 0, none⟩), .int .i64 (i : Int)].toArray (w.alloc (.cells #[.slice none 0 0, .slice none 0 0, .slice none 0 0, .int .i64 0, .int .i64 0, .int .i64 0, .int .i64 0, .int .i64 0, .int .i64 0, .bool false, .int .i64 0] 53)) fun e w' => e = .returned (.tuple #[.int .i64 (p.1 : Int), .int .i64 (p.2 : Int)]) ∧ w' = (w.alloc (.cells #[.slice none 0 0, .slice none 0 0, .slice none 0 0, .int .i64 0, .int .i64 0, .int .i64 0, .int .i64 0, .int .i64 0, .int .i64 0, .bool false, .int .i64 0] 53)).drew := FieldPos_good B G _ c r i p (hc.below hb1) hi
  have cD := catch_idle ⟨w.heap.size, 0, none⟩
  clear hc hi
  refine calls_of_wp_defers Tryz.func30 rfl ?_
  go_wp2_with fail
  refine cF.mono ?_
  rintro e w' ⟨rfl, rfl⟩
  dsimp only
  go_wp2
  refine leaves_cons (f := 54) (args := #[.pointer (some ⟨w.heap.size, 0, none⟩)]) (by simp) (by simp [go_sem]) ?_
  refine (cD _).mono ?_
  rintro e u' w2 ⟨rfl, rfl, rfl⟩
  simp [Leaves, settle, results, go_sem]
  refine ⟨rfl, ?_⟩
  exact ((Below.refl _ w).alloc (Nat.le_refl _) _).drew
end Go.Proofs.YtfadgnopfjajbaaGreatDoor
