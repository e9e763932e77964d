import Derived.Test.YbulkuwsProg
import Derived.WalkKit
import Derived.WalkSpells
import Derived.WalkLawsBesides
import Derived.KernelRfl
import Derived.LaidEql
import Derived.Stop.Asserts
import Derived.Deep.LoopGhost
namespace Go.Proofs.Ybulkuws.ErrIs
open Go.RowKit Go.Extern

theorem isTypeOf (v : Value) (w : World) : (Extern.ReflectliteType.typeOf #[.iface 48 v]).run Yba.prog w = .ok (.iface 116 (.agg #[.pointer (some ⟨0, 48, none⟩)])) w := by kernel_rfl
def cmpEntry : Array Value → Sem Value := Extern.ReflectliteType.method fun t => do Extern.Rtype.noPackHeld "Comparable" t; pure (.bool (← typeInfo t).comparable)
theorem isComparable (w : World) : (cmpEntry #[.agg #[.pointer (some ⟨0, 48, none⟩)]]).run Yba.prog w = .ok (.bool true) w := by kernel_rfl
theorem call62 (args : Array Value) (w : World) : (callFunc 62 args).run Yba.prog w = ((cmpEntry args).run Yba.prog w).andThen fun v w' => .ok (.value v) w' :=
  @run_callFunc_extern Yba.prog 62 _ cmpEntry Yba.func62 (by kernel_rfl) (by kernel_rfl) (by kernel_rfl) (by kernel_rfl) args w
theorem call25 (args : Array Value) (w : World) : (callFunc 25 args).run Yba.prog w = ((Extern.ReflectliteType.typeOf args).run Yba.prog w).andThen fun v w' => .ok (.value v) w' :=
  @run_callFunc_extern Yba.prog 25 _ Extern.ReflectliteType.typeOf Yba.func25 (by kernel_rfl) (by kernel_rfl) (by kernel_rfl) (by kernel_rfl) args w
theorem isMethodComparable (v : Value) (w : World) : (Go.method 436 116 v "Comparable").run Yba.prog w = .ok (62, v) w := by kernel_rfl
theorem isComp : (Yba.prog.info? 48).map (·.comparable) = some true := by kernel_rfl
theorem isSize : (Yba.prog.info? 50).map (·.size) = some 1 := by kernel_rfl

theorem noIsS (v : Value) (xT : TypeId) (w : World) : (Instr.typeAssert (.iface 48 v) xT 118 true).run Yba.prog w = .ok (.tuple #[.nilIface, .bool false]) w := run_typeAssert_lacksB Yba.underlying118 (by kernel_rfl) (by kernel_rfl) v xT w
theorem noUnwrapS (v : Value) (xT : TypeId) (w : World) : (Instr.typeAssert (.iface 48 v) xT 121 true).run Yba.prog w = .ok (.tuple #[.nilIface, .bool false]) w := run_typeAssert_lacksB Yba.underlying121 (by kernel_rfl) (by kernel_rfl) v xT w
theorem noUnwrapsS (v : Value) (xT : TypeId) (w : World) : (Instr.typeAssert (.iface 48 v) xT 123 true).run Yba.prog w = .ok (.tuple #[.nilIface, .bool false]) w := run_typeAssert_lacksB Yba.underlying123 (by kernel_rfl) (by kernel_rfl) v xT w
theorem noIsW (v : Value) (xT : TypeId) (w : World) : (Instr.typeAssert (.iface 91 v) xT 118 true).run Yba.prog w = .ok (.tuple #[.nilIface, .bool false]) w := run_typeAssert_lacksB Yba.underlying118 (by kernel_rfl) (by kernel_rfl) v xT w
theorem hasUnwrapW (v : Value) (xT : TypeId) (w : World) : (Instr.typeAssert (.iface 91 v) xT 121 true).run Yba.prog w = .ok (.tuple #[.iface 91 v, .bool true]) w := run_typeAssert_hasB Yba.underlying121 (by kernel_rfl) v xT w
theorem methodUnwrap (v : Value) (w : World) : (Go.method 436 91 v "Unwrap").run Yba.prog w = .ok (58, v) w := by kernel_rfl

/-- 'v' is the sentinel at block sb behind d wraps. -/
def Chain (w : World) (sb : Nat) : Nat → Value → Prop
  | 0, v => v = .iface 48 (.pointer (some ⟨sb, 0, none⟩))
  | d + 1, v => ∃ pb u, v = .iface 91 (.pointer (some ⟨pb, 0, none⟩)) ∧ w.cell? ⟨pb, 0, none⟩ = some u ∧ Chain w sb d u

theorem Chain.held {w : World} {sb d : Nat} {v : Value} (h : Chain w sb d v) : ∃ t x, v = .iface t x := by
  cases d with
  | zero => exact ⟨_, _, h⟩
  | succ d => obtain ⟨pb, u, rfl, _⟩ := h; exact ⟨_, _, rfl⟩

set_option maxRecDepth 100000 in
set_option maxHeartbeats 800000 in
/-- errors.is(err, target, true): the sentinel of the chain against the target's. -/
theorem is_chain26 (d : Nat) (v : Value) (sb tb : Nat) (cs ct : Array Value) (ts tt : TypeId) (w : World) (h : Chain w sb d v) (hs : w.heap[sb]? = some (.cells cs ts (0, 0))) (ht : w.heap[tb]? = some (.cells ct tt (0, 0))) :
    Calls Yba.prog 26 #[v, .iface 48 (.pointer (some ⟨tb, 0, none⟩)), .bool true] w fun e w' => e = .returned (.bool (sb == tb)) ∧ w' = w := by
  obtain ⟨i, hi, hcmp⟩ := Option.map_eq_some_iff.1 isComp
  obtain ⟨j, hj, hjs⟩ := Option.map_eq_some_iff.1 isSize
  have nE := noIsS
  have uE := noUnwrapS
  have vE := noUnwrapsS
  have nW := noIsW
  have uW := hasUnwrapW
  have mU := methodUnwrap
  have heq : (binOp .eql 52 (.iface 48 (.pointer (some ⟨sb, 0, none⟩))) (.iface 48 (.pointer (some ⟨tb, 0, none⟩)))).run Yba.prog w = .ok (.bool (sb == tb)) w := by
    by_cases e : sb = tb
    · subst e
      rw [run_eql_iface_ptr_same (P := Yba.prog) w _ Yba.underlying52 Yba.underlying48 hi hcmp hj]; simp
    · rw [run_eql_iface_ptr_other (P := Yba.prog) w Yba.underlying52 Yba.underlying48 hi hcmp hj (by rw [hjs]; decide) (fun h => e (congrArg Addr.block h)) hs ht]; simp [e]
  have hty := fun (pb : Nat) => run_eql_iface_types (P := Yba.prog) 91 48 (.pointer (some ⟨pb, 0, none⟩)) (.pointer (some ⟨tb, 0, none⟩)) Yba.underlying52 (by decide) w
  clear hi hcmp hj hjs hs ht
  generalize (sb == tb) = r at *
  go_enter Yba.func26, Yba.ntmps26
  go_wp2
  go_loopg [0] d (fun k x wr => Chain w sb k x ∧ wr = w)
  case atStart => exact ⟨h, rfl⟩
  case round =>
    obtain ⟨hch, rfl⟩ := hrel
    cases gk with
    | zero =>
      obtain rfl := hch
      cases r
      · go_wp2
        go_ret
        exact ⟨rfl, rfl⟩
      · go_wp2
        go_ret
        exact ⟨rfl, rfl⟩
    | succ k =>
      obtain ⟨pb, u, rfl, hcell, hch'⟩ := hch
      obtain ⟨t, x, rfl⟩ := hch'.held
      have hch2 : Hid (Chain wr sb k (.iface t x)) := hch'
      clear hch' h
      go_wp2
      go_roundg k
      case measure => omega
      case rel => exact ⟨hch2.out, rfl⟩

set_option maxRecDepth 100000 in
set_option maxHeartbeats 800000 in
/-- errors.Is(err, target), err a chain of wraps round a sentinel. -/
theorem is_chain (d : Nat) (v : Value) (sb tb : Nat) (cs ct : Array Value) (ts tt : TypeId) (w : World) (h : Chain w sb d v) (hs : w.heap[sb]? = some (.cells cs ts (0, 0))) (ht : w.heap[tb]? = some (.cells ct tt (0, 0))) :
    Calls Yba.prog 22 #[v, .iface 48 (.pointer (some ⟨tb, 0, none⟩))] w fun e w' => e = .returned (.bool (sb == tb)) ∧ w' = w := by
  have h25 := call25
  have h62 := call62
  have tT := isTypeOf
  have cT := isComparable
  have mR := isMethodComparable
  obtain ⟨t, x, rfl⟩ := h.held
  have H : Hid (Chain w sb d (.iface t x)) := h
  have Hs : Hid (w.heap[sb]? = some (.cells cs ts (0, 0))) := hs
  have Ht : Hid (w.heap[tb]? = some (.cells ct tt (0, 0))) := ht
  clear h hs ht
  go_enter Yba.func22, Yba.ntmps22
  go_wp2_with (go_at_call 26; go_must (refine (is_chain26 d _ sb tb cs ct ts tt _ H.out Hs.out Ht.out).mono ?_; rintro e w' ⟨rfl, rfl⟩))
  go_ret
  exact ⟨rfl, rfl⟩

end Go.Proofs.Ybulkuws.ErrIs
