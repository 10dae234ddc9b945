/- Contracts of errors.Is, msgp.Cause and impl.codeOf at the error values that the package makes. -/
import Derived.Test.YtmliokplekeljaaGreatDoorProg
import Derived.WalkKit
import Derived.LaidEql
import Derived.Stop.Asserts
import Derived.RowKitTokens
import Derived.KernelRfl
import Derived.Below
import Derived.Laws.ResultCell
import Derived.Laws.BitsLemmas
import Derived.Lib.Hide
import Derived.Outline
import Derived.Test.YtmliokplekeljaaGreatDoorWWords
namespace Go.Proofs.YtmliokplekeljaaGreatDoor.M
open Go.RowKit Go.Extern.Stop Go.Stop Go.Extern
set_option linter.unusedVariables false
set_option linter.unusedSimpArgs false

theorem isTypeOf1 (w : World) : (Extern.ReflectliteType.typeOf #[.iface 212 (.agg #[])]).run Tryz.prog w = .ok (.iface 167 (.agg #[.pointer (some ⟨5, 212, none⟩)])) w := by kernel_rfl
theorem isTypeOf2 (w : World) : (Extern.ReflectliteType.typeOf #[.iface 213 (.agg #[])]).run Tryz.prog w = .ok (.iface 167 (.agg #[.pointer (some ⟨5, 213, none⟩)])) w := by kernel_rfl
/-- The model's entry for '(reflectlite.rtype).Comparable'. -/
def cmpX : Array Value → Sem Value := Extern.ReflectliteType.method fun t => do Extern.Rtype.noPackHeld "Comparable" t; pure (.bool (← typeInfo t).comparable)
theorem isComparable1 (w : World) : (cmpX #[.agg #[.pointer (some ⟨5, 212, none⟩)]]).run Tryz.prog w = .ok (.bool true) w := by kernel_rfl
theorem isComparable2 (w : World) : (cmpX #[.agg #[.pointer (some ⟨5, 213, none⟩)]]).run Tryz.prog w = .ok (.bool true) w := by kernel_rfl
theorem isMethodComparable (v : Value) (w : World) : (Go.method 316 167 v "Comparable").run Tryz.prog w = .ok (152, v) w := by kernel_rfl
theorem eql1 (w : World) : (binOp .eql 47 (.iface 212 (.agg #[])) (.iface 212 (.agg #[]))).run Tryz.prog w = .ok (.bool true) w := by kernel_rfl
theorem noIs1 (v : Value) (xT : TypeId) (w : World) : (Instr.typeAssert (.iface 76 v) xT 169 true).run Tryz.prog w = .ok (.tuple #[.nilIface, .bool false]) w := run_typeAssert_lacksB Tryz.underlying169 (by kernel_rfl) (by kernel_rfl) v xT w
theorem noUnwrap1 (v : Value) (xT : TypeId) (w : World) : (Instr.typeAssert (.iface 76 v) xT 172 true).run Tryz.prog w = .ok (.tuple #[.nilIface, .bool false]) w := run_typeAssert_lacksB Tryz.underlying172 (by kernel_rfl) (by kernel_rfl) v xT w
theorem noUnwraps1 (v : Value) (xT : TypeId) (w : World) : (Instr.typeAssert (.iface 76 v) xT 174 true).run Tryz.prog w = .ok (.tuple #[.nilIface, .bool false]) w := run_typeAssert_lacksB Tryz.underlying174 (by kernel_rfl) (by kernel_rfl) v xT w
theorem noIs2 (v : Value) (xT : TypeId) (w : World) : (Instr.typeAssert (.iface 81 v) xT 169 true).run Tryz.prog w = .ok (.tuple #[.nilIface, .bool false]) w := run_typeAssert_lacksB Tryz.underlying169 (by kernel_rfl) (by kernel_rfl) v xT w
theorem noUnwrap2 (v : Value) (xT : TypeId) (w : World) : (Instr.typeAssert (.iface 81 v) xT 172 true).run Tryz.prog w = .ok (.tuple #[.nilIface, .bool false]) w := run_typeAssert_lacksB Tryz.underlying172 (by kernel_rfl) (by kernel_rfl) v xT w
theorem noUnwraps2 (v : Value) (xT : TypeId) (w : World) : (Instr.typeAssert (.iface 81 v) xT 174 true).run Tryz.prog w = .ok (.tuple #[.nilIface, .bool false]) w := run_typeAssert_lacksB Tryz.underlying174 (by kernel_rfl) (by kernel_rfl) v xT w

/-- errors.Is(ErrShortBytes, ErrShortBytes). -/
theorem is_short (w : World) : Calls Tryz.prog 53 #[.iface 212 (.agg #[]), .iface 212 (.agg #[])] w fun e w' => e = .returned (.bool true) ∧ w = w' := by
  have h8 := @run_callFunc_extern Tryz.prog 95 _ Extern.ReflectliteType.typeOf Tryz.func95 (by kernel_rfl) (by kernel_rfl) (by kernel_rfl) (by kernel_rfl)
  have h32 := @run_callFunc_extern Tryz.prog 152 _ cmpX Tryz.func152 (by kernel_rfl) (by kernel_rfl) (by kernel_rfl) (by kernel_rfl)
  have tT := isTypeOf1
  have cT := isComparable1
  have mR := isMethodComparable
  have heq := eql1 w
  go_enter Tryz.func53, Tryz.ntmps53
  go_wp2
  refine wp_loop_rounds 1 ?_
  rw [rounds_succ]
  go_wp2
  go_ret
  exact ⟨rfl, rfl⟩

/-- errors.Is(e, target), e a TypeError. -/
theorem is_type1 (v : Value) (w : World) : Calls Tryz.prog 53 #[.iface 76 v, .iface 212 (.agg #[])] w fun e w' => e = .returned (.bool false) ∧ w = w' := by
  have h8 := @run_callFunc_extern Tryz.prog 95 _ Extern.ReflectliteType.typeOf Tryz.func95 (by kernel_rfl) (by kernel_rfl) (by kernel_rfl) (by kernel_rfl)
  have h32 := @run_callFunc_extern Tryz.prog 152 _ cmpX Tryz.func152 (by kernel_rfl) (by kernel_rfl) (by kernel_rfl) (by kernel_rfl)
  have tT := isTypeOf1
  have cT := isComparable1
  have mR := isMethodComparable
  have nE := noIs1
  have uE := noUnwrap1
  have vE := noUnwraps1
  have heq := run_eql_iface_types (P := Tryz.prog) 76 212 v (.agg #[]) Tryz.underlying47 (by decide) w
  go_enter Tryz.func53, Tryz.ntmps53
  go_wp2
  refine wp_loop_rounds 1 ?_
  rw [rounds_succ]
  go_wp2
  go_ret
  exact ⟨rfl, rfl⟩
theorem is_type2 (v : Value) (w : World) : Calls Tryz.prog 53 #[.iface 76 v, .iface 213 (.agg #[])] w fun e w' => e = .returned (.bool false) ∧ w = w' := by
  have h8 := @run_callFunc_extern Tryz.prog 95 _ Extern.ReflectliteType.typeOf Tryz.func95 (by kernel_rfl) (by kernel_rfl) (by kernel_rfl) (by kernel_rfl)
  have h32 := @run_callFunc_extern Tryz.prog 152 _ cmpX Tryz.func152 (by kernel_rfl) (by kernel_rfl) (by kernel_rfl) (by kernel_rfl)
  have tT := isTypeOf2
  have cT := isComparable2
  have mR := isMethodComparable
  have nE := noIs1
  have uE := noUnwrap1
  have vE := noUnwraps1
  have heq := run_eql_iface_types (P := Tryz.prog) 76 213 v (.agg #[]) Tryz.underlying47 (by decide) w
  go_enter Tryz.func53, Tryz.ntmps53
  go_wp2
  refine wp_loop_rounds 1 ?_
  rw [rounds_succ]
  go_wp2
  go_ret
  exact ⟨rfl, rfl⟩
theorem is_pre1 (v : Value) (w : World) : Calls Tryz.prog 53 #[.iface 81 v, .iface 212 (.agg #[])] w fun e w' => e = .returned (.bool false) ∧ w = w' := by
  have h8 := @run_callFunc_extern Tryz.prog 95 _ Extern.ReflectliteType.typeOf Tryz.func95 (by kernel_rfl) (by kernel_rfl) (by kernel_rfl) (by kernel_rfl)
  have h32 := @run_callFunc_extern Tryz.prog 152 _ cmpX Tryz.func152 (by kernel_rfl) (by kernel_rfl) (by kernel_rfl) (by kernel_rfl)
  have tT := isTypeOf1
  have cT := isComparable1
  have mR := isMethodComparable
  have nE := noIs2
  have uE := noUnwrap2
  have vE := noUnwraps2
  have heq := run_eql_iface_types (P := Tryz.prog) 81 212 v (.agg #[]) Tryz.underlying47 (by decide) w
  go_enter Tryz.func53, Tryz.ntmps53
  go_wp2
  refine wp_loop_rounds 1 ?_
  rw [rounds_succ]
  go_wp2
  go_ret
  exact ⟨rfl, rfl⟩
theorem is_pre2 (v : Value) (w : World) : Calls Tryz.prog 53 #[.iface 81 v, .iface 213 (.agg #[])] w fun e w' => e = .returned (.bool false) ∧ w = w' := by
  have h8 := @run_callFunc_extern Tryz.prog 95 _ Extern.ReflectliteType.typeOf Tryz.func95 (by kernel_rfl) (by kernel_rfl) (by kernel_rfl) (by kernel_rfl)
  have h32 := @run_callFunc_extern Tryz.prog 152 _ cmpX Tryz.func152 (by kernel_rfl) (by kernel_rfl) (by kernel_rfl) (by kernel_rfl)
  have tT := isTypeOf2
  have cT := isComparable2
  have mR := isMethodComparable
  have nE := noIs2
  have uE := noUnwrap2
  have vE := noUnwraps2
  have heq := run_eql_iface_types (P := Tryz.prog) 81 213 v (.agg #[]) Tryz.underlying47 (by decide) w
  go_enter Tryz.func53, Tryz.ntmps53
  go_wp2
  refine wp_loop_rounds 1 ?_
  rw [rounds_succ]
  go_wp2
  go_ret
  exact ⟨rfl, rfl⟩
end Go.Proofs.YtmliokplekeljaaGreatDoor.M

namespace Go.Proofs.YtmliokplekeljaaGreatDoor.M
open Go.RowKit
set_option linter.unusedVariables false
set_option linter.unusedSimpArgs false

theorem and31' : ∀ n : Fin 256, Go.bits .and .u8 ((n.val : Nat) : Int) 31 = ((n.val % 32 : Nat) : Int) := by decide +kernel
theorem and15' : ∀ n : Fin 256, Go.bits .and .u8 ((n.val : Nat) : Int) 15 = ((n.val % 16 : Nat) : Int) := by decide +kernel
theorem and127' : ∀ n : Fin 256, Go.bits .and .u8 ((n.val : Nat) : Int) 127 = ((n.val % 128 : Nat) : Int) := by decide +kernel
theorem and224' : ∀ n : Fin 256, Go.bits .and .u8 ((n.val : Nat) : Int) 224 = ((n.val / 32 * 32 : Nat) : Int) := by decide +kernel
theorem and240' : ∀ n : Fin 256, Go.bits .and .u8 ((n.val : Nat) : Int) 240 = ((n.val / 16 * 16 : Nat) : Int) := by decide +kernel
theorem and31 (v : Int) (h0 : 0 ≤ v) (h1 : v < 256) : Go.bits .and .u8 v 31 = v % 32 := by
  have := and31' ⟨v.toNat, by omega⟩
  rw [show ((v.toNat : Nat) : Int) = v from by omega] at this
  rw [this]; simp only []; omega
theorem and15 (v : Int) (h0 : 0 ≤ v) (h1 : v < 256) : Go.bits .and .u8 v 15 = v % 16 := by
  have := and15' ⟨v.toNat, by omega⟩
  rw [show ((v.toNat : Nat) : Int) = v from by omega] at this
  rw [this]; simp only []; omega
theorem and127 (v : Int) (h0 : 0 ≤ v) (h1 : v < 256) : Go.bits .and .u8 v 127 = v % 128 := by
  have := and127' ⟨v.toNat, by omega⟩
  rw [show ((v.toNat : Nat) : Int) = v from by omega] at this
  rw [this]; simp only []; omega
theorem and224 (v : Int) (h0 : 0 ≤ v) (h1 : v < 256) : Go.bits .and .u8 v 224 = v / 32 * 32 := by
  have := and224' ⟨v.toNat, by omega⟩
  rw [show ((v.toNat : Nat) : Int) = v from by omega] at this
  rw [this]; simp only []; omega
theorem and240 (v : Int) (h0 : 0 ≤ v) (h1 : v < 256) : Go.bits .and .u8 v 240 = v / 16 * 16 := by
  have := and240' ⟨v.toNat, by omega⟩
  rw [show ((v.toNat : Nat) : Int) = v from by omega] at this
  rw [this]; simp only []; omega

set_option maxRecDepth 100000 in
theorem calc_192 (w : World) : Calls Tryz.prog 97 #[.int .u8 192] w fun e w' => e = .returned (.agg #[.int .u8 1, .int .i8 0, .int .u8 10, .int .u8 0]) ∧ Below w.heap.size w w' := by
  go_enter Tryz.func97, Tryz.ntmps97
  go_wp2
  exact bodyPost_ret (v := (.agg #[.int .u8 1, .int .i8 0, .int .u8 10, .int .u8 0])) (by simp [results, Tryz.results97, go_sem]) rfl ⟨rfl, (Below.refl _ _).alloc (Nat.le_refl _) _⟩

set_option maxRecDepth 100000 in
theorem calc_193 (w : World) : Calls Tryz.prog 97 #[.int .u8 193] w fun e w' => e = .returned (.agg #[.int .u8 0, .int .i8 0, .int .u8 0, .int .u8 0]) ∧ Below w.heap.size w w' := by
  go_enter Tryz.func97, Tryz.ntmps97
  go_wp2
  exact bodyPost_ret (v := (.agg #[.int .u8 0, .int .i8 0, .int .u8 0, .int .u8 0])) (by simp [results, Tryz.results97, go_sem]) rfl ⟨rfl, (Below.refl _ _).alloc (Nat.le_refl _) _⟩

set_option maxRecDepth 100000 in
theorem calc_194 (w : World) : Calls Tryz.prog 97 #[.int .u8 194] w fun e w' => e = .returned (.agg #[.int .u8 1, .int .i8 0, .int .u8 7, .int .u8 0]) ∧ Below w.heap.size w w' := by
  go_enter Tryz.func97, Tryz.ntmps97
  go_wp2
  exact bodyPost_ret (v := (.agg #[.int .u8 1, .int .i8 0, .int .u8 7, .int .u8 0])) (by simp [results, Tryz.results97, go_sem]) rfl ⟨rfl, (Below.refl _ _).alloc (Nat.le_refl _) _⟩

set_option maxRecDepth 100000 in
theorem calc_195 (w : World) : Calls Tryz.prog 97 #[.int .u8 195] w fun e w' => e = .returned (.agg #[.int .u8 1, .int .i8 0, .int .u8 7, .int .u8 0]) ∧ Below w.heap.size w w' := by
  go_enter Tryz.func97, Tryz.ntmps97
  go_wp2
  exact bodyPost_ret (v := (.agg #[.int .u8 1, .int .i8 0, .int .u8 7, .int .u8 0])) (by simp [results, Tryz.results97, go_sem]) rfl ⟨rfl, (Below.refl _ _).alloc (Nat.le_refl _) _⟩

set_option maxRecDepth 100000 in
theorem calc_196 (w : World) : Calls Tryz.prog 97 #[.int .u8 196] w fun e w' => e = .returned (.agg #[.int .u8 2, .int .i8 (-1), .int .u8 2, .int .u8 0]) ∧ Below w.heap.size w w' := by
  go_enter Tryz.func97, Tryz.ntmps97
  go_wp2
  exact bodyPost_ret (v := (.agg #[.int .u8 2, .int .i8 (-1), .int .u8 2, .int .u8 0])) (by simp [results, Tryz.results97, go_sem]) rfl ⟨rfl, (Below.refl _ _).alloc (Nat.le_refl _) _⟩

set_option maxRecDepth 100000 in
theorem calc_197 (w : World) : Calls Tryz.prog 97 #[.int .u8 197] w fun e w' => e = .returned (.agg #[.int .u8 3, .int .i8 (-2), .int .u8 2, .int .u8 0]) ∧ Below w.heap.size w w' := by
  go_enter Tryz.func97, Tryz.ntmps97
  go_wp2
  exact bodyPost_ret (v := (.agg #[.int .u8 3, .int .i8 (-2), .int .u8 2, .int .u8 0])) (by simp [results, Tryz.results97, go_sem]) rfl ⟨rfl, (Below.refl _ _).alloc (Nat.le_refl _) _⟩

set_option maxRecDepth 100000 in
theorem calc_198 (w : World) : Calls Tryz.prog 97 #[.int .u8 198] w fun e w' => e = .returned (.agg #[.int .u8 5, .int .i8 (-3), .int .u8 2, .int .u8 0]) ∧ Below w.heap.size w w' := by
  go_enter Tryz.func97, Tryz.ntmps97
  go_wp2
  exact bodyPost_ret (v := (.agg #[.int .u8 5, .int .i8 (-3), .int .u8 2, .int .u8 0])) (by simp [results, Tryz.results97, go_sem]) rfl ⟨rfl, (Below.refl _ _).alloc (Nat.le_refl _) _⟩

set_option maxRecDepth 100000 in
theorem calc_199 (w : World) : Calls Tryz.prog 97 #[.int .u8 199] w fun e w' => e = .returned (.agg #[.int .u8 3, .int .i8 (-1), .int .u8 12, .int .u8 0]) ∧ Below w.heap.size w w' := by
  go_enter Tryz.func97, Tryz.ntmps97
  go_wp2
  exact bodyPost_ret (v := (.agg #[.int .u8 3, .int .i8 (-1), .int .u8 12, .int .u8 0])) (by simp [results, Tryz.results97, go_sem]) rfl ⟨rfl, (Below.refl _ _).alloc (Nat.le_refl _) _⟩

set_option maxRecDepth 100000 in
theorem calc_200 (w : World) : Calls Tryz.prog 97 #[.int .u8 200] w fun e w' => e = .returned (.agg #[.int .u8 4, .int .i8 (-2), .int .u8 12, .int .u8 0]) ∧ Below w.heap.size w w' := by
  go_enter Tryz.func97, Tryz.ntmps97
  go_wp2
  exact bodyPost_ret (v := (.agg #[.int .u8 4, .int .i8 (-2), .int .u8 12, .int .u8 0])) (by simp [results, Tryz.results97, go_sem]) rfl ⟨rfl, (Below.refl _ _).alloc (Nat.le_refl _) _⟩

set_option maxRecDepth 100000 in
theorem calc_201 (w : World) : Calls Tryz.prog 97 #[.int .u8 201] w fun e w' => e = .returned (.agg #[.int .u8 6, .int .i8 (-3), .int .u8 12, .int .u8 0]) ∧ Below w.heap.size w w' := by
  go_enter Tryz.func97, Tryz.ntmps97
  go_wp2
  exact bodyPost_ret (v := (.agg #[.int .u8 6, .int .i8 (-3), .int .u8 12, .int .u8 0])) (by simp [results, Tryz.results97, go_sem]) rfl ⟨rfl, (Below.refl _ _).alloc (Nat.le_refl _) _⟩

set_option maxRecDepth 100000 in
theorem calc_202 (w : World) : Calls Tryz.prog 97 #[.int .u8 202] w fun e w' => e = .returned (.agg #[.int .u8 5, .int .i8 0, .int .u8 6, .int .u8 0]) ∧ Below w.heap.size w w' := by
  go_enter Tryz.func97, Tryz.ntmps97
  go_wp2
  exact bodyPost_ret (v := (.agg #[.int .u8 5, .int .i8 0, .int .u8 6, .int .u8 0])) (by simp [results, Tryz.results97, go_sem]) rfl ⟨rfl, (Below.refl _ _).alloc (Nat.le_refl _) _⟩

set_option maxRecDepth 100000 in
theorem calc_203 (w : World) : Calls Tryz.prog 97 #[.int .u8 203] w fun e w' => e = .returned (.agg #[.int .u8 9, .int .i8 0, .int .u8 5, .int .u8 0]) ∧ Below w.heap.size w w' := by
  go_enter Tryz.func97, Tryz.ntmps97
  go_wp2
  exact bodyPost_ret (v := (.agg #[.int .u8 9, .int .i8 0, .int .u8 5, .int .u8 0])) (by simp [results, Tryz.results97, go_sem]) rfl ⟨rfl, (Below.refl _ _).alloc (Nat.le_refl _) _⟩

set_option maxRecDepth 100000 in
theorem calc_204 (w : World) : Calls Tryz.prog 97 #[.int .u8 204] w fun e w' => e = .returned (.agg #[.int .u8 2, .int .i8 0, .int .u8 9, .int .u8 0]) ∧ Below w.heap.size w w' := by
  go_enter Tryz.func97, Tryz.ntmps97
  go_wp2
  exact bodyPost_ret (v := (.agg #[.int .u8 2, .int .i8 0, .int .u8 9, .int .u8 0])) (by simp [results, Tryz.results97, go_sem]) rfl ⟨rfl, (Below.refl _ _).alloc (Nat.le_refl _) _⟩

set_option maxRecDepth 100000 in
theorem calc_205 (w : World) : Calls Tryz.prog 97 #[.int .u8 205] w fun e w' => e = .returned (.agg #[.int .u8 3, .int .i8 0, .int .u8 9, .int .u8 0]) ∧ Below w.heap.size w w' := by
  go_enter Tryz.func97, Tryz.ntmps97
  go_wp2
  exact bodyPost_ret (v := (.agg #[.int .u8 3, .int .i8 0, .int .u8 9, .int .u8 0])) (by simp [results, Tryz.results97, go_sem]) rfl ⟨rfl, (Below.refl _ _).alloc (Nat.le_refl _) _⟩

set_option maxRecDepth 100000 in
theorem calc_206 (w : World) : Calls Tryz.prog 97 #[.int .u8 206] w fun e w' => e = .returned (.agg #[.int .u8 5, .int .i8 0, .int .u8 9, .int .u8 0]) ∧ Below w.heap.size w w' := by
  go_enter Tryz.func97, Tryz.ntmps97
  go_wp2
  exact bodyPost_ret (v := (.agg #[.int .u8 5, .int .i8 0, .int .u8 9, .int .u8 0])) (by simp [results, Tryz.results97, go_sem]) rfl ⟨rfl, (Below.refl _ _).alloc (Nat.le_refl _) _⟩

set_option maxRecDepth 100000 in
theorem calc_207 (w : World) : Calls Tryz.prog 97 #[.int .u8 207] w fun e w' => e = .returned (.agg #[.int .u8 9, .int .i8 0, .int .u8 9, .int .u8 0]) ∧ Below w.heap.size w w' := by
  go_enter Tryz.func97, Tryz.ntmps97
  go_wp2
  exact bodyPost_ret (v := (.agg #[.int .u8 9, .int .i8 0, .int .u8 9, .int .u8 0])) (by simp [results, Tryz.results97, go_sem]) rfl ⟨rfl, (Below.refl _ _).alloc (Nat.le_refl _) _⟩

set_option maxRecDepth 100000 in
theorem calc_208 (w : World) : Calls Tryz.prog 97 #[.int .u8 208] w fun e w' => e = .returned (.agg #[.int .u8 2, .int .i8 0, .int .u8 8, .int .u8 0]) ∧ Below w.heap.size w w' := by
  go_enter Tryz.func97, Tryz.ntmps97
  go_wp2
  exact bodyPost_ret (v := (.agg #[.int .u8 2, .int .i8 0, .int .u8 8, .int .u8 0])) (by simp [results, Tryz.results97, go_sem]) rfl ⟨rfl, (Below.refl _ _).alloc (Nat.le_refl _) _⟩

set_option maxRecDepth 100000 in
theorem calc_209 (w : World) : Calls Tryz.prog 97 #[.int .u8 209] w fun e w' => e = .returned (.agg #[.int .u8 3, .int .i8 0, .int .u8 8, .int .u8 0]) ∧ Below w.heap.size w w' := by
  go_enter Tryz.func97, Tryz.ntmps97
  go_wp2
  exact bodyPost_ret (v := (.agg #[.int .u8 3, .int .i8 0, .int .u8 8, .int .u8 0])) (by simp [results, Tryz.results97, go_sem]) rfl ⟨rfl, (Below.refl _ _).alloc (Nat.le_refl _) _⟩

set_option maxRecDepth 100000 in
theorem calc_210 (w : World) : Calls Tryz.prog 97 #[.int .u8 210] w fun e w' => e = .returned (.agg #[.int .u8 5, .int .i8 0, .int .u8 8, .int .u8 0]) ∧ Below w.heap.size w w' := by
  go_enter Tryz.func97, Tryz.ntmps97
  go_wp2
  exact bodyPost_ret (v := (.agg #[.int .u8 5, .int .i8 0, .int .u8 8, .int .u8 0])) (by simp [results, Tryz.results97, go_sem]) rfl ⟨rfl, (Below.refl _ _).alloc (Nat.le_refl _) _⟩

set_option maxRecDepth 100000 in
theorem calc_211 (w : World) : Calls Tryz.prog 97 #[.int .u8 211] w fun e w' => e = .returned (.agg #[.int .u8 9, .int .i8 0, .int .u8 8, .int .u8 0]) ∧ Below w.heap.size w w' := by
  go_enter Tryz.func97, Tryz.ntmps97
  go_wp2
  exact bodyPost_ret (v := (.agg #[.int .u8 9, .int .i8 0, .int .u8 8, .int .u8 0])) (by simp [results, Tryz.results97, go_sem]) rfl ⟨rfl, (Below.refl _ _).alloc (Nat.le_refl _) _⟩

set_option maxRecDepth 100000 in
theorem calc_212 (w : World) : Calls Tryz.prog 97 #[.int .u8 212] w fun e w' => e = .returned (.agg #[.int .u8 3, .int .i8 0, .int .u8 12, .int .u8 0]) ∧ Below w.heap.size w w' := by
  go_enter Tryz.func97, Tryz.ntmps97
  go_wp2
  exact bodyPost_ret (v := (.agg #[.int .u8 3, .int .i8 0, .int .u8 12, .int .u8 0])) (by simp [results, Tryz.results97, go_sem]) rfl ⟨rfl, (Below.refl _ _).alloc (Nat.le_refl _) _⟩

set_option maxRecDepth 100000 in
theorem calc_213 (w : World) : Calls Tryz.prog 97 #[.int .u8 213] w fun e w' => e = .returned (.agg #[.int .u8 4, .int .i8 0, .int .u8 12, .int .u8 0]) ∧ Below w.heap.size w w' := by
  go_enter Tryz.func97, Tryz.ntmps97
  go_wp2
  exact bodyPost_ret (v := (.agg #[.int .u8 4, .int .i8 0, .int .u8 12, .int .u8 0])) (by simp [results, Tryz.results97, go_sem]) rfl ⟨rfl, (Below.refl _ _).alloc (Nat.le_refl _) _⟩

set_option maxRecDepth 100000 in
theorem calc_214 (w : World) : Calls Tryz.prog 97 #[.int .u8 214] w fun e w' => e = .returned (.agg #[.int .u8 6, .int .i8 0, .int .u8 12, .int .u8 0]) ∧ Below w.heap.size w w' := by
  go_enter Tryz.func97, Tryz.ntmps97
  go_wp2
  exact bodyPost_ret (v := (.agg #[.int .u8 6, .int .i8 0, .int .u8 12, .int .u8 0])) (by simp [results, Tryz.results97, go_sem]) rfl ⟨rfl, (Below.refl _ _).alloc (Nat.le_refl _) _⟩

set_option maxRecDepth 100000 in
theorem calc_215 (w : World) : Calls Tryz.prog 97 #[.int .u8 215] w fun e w' => e = .returned (.agg #[.int .u8 10, .int .i8 0, .int .u8 12, .int .u8 0]) ∧ Below w.heap.size w w' := by
  go_enter Tryz.func97, Tryz.ntmps97
  go_wp2
  exact bodyPost_ret (v := (.agg #[.int .u8 10, .int .i8 0, .int .u8 12, .int .u8 0])) (by simp [results, Tryz.results97, go_sem]) rfl ⟨rfl, (Below.refl _ _).alloc (Nat.le_refl _) _⟩

set_option maxRecDepth 100000 in
theorem calc_216 (w : World) : Calls Tryz.prog 97 #[.int .u8 216] w fun e w' => e = .returned (.agg #[.int .u8 18, .int .i8 0, .int .u8 12, .int .u8 0]) ∧ Below w.heap.size w w' := by
  go_enter Tryz.func97, Tryz.ntmps97
  go_wp2
  exact bodyPost_ret (v := (.agg #[.int .u8 18, .int .i8 0, .int .u8 12, .int .u8 0])) (by simp [results, Tryz.results97, go_sem]) rfl ⟨rfl, (Below.refl _ _).alloc (Nat.le_refl _) _⟩

set_option maxRecDepth 100000 in
theorem calc_217 (w : World) : Calls Tryz.prog 97 #[.int .u8 217] w fun e w' => e = .returned (.agg #[.int .u8 2, .int .i8 (-1), .int .u8 1, .int .u8 0]) ∧ Below w.heap.size w w' := by
  go_enter Tryz.func97, Tryz.ntmps97
  go_wp2
  exact bodyPost_ret (v := (.agg #[.int .u8 2, .int .i8 (-1), .int .u8 1, .int .u8 0])) (by simp [results, Tryz.results97, go_sem]) rfl ⟨rfl, (Below.refl _ _).alloc (Nat.le_refl _) _⟩

set_option maxRecDepth 100000 in
theorem calc_218 (w : World) : Calls Tryz.prog 97 #[.int .u8 218] w fun e w' => e = .returned (.agg #[.int .u8 3, .int .i8 (-2), .int .u8 1, .int .u8 0]) ∧ Below w.heap.size w w' := by
  go_enter Tryz.func97, Tryz.ntmps97
  go_wp2
  exact bodyPost_ret (v := (.agg #[.int .u8 3, .int .i8 (-2), .int .u8 1, .int .u8 0])) (by simp [results, Tryz.results97, go_sem]) rfl ⟨rfl, (Below.refl _ _).alloc (Nat.le_refl _) _⟩

set_option maxRecDepth 100000 in
theorem calc_219 (w : World) : Calls Tryz.prog 97 #[.int .u8 219] w fun e w' => e = .returned (.agg #[.int .u8 5, .int .i8 (-3), .int .u8 1, .int .u8 0]) ∧ Below w.heap.size w w' := by
  go_enter Tryz.func97, Tryz.ntmps97
  go_wp2
  exact bodyPost_ret (v := (.agg #[.int .u8 5, .int .i8 (-3), .int .u8 1, .int .u8 0])) (by simp [results, Tryz.results97, go_sem]) rfl ⟨rfl, (Below.refl _ _).alloc (Nat.le_refl _) _⟩

set_option maxRecDepth 100000 in
theorem calc_220 (w : World) : Calls Tryz.prog 97 #[.int .u8 220] w fun e w' => e = .returned (.agg #[.int .u8 3, .int .i8 (-6), .int .u8 4, .int .u8 0]) ∧ Below w.heap.size w w' := by
  go_enter Tryz.func97, Tryz.ntmps97
  go_wp2
  exact bodyPost_ret (v := (.agg #[.int .u8 3, .int .i8 (-6), .int .u8 4, .int .u8 0])) (by simp [results, Tryz.results97, go_sem]) rfl ⟨rfl, (Below.refl _ _).alloc (Nat.le_refl _) _⟩

set_option maxRecDepth 100000 in
theorem calc_221 (w : World) : Calls Tryz.prog 97 #[.int .u8 221] w fun e w' => e = .returned (.agg #[.int .u8 5, .int .i8 (-7), .int .u8 4, .int .u8 0]) ∧ Below w.heap.size w w' := by
  go_enter Tryz.func97, Tryz.ntmps97
  go_wp2
  exact bodyPost_ret (v := (.agg #[.int .u8 5, .int .i8 (-7), .int .u8 4, .int .u8 0])) (by simp [results, Tryz.results97, go_sem]) rfl ⟨rfl, (Below.refl _ _).alloc (Nat.le_refl _) _⟩

set_option maxRecDepth 100000 in
theorem calc_222 (w : World) : Calls Tryz.prog 97 #[.int .u8 222] w fun e w' => e = .returned (.agg #[.int .u8 3, .int .i8 (-4), .int .u8 3, .int .u8 0]) ∧ Below w.heap.size w w' := by
  go_enter Tryz.func97, Tryz.ntmps97
  go_wp2
  exact bodyPost_ret (v := (.agg #[.int .u8 3, .int .i8 (-4), .int .u8 3, .int .u8 0])) (by simp [results, Tryz.results97, go_sem]) rfl ⟨rfl, (Below.refl _ _).alloc (Nat.le_refl _) _⟩

set_option maxRecDepth 100000 in
theorem calc_223 (w : World) : Calls Tryz.prog 97 #[.int .u8 223] w fun e w' => e = .returned (.agg #[.int .u8 5, .int .i8 (-5), .int .u8 3, .int .u8 0]) ∧ Below w.heap.size w w' := by
  go_enter Tryz.func97, Tryz.ntmps97
  go_wp2
  exact bodyPost_ret (v := (.agg #[.int .u8 5, .int .i8 (-5), .int .u8 3, .int .u8 0])) (by simp [results, Tryz.results97, go_sem]) rfl ⟨rfl, (Below.refl _ _).alloc (Nat.le_refl _) _⟩

set_option maxRecDepth 100000 in
theorem calc_fixint (v : Int) (h0 : 0 ≤ v) (h1 : v < 128) (w : World) : Calls Tryz.prog 97 #[.int .u8 v] w fun e w' => e = .returned (.agg #[.int .u8 1, .int .i8 0, .int .u8 8, .int .u8 0]) ∧ Below w.heap.size w w' := by
  go_enter Tryz.func97, Tryz.ntmps97
  go_wp2
  exact bodyPost_ret (v := (.agg #[.int .u8 1, .int .i8 0, .int .u8 8, .int .u8 0])) (by simp [results, Tryz.results97, go_sem]) rfl ⟨rfl, (Below.refl _ _).alloc (Nat.le_refl _) _⟩

set_option maxRecDepth 100000 in
theorem calc_nfix (v : Int) (h0 : 224 ≤ v) (h1 : v < 256) (w : World) : Calls Tryz.prog 97 #[.int .u8 v] w fun e w' => e = .returned (.agg #[.int .u8 1, .int .i8 0, .int .u8 8, .int .u8 0]) ∧ Below w.heap.size w w' := by
  go_enter Tryz.func97, Tryz.ntmps97
  go_wp2
  exact bodyPost_ret (v := (.agg #[.int .u8 1, .int .i8 0, .int .u8 8, .int .u8 0])) (by simp [results, Tryz.results97, go_sem]) rfl ⟨rfl, (Below.refl _ _).alloc (Nat.le_refl _) _⟩

set_option maxRecDepth 100000 in
theorem calc_fixstr (v : Int) (h0 : 160 ≤ v) (h1 : v < 192) (w : World) : Calls Tryz.prog 97 #[.int .u8 v] w fun e w' => e = .returned (.agg #[.int .u8 (1 + (v - 160)), .int .i8 0, .int .u8 1, .int .u8 0]) ∧ Below w.heap.size w w' := by
  have hb : Go.bits .and .u8 v 31 = v - 160 := by rw [and31 v (by omega) (by omega)]; omega
  go_enter Tryz.func97, Tryz.ntmps97
  go_wp2
  exact bodyPost_ret (v := (.agg #[.int .u8 (1 + (v - 160)), .int .i8 0, .int .u8 1, .int .u8 0])) (by simp [results, Tryz.results97, go_sem]) rfl ⟨rfl, (Below.refl _ _).alloc (Nat.le_refl _) _⟩

set_option maxRecDepth 100000 in
theorem calc_fixmap (v : Int) (h0 : 128 ≤ v) (h1 : v < 144) (w : World) : Calls Tryz.prog 97 #[.int .u8 v] w fun e w' => e = .returned (.agg #[.int .u8 1, .int .i8 (2 * (v - 128)), .int .u8 3, .int .u8 0]) ∧ Below w.heap.size w w' := by
  have hb : Go.bits .and .u8 v 15 = v - 128 := by rw [and15 v (by omega) (by omega)]; omega
  go_enter Tryz.func97, Tryz.ntmps97
  go_wp2
  exact bodyPost_ret (v := (.agg #[.int .u8 1, .int .i8 (2 * (v - 128)), .int .u8 3, .int .u8 0])) (by simp [results, Tryz.results97, go_sem]) rfl ⟨rfl, (Below.refl _ _).alloc (Nat.le_refl _) _⟩

set_option maxRecDepth 100000 in
theorem calc_fixarr (v : Int) (h0 : 144 ≤ v) (h1 : v < 160) (w : World) : Calls Tryz.prog 97 #[.int .u8 v] w fun e w' => e = .returned (.agg #[.int .u8 1, .int .i8 (v - 144), .int .u8 4, .int .u8 0]) ∧ Below w.heap.size w w' := by
  have hb : Go.bits .and .u8 v 15 = v - 144 := by rw [and15 v (by omega) (by omega)]; omega
  go_enter Tryz.func97, Tryz.ntmps97
  go_wp2
  exact bodyPost_ret (v := (.agg #[.int .u8 1, .int .i8 (v - 144), .int .u8 4, .int .u8 0])) (by simp [results, Tryz.results97, go_sem]) rfl ⟨rfl, (Below.refl _ _).alloc (Nat.le_refl _) _⟩

/-- What a first byte tells: the size of the head, what stands for the length, the kind. -/
def bTab : Int → Int × Int × Int
  | 192 => (1, 0, 10)
  | 193 => (0, 0, 0)
  | 194 => (1, 0, 7)
  | 195 => (1, 0, 7)
  | 196 => (2, (-1), 2)
  | 197 => (3, (-2), 2)
  | 198 => (5, (-3), 2)
  | 199 => (3, (-1), 12)
  | 200 => (4, (-2), 12)
  | 201 => (6, (-3), 12)
  | 202 => (5, 0, 6)
  | 203 => (9, 0, 5)
  | 204 => (2, 0, 9)
  | 205 => (3, 0, 9)
  | 206 => (5, 0, 9)
  | 207 => (9, 0, 9)
  | 208 => (2, 0, 8)
  | 209 => (3, 0, 8)
  | 210 => (5, 0, 8)
  | 211 => (9, 0, 8)
  | 212 => (3, 0, 12)
  | 213 => (4, 0, 12)
  | 214 => (6, 0, 12)
  | 215 => (10, 0, 12)
  | 216 => (18, 0, 12)
  | 217 => (2, (-1), 1)
  | 218 => (3, (-2), 1)
  | 219 => (5, (-3), 1)
  | 220 => (3, (-6), 4)
  | 221 => (5, (-7), 4)
  | 222 => (3, (-4), 3)
  | 223 => (5, (-5), 3)
  | _ => (0, 0, 0)
def bs (v : Int) : Int × Int × Int := if v < 128 then (1, 0, 8) else if v < 144 then (1, 2 * (v - 128), 3) else if v < 160 then (1, v - 144, 4) else if v < 192 then (1 + (v - 160), 0, 1) else if 224 ≤ v then (1, 0, 8) else bTab v
theorem calc_any (v : Int) (h0 : 0 ≤ v) (h1 : v < 256) (w : World) : Calls Tryz.prog 97 #[.int .u8 v] w fun e w' => e = .returned (.agg #[.int .u8 (bs v).1, .int .i8 (bs v).2.1, .int .u8 (bs v).2.2, .int .u8 0]) ∧ Below w.heap.size w w' := by
  by_cases c1 : v < 128
  · rw [show bs v = (1, 0, 8) from by unfold bs; rw [if_pos c1]]; exact calc_fixint v h0 c1 w
  by_cases c2 : v < 144
  · rw [show bs v = (1, 2 * (v - 128), 3) from by unfold bs; rw [if_neg c1, if_pos c2]]; exact calc_fixmap v (by omega) c2 w
  by_cases c3 : v < 160
  · rw [show bs v = (1, v - 144, 4) from by unfold bs; rw [if_neg c1, if_neg c2, if_pos c3]]; exact calc_fixarr v (by omega) c3 w
  by_cases c4 : v < 192
  · rw [show bs v = (1 + (v - 160), 0, 1) from by unfold bs; rw [if_neg c1, if_neg c2, if_neg c3, if_pos c4]]; exact calc_fixstr v (by omega) c4 w
  by_cases c5 : 224 ≤ v
  · rw [show bs v = (1, 0, 8) from by unfold bs; rw [if_neg c1, if_neg c2, if_neg c3, if_neg c4, if_pos c5]]; exact calc_nfix v c5 h1 w
  have h : v = 192 ∨ v = 193 ∨ v = 194 ∨ v = 195 ∨ v = 196 ∨ v = 197 ∨ v = 198 ∨ v = 199 ∨ v = 200 ∨ v = 201 ∨ v = 202 ∨ v = 203 ∨ v = 204 ∨ v = 205 ∨ v = 206 ∨ v = 207 ∨ v = 208 ∨ v = 209 ∨ v = 210 ∨ v = 211 ∨ v = 212 ∨ v = 213 ∨ v = 214 ∨ v = 215 ∨ v = 216 ∨ v = 217 ∨ v = 218 ∨ v = 219 ∨ v = 220 ∨ v = 221 ∨ v = 222 ∨ v = 223 := by omega
  rcases h with rfl | rfl | rfl | rfl | rfl | rfl | rfl | rfl | rfl | rfl | rfl | rfl | rfl | rfl | rfl | rfl | rfl | rfl | rfl | rfl | rfl | rfl | rfl | rfl | rfl | rfl | rfl | rfl | rfl | rfl | rfl | rfl
  · exact calc_192 w
  · exact calc_193 w
  · exact calc_194 w
  · exact calc_195 w
  · exact calc_196 w
  · exact calc_197 w
  · exact calc_198 w
  · exact calc_199 w
  · exact calc_200 w
  · exact calc_201 w
  · exact calc_202 w
  · exact calc_203 w
  · exact calc_204 w
  · exact calc_205 w
  · exact calc_206 w
  · exact calc_207 w
  · exact calc_208 w
  · exact calc_209 w
  · exact calc_210 w
  · exact calc_211 w
  · exact calc_212 w
  · exact calc_213 w
  · exact calc_214 w
  · exact calc_215 w
  · exact calc_216 w
  · exact calc_217 w
  · exact calc_218 w
  · exact calc_219 w
  · exact calc_220 w
  · exact calc_221 w
  · exact calc_222 w
  · exact calc_223 w

end Go.Proofs.YtmliokplekeljaaGreatDoor.M

namespace Go.Proofs.YtmliokplekeljaaGreatDoor.M
open Go.RowKit Go.Proofs.YtmliokplekeljaaGreatDoorW.PrintWords
set_option linter.unusedVariables false
set_option linter.unusedSimpArgs false

theorem bcell {W w1 : World} (hb : Below W.heap.size W w1) : (∀ b o, b < W.heap.size → w1.cell? ⟨b, o, none⟩ = W.cell? ⟨b, o, none⟩) ∧ (∀ b o, b < W.heap.size → w1.frozen? ⟨b, o, none⟩ = W.frozen? ⟨b, o, none⟩) :=
  ⟨fun b o h => hb.cell (p := ⟨b, o, none⟩) h, fun b o h => hb.frozen (p := ⟨b, o, none⟩) h⟩

set_option maxRecDepth 100000 in
theorem getBytespec_any (v : Int) (h0 : 0 ≤ v) (h1 : v < 256) (w : World) : Calls Tryz.prog 55 #[.int .u8 v] w fun e w' => e = .returned (.agg #[.int .u8 (bs v).1, .int .i8 (bs v).2.1, .int .u8 (bs v).2.2, .int .u8 0]) ∧ Below w.heap.size w w' := by
  obtain ⟨s, hs⟩ : ∃ s, s = (bs v).1 := ⟨_, rfl⟩
  obtain ⟨x, hx⟩ : ∃ x, x = (bs v).2.1 := ⟨_, rfl⟩
  obtain ⟨t, ht⟩ : ∃ t, t = (bs v).2.2 := ⟨_, rfl⟩
  have H := Lib.hid (calc_any v h0 h1)
  rw [← hs, ← hx, ← ht] at *
  clear hs hx ht
  go_enter Tryz.func55, Tryz.ntmps55
  go_wp2_with (go_at_call 97; refine (H.out _).mono ?_; rintro e w1 ⟨rfl, hb⟩; have k0 : w1.cell? ⟨w.heap.size, 0, none⟩ = some (.int .u8 0) := (hb.cell (p := ⟨w.heap.size, 0, none⟩) (by simp)).trans (by simp [go_sem]); have k1 : w1.cell? ⟨w.heap.size, 1, none⟩ = some (.int .i8 0) := (hb.cell (p := ⟨w.heap.size, 1, none⟩) (by simp)).trans (by simp [go_sem]); have k2 : w1.cell? ⟨w.heap.size, 2, none⟩ = some (.int .u8 0) := (hb.cell (p := ⟨w.heap.size, 2, none⟩) (by simp)).trans (by simp [go_sem]); have k3 : w1.cell? ⟨w.heap.size, 3, none⟩ = some (.int .u8 0) := (hb.cell (p := ⟨w.heap.size, 3, none⟩) (by simp)).trans (by simp [go_sem]); have f0 : w1.frozen? ⟨w.heap.size, 0, none⟩ = false := (hb.frozen (p := ⟨w.heap.size, 0, none⟩) (by simp)).trans (by simp [go_sem]); have f1 : w1.frozen? ⟨w.heap.size, 1, none⟩ = false := (hb.frozen (p := ⟨w.heap.size, 1, none⟩) (by simp)).trans (by simp [go_sem]); have f2 : w1.frozen? ⟨w.heap.size, 2, none⟩ = false := (hb.frozen (p := ⟨w.heap.size, 2, none⟩) (by simp)).trans (by simp [go_sem]); have f3 : w1.frozen? ⟨w.heap.size, 3, none⟩ = false := (hb.frozen (p := ⟨w.heap.size, 3, none⟩) (by simp)).trans (by simp [go_sem]); have hz : w.heap.size < w1.heap.size := by have := hb.size; simp at this; omega)
  exact bodyPost_ret (v := (.agg #[.int .u8 s, .int .i8 x, .int .u8 t, .int .u8 0])) (by simp [results, Tryz.results55, go_sem, k0, k1, k2, k3, f0, f1, f2, f3]) rfl
    ⟨rfl, ((((((Below.refl _ _).alloc (Nat.le_refl _) _).trans (hb.mono (by simp))).setCell (by simp) _).setCell (by simp) _).setCell (by simp) _).setCell (by simp) _⟩

set_option maxRecDepth 100000 in
theorem getType_any (v : Int) (h0 : 0 ≤ v) (h1 : v < 256) (w : World) : Calls Tryz.prog 104 #[.int .u8 v] w fun e w' => e = .returned (.int .u8 (bs v).2.2) ∧ Below w.heap.size w w' := by
  obtain ⟨s, hs⟩ : ∃ s, s = (bs v).1 := ⟨_, rfl⟩
  obtain ⟨x, hx⟩ : ∃ x, x = (bs v).2.1 := ⟨_, rfl⟩
  obtain ⟨t, ht⟩ : ∃ t, t = (bs v).2.2 := ⟨_, rfl⟩
  have H := Lib.hid (getBytespec_any v h0 h1)
  rw [← hs, ← hx, ← ht] at *
  clear hs hx ht
  have hfl : ∀ w, (Instr.field 88 (.agg #[.int .u8 s, .int .i8 x, .int .u8 t, .int .u8 0]) 2).run Tryz.prog w = .ok (.int .u8 t) w := fun _ => by kernel_rfl
  go_enter Tryz.func104, Tryz.ntmps104
  go_wp2_with (go_at_call 55; refine (H.out _).mono ?_; rintro e w1 ⟨rfl, hb⟩)
  go_ret
  exact ⟨rfl, hb⟩

/-- badPrefix, called for a list at a map's first byte. -/
theorem badPrefix_map (v : Int) (h0 : 0 ≤ v) (h1 : v < 256) (ht : (bs v).2.2 = 3) (w : World) : Calls Tryz.prog 86 #[.int .u8 4, .int .u8 v] w fun e w' => e = .returned (.iface 76 (.agg #[.int .u8 4, .int .u8 3, .string ByteArray.empty])) ∧ Below w.heap.size w w' := by
  have H := Lib.hid (getType_any v h0 h1)
  rw [ht] at H
  clear ht
  go_enter Tryz.func86, Tryz.ntmps86
  go_wp2_with (go_at_call 104; refine (H.out _).mono ?_; rintro e w1 ⟨rfl, hb⟩)
  go_ret
  exact ⟨rfl, hb⟩

/-- A slice of bytes that is read. -/
abbrev CB (w : World) (A : Option Addr) (l : List Int) : Prop := Kd.C (Kd.int .u8) w A l.length l
theorem CB.at_ {w : World} {A : Option Addr} {l : List Int} (h : CB w A l) (i : Nat) (hi : i < l.length) : ∃ ad, A = some ad ∧ w.cell? (ad.add i) = some (.int .u8 (rd l i)) := by
  obtain ⟨ad, h1, h2⟩ := Kd.at_int h (i : Int) (by omega) (by omega)
  exact ⟨ad, h1, by simpa using h2⟩
theorem CB.head {w : World} {A : Option Addr} {v : Int} {t : List Int} (h : CB w A (v :: t)) : ∃ ad, A = some ad ∧ w.cell? ad = some (.int .u8 v) := by
  obtain ⟨ad, h1, h2⟩ := h.at_ 0 (by simp)
  exact ⟨ad, h1, by simpa [Addr.add, rd] using h2⟩

set_option maxRecDepth 100000 in
theorem nextType_nil (A : Option Addr) (c : Nat) (w : World) : Calls Tryz.prog 30 #[.slice A 0 c] w fun e w' => e = .returned (.int .u8 0) ∧ w = w' := by
  go_enter Tryz.func30, Tryz.ntmps30
  go_wp2
  go_ret
  exact ⟨rfl, rfl⟩

set_option maxRecDepth 100000 in
theorem nextType_any (w : World) (A : Option Addr) (c : Nat) (v : Int) (l : List Int) (hr : CB w A (v :: l)) (h0 : 0 ≤ v) (h1 : v < 256) (hk : (bs v).2.2 ≠ 12) :
    Calls Tryz.prog 30 #[.slice A (v :: l).length c] w fun e w' => e = .returned (.int .u8 (bs v).2.2) ∧ Below w.heap.size w w' := by
  obtain ⟨ad, rfl, hc⟩ := hr.head
  clear hr
  obtain ⟨s, hs⟩ : ∃ s, s = (bs v).1 := ⟨_, rfl⟩
  obtain ⟨x, hx⟩ : ∃ x, x = (bs v).2.1 := ⟨_, rfl⟩
  obtain ⟨t, ht⟩ : ∃ t, t = (bs v).2.2 := ⟨_, rfl⟩
  have H := Lib.hid (getBytespec_any v h0 h1)
  rw [← hs, ← hx, ← ht] at H
  rw [← ht] at hk ⊢
  clear hs hx ht
  have ht : (t == 12) = false := by simpa using hk
  clear hk
  go_enter Tryz.func30, Tryz.ntmps30
  go_wp2_with (go_at_call 55; refine (H.out _).mono ?_; rintro e w1 ⟨rfl, hb⟩)
  go_ret
  exact ⟨rfl, hb.alloc hb.size _⟩

theorem bTab_le (v : Int) : 0 ≤ (bTab v).1 ∧ (bTab v).1 ≤ 255 := by unfold bTab; split <;> decide
theorem bs_le (v : Int) (h0 : 0 ≤ v) (h1 : v < 256) : 0 ≤ (bs v).1 ∧ (bs v).1 ≤ 255 := by
  unfold bs
  have := bTab_le v
  repeat' split
  all_goals first | exact this | (simp only []; omega)
set_option maxRecDepth 100000 in
theorem nextType_ext (w : World) (A : Option Addr) (c : Nat) (v : Int) (l : List Int) (hr : CB w A (v :: l)) (h0 : 0 ≤ v) (h1 : v < 256) (hk : (bs v).2.2 = 12) (hl : ((v :: l).length : Int) ≤ (bs v).1) :
    Calls Tryz.prog 30 #[.slice A (v :: l).length c] w fun e w' => e = .returned (.int .u8 12) ∧ Below w.heap.size w w' := by
  obtain ⟨ad, rfl, hc⟩ := hr.head
  clear hr
  obtain ⟨s, hs⟩ : ∃ s, s = (bs v).1 := ⟨_, rfl⟩
  obtain ⟨x, hx⟩ : ∃ x, x = (bs v).2.1 := ⟨_, rfl⟩
  have H := Lib.hid (getBytespec_any v h0 h1)
  obtain ⟨b0, b1⟩ := bs_le v h0 h1
  rw [← hs, ← hx, hk] at H
  rw [← hs] at hl b0 b1
  clear hs hx hk
  have hlen : ((v :: l).length : Int) = (l.length : Int) + 1 := by simp
  rw [hlen] at hl
  clear hlen
  go_enter Tryz.func30, Tryz.ntmps30
  go_wp2_with (go_at_call 55; refine (H.out _).mono ?_; rintro e w1 ⟨rfl, hb⟩)
  go_ret
  exact ⟨rfl, hb.alloc hb.size _⟩
end Go.Proofs.YtmliokplekeljaaGreatDoor.M

namespace Go.Proofs.YtmliokplekeljaaGreatDoor.M
open Go.RowKit Go.Proofs.YtmliokplekeljaaGreatDoorW.PrintWords
set_option linter.unusedVariables false
set_option linter.unusedSimpArgs false

/-- What the package's variables hold. -/
def Glob (w : World) : Prop := 5 ≤ w.heap.size ∧ w.cell? ⟨0, 0, none⟩ = some (.iface 212 (.agg #[])) ∧ w.cell? ⟨1, 0, none⟩ = some (.iface 213 (.agg #[]))
theorem Glob.below {w w' : World} (h : Glob w) (hb : Below w.heap.size w w') : Glob w' :=
  ⟨Nat.le_trans h.1 hb.size, (hb.cell (p := ⟨0, 0, none⟩) (by have := h.1; simp; omega)).trans h.2.1, (hb.cell (p := ⟨1, 0, none⟩) (by have := h.1; simp; omega)).trans h.2.2⟩

theorem noWrap1 (w : World) : (Instr.typeAssert (.iface 212 (.agg #[])) 47 143 true).run Tryz.prog w = .ok (.tuple #[.agg #[.nilIface, .string ByteArray.empty], .bool false]) w := by kernel_rfl
theorem noWrap2 (v : Value) (w : World) : (Instr.typeAssert (.iface 76 v) 47 143 true).run Tryz.prog w = .ok (.tuple #[.agg #[.nilIface, .string ByteArray.empty], .bool false]) w := by kernel_rfl
theorem noWrap3 (v : Value) (w : World) : (Instr.typeAssert (.iface 81 v) 47 143 true).run Tryz.prog w = .ok (.tuple #[.agg #[.nilIface, .string ByteArray.empty], .bool false]) w := by kernel_rfl

set_option maxRecDepth 100000 in
theorem cause1 (w : World) : Calls Tryz.prog 52 #[.iface 212 (.agg #[])] w fun e w' => e = .returned (.iface 212 (.agg #[])) ∧ Below w.heap.size w w' := by
  have hn := noWrap1
  go_enter Tryz.func52, Tryz.ntmps52
  go_wp2
  go_ret
  exact ⟨rfl, (Below.refl _ _).alloc (Nat.le_refl _) _⟩
set_option maxRecDepth 100000 in
theorem cause2 (v : Value) (w : World) : Calls Tryz.prog 52 #[.iface 76 v] w fun e w' => e = .returned (.iface 76 v) ∧ Below w.heap.size w w' := by
  have hn := noWrap2 v
  go_enter Tryz.func52, Tryz.ntmps52
  go_wp2
  go_ret
  exact ⟨rfl, (Below.refl _ _).alloc (Nat.le_refl _) _⟩
set_option maxRecDepth 100000 in
theorem cause3 (v : Value) (w : World) : Calls Tryz.prog 52 #[.iface 81 v] w fun e w' => e = .returned (.iface 81 v) ∧ Below w.heap.size w w' := by
  have hn := noWrap3 v
  go_enter Tryz.func52, Tryz.ntmps52
  go_wp2
  go_ret
  exact ⟨rfl, (Below.refl _ _).alloc (Nat.le_refl _) _⟩

theorem asT76 (v : Value) (w : World) : (Instr.typeAssert (.iface 76 v) 47 76 true).run Tryz.prog w = .ok (.tuple #[v, .bool true]) w := by kernel_rfl
theorem asP76 (v : Value) (w : World) : (Instr.typeAssert (.iface 81 v) 47 76 true).run Tryz.prog w = .ok (.tuple #[.agg #[.int .u8 0, .int .u8 0, .string ByteArray.empty], .bool false]) w := by kernel_rfl
theorem asP78 (v : Value) (w : World) : (Instr.typeAssert (.iface 81 v) 47 78 true).run Tryz.prog w = .ok (.tuple #[.agg #[.int .i64 0, .int .i64 0, .string ByteArray.empty], .bool false]) w := by kernel_rfl
theorem asP80 (v : Value) (w : World) : (Instr.typeAssert (.iface 81 v) 47 80 true).run Tryz.prog w = .ok (.tuple #[.agg #[.int .u64 0, .int .i64 0, .string ByteArray.empty], .bool false]) w := by kernel_rfl
theorem asP81 (v : Value) (w : World) : (Instr.typeAssert (.iface 81 v) 47 81 true).run Tryz.prog w = .ok (.tuple #[v, .bool true]) w := by kernel_rfl

set_option maxRecDepth 100000 in
theorem code_nil (w : World) : Calls Tryz.prog 26 #[.nilIface] w fun e w' => e = .returned (.int .i64 0) ∧ w = w' := by
  go_enter Tryz.func26, Tryz.ntmps26
  go_wp2
  go_ret
  exact ⟨rfl, rfl⟩
set_option maxRecDepth 100000 in
theorem code_short (w : World) (hg : Glob w) : Calls Tryz.prog 26 #[.iface 212 (.agg #[])] w fun e w' => e = .returned (.int .i64 1) ∧ Below w.heap.size w w' := by
  go_enter Tryz.func26, Tryz.ntmps26
  go_wp2_with (first | (go_at_call 52; refine (cause1 _).mono ?_; rintro e w1 ⟨rfl, hb⟩; have hg1 := hg.below hb; have h0 := hg1.2.1) | (go_at_call 53; refine (is_short _).mono ?_; rintro e w2 ⟨rfl, rfl⟩))
  go_ret
  exact ⟨rfl, hb⟩
set_option maxRecDepth 100000 in
theorem code_type (v : Value) (w : World) (hg : Glob w) : Calls Tryz.prog 26 #[.iface 76 v] w fun e w' => e = .returned (.int .i64 2) ∧ Below w.heap.size w w' := by
  have q1 := asT76 v
  go_enter Tryz.func26, Tryz.ntmps26
  go_wp2_with (first | (go_at_call 52; refine (cause2 v _).mono ?_; rintro e w1 ⟨rfl, hb⟩; have hg1 := hg.below hb; have h0 := hg1.2.1; have h2 := hg1.2.2) | (go_at_call 53; with_reducible refine (is_type1 v _).mono ?_; rintro e w2 ⟨rfl, rfl⟩) | (go_at_call 53; with_reducible refine (is_type2 v _).mono ?_; rintro e w2 ⟨rfl, rfl⟩))
  go_ret
  exact ⟨rfl, hb⟩
set_option maxRecDepth 100000 in
theorem code_pre (v : Value) (w : World) (hg : Glob w) : Calls Tryz.prog 26 #[.iface 81 v] w fun e w' => e = .returned (.int .i64 4) ∧ Below w.heap.size w w' := by
  have q1 := asP76 v
  have q2 := asP78 v
  have q3 := asP80 v
  have q4 := asP81 v
  go_enter Tryz.func26, Tryz.ntmps26
  go_wp2_with (first | (go_at_call 52; refine (cause3 v _).mono ?_; rintro e w1 ⟨rfl, hb⟩; have hg1 := hg.below hb; have h0 := hg1.2.1; have h2 := hg1.2.2) | (go_at_call 53; with_reducible refine (is_pre1 v _).mono ?_; rintro e w2 ⟨rfl, rfl⟩) | (go_at_call 53; with_reducible refine (is_pre2 v _).mono ?_; rintro e w2 ⟨rfl, rfl⟩))
  go_ret
  exact ⟨rfl, hb⟩
end Go.Proofs.YtmliokplekeljaaGreatDoor.M
