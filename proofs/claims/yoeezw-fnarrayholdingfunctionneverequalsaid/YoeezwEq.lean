/-
  Array.Equals (26), ImmutableArray.Equals (27), CompiledFunction.Equals (50).
-/
import Derived.Test.YoeezwCopy
import Derived.Deep.RegionWith
import Derived.Deep.RegionHeld3
namespace Go.Proofs.Yoeezw
open Go.RowKit Go.Maps
set_option linter.unusedVariables false

set_option maxRecDepth 100000 in
theorem fnEq_any (a : Option Addr) (x : Value) (w : World) : Calls Eezg.prog 50 #[.pointer a, x] w fun e w' => e = .returned (.bool false) ∧ w' = w := by
  go_enter Eezg.func50, Eezg.ntmps50
  go_wp2
  go_ret
  exact ⟨rfl, rfl⟩

theorem below_draws {B : Nat} {a w : World} (h : Below B a w) (n : Nat) : Below B a (w.drewN n) := h.trans ⟨rfl, rfl, rfl, Nat.le_refl _, fun _ _ => rfl⟩

/-- An array of one element: the struct's cell, the element's cell. -/
def Arr1 (w : World) (p : Nat) (v : Value) : Prop := ∃ s cap, w.cell? ⟨p, 0, none⟩ = some (.slice (some ⟨s, 0, none⟩) 1 cap) ∧ w.cell? ⟨s, 0, none⟩ = some v

theorem ta5050 (a : Addr) (w : World) : (Instr.typeAssert (.iface 50 (.pointer (some a))) 63 50 true).run Eezg.prog w = .ok (.tuple #[.pointer (some a), .bool true]) w := by kernel_rfl
theorem ta5250 (a : Addr) (w : World) : (Instr.typeAssert (.iface 52 (.pointer (some a))) 63 50 true).run Eezg.prog w = .ok (.tuple #[.pointer none, .bool false]) w := by kernel_rfl
theorem ta5252 (a : Addr) (w : World) : (Instr.typeAssert (.iface 52 (.pointer (some a))) 63 52 true).run Eezg.prog w = .ok (.tuple #[.pointer (some a), .bool true]) w := by kernel_rfl
theorem ta6969 (a : Addr) (w : World) : (Instr.typeAssert (.iface 69 (.pointer (some a))) 63 69 true).run Eezg.prog w = .ok (.tuple #[.pointer (some a), .bool true]) w := by kernel_rfl

theorem na26 (a : Addr) (w : World) : (nilAhead 201 26 (.pointer (some a)) "Equals").run Eezg.prog w = .ok (some false) w := by kernel_rfl
theorem me26 (a : Addr) (w : World) : (method 201 26 (.pointer (some a)) "Equals").run Eezg.prog w = .ok (50, .pointer (some a)) w := by kernel_rfl
theorem na69 (a : Addr) (w : World) : (nilAhead 201 69 (.pointer (some a)) "Equals").run Eezg.prog w = .ok (some false) w := by kernel_rfl
theorem me69 (a : Addr) (w : World) : (method 201 69 (.pointer (some a)) "Equals").run Eezg.prog w = .ok (63, .pointer (some a)) w := by kernel_rfl

set_option maxRecDepth 100000 in
/-- An array of a function (function 26) against another array (type 50): false. -/
theorem eqFn_26_50 (p q : Nat) (a : Addr) (u : Value) (w : World) (hp : Arr1 w p (.iface 26 (.pointer (some a)))) (hq : Arr1 w q u) :
    Calls Eezg.prog 26 #[.pointer (some ⟨p, 0, none⟩), .iface 50 (.pointer (some ⟨q, 0, none⟩))] w fun e w' => e = .returned (.bool false) ∧ Below w.heap.size w w' := by
  obtain ⟨s, cap, h1, h2⟩ := hp
  obtain ⟨s', cap', h3, h4⟩ := hq
  have k1 := ta5050
  have k2 := na26
  have k3 := me26
  go_enter Eezg.func26, Eezg.ntmps26
  go_wp2
  refine wp_loop_rounds 1 ?_
  rw [rounds_succ]
  go_wp2
  go_region_held3 (fun w' => w'.cell? ⟨s', 0, none⟩ = some u) (go_keep) (first | (go_at_call 50; refine (fnEq_any _ _ _).mono ?_; rintro e w' ⟨rfl, hw⟩; subst w'))
  go_wp2
  go_ret
  exact ⟨rfl, (Below.refl _ _).drew⟩

set_option maxRecDepth 100000 in
/-- An array of a function (function 26) against another array (type 52): false. -/
theorem eqFn_26_52 (p q : Nat) (a : Addr) (u : Value) (w : World) (hp : Arr1 w p (.iface 26 (.pointer (some a)))) (hq : Arr1 w q u) :
    Calls Eezg.prog 26 #[.pointer (some ⟨p, 0, none⟩), .iface 52 (.pointer (some ⟨q, 0, none⟩))] w fun e w' => e = .returned (.bool false) ∧ Below w.heap.size w w' := by
  obtain ⟨s, cap, h1, h2⟩ := hp
  obtain ⟨s', cap', h3, h4⟩ := hq
  have k1 := ta5250
  have k4 := ta5252
  have k2 := na26
  have k3 := me26
  go_enter Eezg.func26, Eezg.ntmps26
  go_wp2
  refine wp_loop_rounds 1 ?_
  rw [rounds_succ]
  go_wp2
  go_region_held3 (fun w' => w'.cell? ⟨s', 0, none⟩ = some u) (go_keep) (first | (go_at_call 50; refine (fnEq_any _ _ _).mono ?_; rintro e w' ⟨rfl, hw⟩; subst w'))
  go_wp2
  go_ret
  exact ⟨rfl, (Below.refl _ _).drew⟩

set_option maxRecDepth 100000 in
/-- An array of a function (function 27) against another array (type 50): false. -/
theorem eqFn_27_50 (p q : Nat) (a : Addr) (u : Value) (w : World) (hp : Arr1 w p (.iface 26 (.pointer (some a)))) (hq : Arr1 w q u) :
    Calls Eezg.prog 27 #[.pointer (some ⟨p, 0, none⟩), .iface 50 (.pointer (some ⟨q, 0, none⟩))] w fun e w' => e = .returned (.bool false) ∧ Below w.heap.size w w' := by
  obtain ⟨s, cap, h1, h2⟩ := hp
  obtain ⟨s', cap', h3, h4⟩ := hq
  have k1 := ta5050
  have k2 := na26
  have k3 := me26
  go_enter Eezg.func27, Eezg.ntmps27
  go_wp2
  refine wp_loop_rounds 1 ?_
  rw [rounds_succ]
  go_wp2
  go_region_held3 (fun w' => w'.cell? ⟨s', 0, none⟩ = some u) (go_keep) (first | (go_at_call 50; refine (fnEq_any _ _ _).mono ?_; rintro e w' ⟨rfl, hw⟩; subst w'))
  go_wp2
  go_ret
  exact ⟨rfl, (Below.refl _ _).drew⟩

set_option maxRecDepth 100000 in
/-- An array of a function (function 27) against another array (type 52): false. -/
theorem eqFn_27_52 (p q : Nat) (a : Addr) (u : Value) (w : World) (hp : Arr1 w p (.iface 26 (.pointer (some a)))) (hq : Arr1 w q u) :
    Calls Eezg.prog 27 #[.pointer (some ⟨p, 0, none⟩), .iface 52 (.pointer (some ⟨q, 0, none⟩))] w fun e w' => e = .returned (.bool false) ∧ Below w.heap.size w w' := by
  obtain ⟨s, cap, h1, h2⟩ := hp
  obtain ⟨s', cap', h3, h4⟩ := hq
  have k1 := ta5250
  have k4 := ta5252
  have k2 := na26
  have k3 := me26
  go_enter Eezg.func27, Eezg.ntmps27
  go_wp2
  refine wp_loop_rounds 1 ?_
  rw [rounds_succ]
  go_wp2
  go_region_held3 (fun w' => w'.cell? ⟨s', 0, none⟩ = some u) (go_keep) (first | (go_at_call 50; refine (fnEq_any _ _ _).mono ?_; rintro e w' ⟨rfl, hw⟩; subst w'))
  go_wp2
  go_ret
  exact ⟨rfl, (Below.refl _ _).drew⟩

end Go.Proofs.Yoeezw
