/-
  Int.Equals (63), and Array.Equals (26) of two arrays of one Int.
-/
import Derived.Test.YoeezwEq
namespace Go.Proofs.Yoeezw
open Go.RowKit Go.Maps
set_option linter.unusedVariables false

set_option maxRecDepth 100000 in
theorem intEq_any (i j : Nat) (v : Int) (w : World) (hi : w.cell? ⟨i, 0, none⟩ = some (.int .i64 v)) (hj : w.cell? ⟨j, 0, none⟩ = some (.int .i64 v)) :
    Calls Eezg.prog 63 #[.pointer (some ⟨i, 0, none⟩), .iface 69 (.pointer (some ⟨j, 0, none⟩))] w fun e w' => e = .returned (.bool true) ∧ ∃ n, w' = w.drewN n := by
  have k1 := ta6969
  go_enter Eezg.func63, Eezg.ntmps63
  go_wp2
  go_quiet (fail)
  go_wp2
  go_ret
  exact ⟨ret_bool (by simp), _, rfl⟩

set_option maxRecDepth 100000 in
/-- An array of an Int against an array of an Int of the same value: true. -/
theorem eqInt_any (p q i j : Nat) (v : Int) (w : World) (hp : Arr1 w p (.iface 69 (.pointer (some ⟨i, 0, none⟩)))) (hq : Arr1 w q (.iface 69 (.pointer (some ⟨j, 0, none⟩))))
    (hi : w.cell? ⟨i, 0, none⟩ = some (.int .i64 v)) (hj : w.cell? ⟨j, 0, none⟩ = some (.int .i64 v)) :
    Calls Eezg.prog 26 #[.pointer (some ⟨p, 0, none⟩), .iface 50 (.pointer (some ⟨q, 0, none⟩))] w fun e w' => e = .returned (.bool true) ∧ Below w.heap.size w w' := by
  obtain ⟨s, cap, h1, h2⟩ := hp
  obtain ⟨s', cap', h3, h4⟩ := hq
  have k1 := ta5050
  have k2 := na69
  have k3 := me69
  go_enter Eezg.func26, Eezg.ntmps26
  go_wp2
  refine wp_loop_rounds 2 ?_
  rw [rounds_succ]
  go_wp2
  go_region_held3 (fun w' => w'.cell? ⟨s', 0, none⟩ = some (.iface 69 (.pointer (some ⟨j, 0, none⟩))) ∧ w'.cell? ⟨i, 0, none⟩ = some (.int .i64 v) ∧ w'.cell? ⟨j, 0, none⟩ = some (.int .i64 v)) (first | go_keep | simp [*]) (first | (go_at_call 63; refine (intEq_any i j v _ (by simp [*]) (by simp [*])).mono ?_; rintro e w' ⟨rfl, n, rfl⟩))
  go_wp2
  rw [rounds_succ]
  go_wp2
  go_ret
  exact ⟨rfl, below_draws (Below.refl _ _) _⟩

end Go.Proofs.Yoeezw
