/-
  The small callees of seat oeez: zzBytes_FnSourcePosMatchesModel (9), zzBytes_FnSourcePosLocal (15), zzBytes_FnCopyExactFields (17), zzBytes_FnCopyIsIndependent (21), zzBytes_FnCopyDropsSourceMap (22), zzBytes_FnArrayHoldingFunctionNeverEqual (23), tooBig (10), pairCount (14).
-/
import Derived.Test.YoeezwRows
import Derived.WalkKit
import Derived.WalkSpells
import Derived.WalkLawsBesides
namespace Go.Proofs.Yoeezw
open Go.RowKit Go.Maps

theorem ret_bool {a b : Bool} (h : a = b) : Ending.returned (.bool a) = .returned (.bool b) := by rw [h]
theorem ret_int {k : IntKind} {a b : Int} (h : a = b) : Ending.returned (.int k a) = .returned (.int k b) := by rw [h]

set_option maxRecDepth 100000 in
theorem zz9_any (a0 : Option Addr) (l0 c0 : Nat) (a1 : Option Addr) (l1 c1 : Nat) (ip : Int) (w : World) :
    Calls Eezg.prog 9 #[.slice a0 l0 c0, .slice a1 l1 c1, .int .i64 ip] w fun e w' => e = .returned (.bool (decide (l0 + l1 ≤ 1048576))) ∧ w' = w := by
  by_cases h0 : l0 ≤ 1048576
  · by_cases h1 : l1 ≤ 1048576
    · by_cases h2 : l0 + l1 ≤ 1048576
      all_goals
        go_enter Eezg.func9, Eezg.ntmps9
        go_wp2
        go_ret
        exact ⟨ret_bool (by simp; omega), rfl⟩
    · go_enter Eezg.func9, Eezg.ntmps9
      go_wp2
      go_ret
      exact ⟨ret_bool (by simp; omega), rfl⟩
  · go_enter Eezg.func9, Eezg.ntmps9
    go_wp2
    go_ret
    exact ⟨ret_bool (by simp; omega), rfl⟩

set_option maxRecDepth 100000 in
theorem zz15_any (a0 : Option Addr) (l0 c0 : Nat) (a1 : Option Addr) (l1 c1 : Nat) (ip x y : Int) (w : World) :
    Calls Eezg.prog 15 #[.slice a0 l0 c0, .slice a1 l1 c1, .int .i64 ip, .int .i64 x, .int .i64 y] w fun e w' => e = .returned (.bool (decide (l0 + l1 ≤ 1048576))) ∧ w' = w := by
  by_cases h0 : l0 ≤ 1048576
  · by_cases h1 : l1 ≤ 1048576
    · by_cases h2 : l0 + l1 ≤ 1048576
      all_goals
        go_enter Eezg.func15, Eezg.ntmps15
        go_wp2
        go_ret
        exact ⟨ret_bool (by simp; omega), rfl⟩
    · go_enter Eezg.func15, Eezg.ntmps15
      go_wp2
      go_ret
      exact ⟨ret_bool (by simp; omega), rfl⟩
  · go_enter Eezg.func15, Eezg.ntmps15
    go_wp2
    go_ret
    exact ⟨ret_bool (by simp; omega), rfl⟩

set_option maxRecDepth 100000 in
theorem zz17_any (a0 : Option Addr) (l0 c0 : Nat) (x y : Int) (b : Bool) (z : Int) (a1 : Option Addr) (l1 c1 : Nat) (a2 : Option Addr) (l2 c2 : Nat) (w : World) :
    Calls Eezg.prog 17 #[.slice a0 l0 c0, .int .i64 x, .int .i64 y, .bool b, .int .i64 z, .slice a1 l1 c1, .slice a2 l2 c2] w fun e w' => e = .returned (.bool (decide (l0 + l1 + l2 ≤ 1048576))) ∧ w' = w := by
  rcases (show l0 > 1048576 ∨ (l0 ≤ 1048576 ∧ l1 > 1048576) ∨ (l0 ≤ 1048576 ∧ l1 ≤ 1048576 ∧ l0 + l1 > 1048576) ∨ (l0 + l1 ≤ 1048576 ∧ l2 > 1048576) ∨ (l0 + l1 ≤ 1048576 ∧ l2 ≤ 1048576 ∧ l0 + l1 + l2 > 1048576) ∨ (l0 + l1 + l2 ≤ 1048576) from by omega) with h | ⟨h, h'⟩ | ⟨h, h', h''⟩ | ⟨h, h'⟩ | ⟨h, h', h''⟩ | h
  all_goals
    go_enter Eezg.func17, Eezg.ntmps17
    go_wp2
    go_ret
    exact ⟨ret_bool (by simp; omega), rfl⟩

set_option maxRecDepth 100000 in
theorem zz21_any (a0 : Option Addr) (l0 c0 : Nat) (x y : Int) (w : World) :
    Calls Eezg.prog 21 #[.slice a0 l0 c0, .int .i64 x, .int .i64 y] w fun e w' => e = .returned (.bool (decide (l0 ≤ 1048576))) ∧ w' = w := by
  by_cases h : l0 ≤ 1048576
  all_goals
    go_enter Eezg.func21, Eezg.ntmps21
    go_wp2
    go_ret
    exact ⟨ret_bool (by simp; omega), rfl⟩

set_option maxRecDepth 100000 in
theorem zz22_any (a0 : Option Addr) (l0 c0 : Nat) (a1 : Option Addr) (l1 c1 : Nat) (a2 : Option Addr) (l2 c2 : Nat) (x : Int) (w : World) :
    Calls Eezg.prog 22 #[.slice a0 l0 c0, .slice a1 l1 c1, .slice a2 l2 c2, .int .i64 x] w fun e w' => e = .returned (.bool (decide (l0 + l1 + l2 ≤ 1048576))) ∧ w' = w := by
  rcases (show l0 > 1048576 ∨ (l0 ≤ 1048576 ∧ l1 > 1048576) ∨ (l0 ≤ 1048576 ∧ l1 ≤ 1048576 ∧ l0 + l1 > 1048576) ∨ (l0 + l1 ≤ 1048576 ∧ l2 > 1048576) ∨ (l0 + l1 ≤ 1048576 ∧ l2 ≤ 1048576 ∧ l0 + l1 + l2 > 1048576) ∨ (l0 + l1 + l2 ≤ 1048576) from by omega) with h | ⟨h, h'⟩ | ⟨h, h', h''⟩ | ⟨h, h'⟩ | ⟨h, h', h''⟩ | h
  all_goals
    go_enter Eezg.func22, Eezg.ntmps22
    go_wp2
    go_ret
    exact ⟨ret_bool (by simp; omega), rfl⟩

set_option maxRecDepth 100000 in
theorem zz23_any (a0 : Option Addr) (l0 c0 : Nat) (x : Int) (w : World) :
    Calls Eezg.prog 23 #[.slice a0 l0 c0, .int .i64 x] w fun e w' => e = .returned (.bool (decide (l0 ≤ 1048576))) ∧ w' = w := by
  by_cases h : l0 ≤ 1048576
  all_goals
    go_enter Eezg.func23, Eezg.ntmps23
    go_wp2
    go_ret
    exact ⟨ret_bool (by simp; omega), rfl⟩

def tooBigB (l0 l1 l2 : Nat) (n : Int) : Bool :=
  !decide (l0 ≤ 1048576 ∧ l1 ≤ 131072 ∧ l2 ≤ 131072 ∧ 0 ≤ n ∧ n ≤ 65536 ∧ (l0 : Int) + 8 * l1 + 8 * l2 + 8 * n ≤ 1048576)

set_option maxRecDepth 100000 in
theorem tooBig_any (a0 : Option Addr) (l0 c0 : Nat) (a1 : Option Addr) (l1 c1 : Nat) (a2 : Option Addr) (l2 c2 : Nat) (n : Int) (w : World) :
    Calls Eezg.prog 10 #[.slice a0 l0 c0, .slice a1 l1 c1, .slice a2 l2 c2, .int .i64 n] w fun e w' => e = .returned (.bool (tooBigB l0 l1 l2 n)) ∧ w' = w := by
  rcases (show l0 > 1048576 ∨ (l0 ≤ 1048576 ∧ l1 > 131072) ∨ (l0 ≤ 1048576 ∧ l1 ≤ 131072 ∧ l2 > 131072) ∨ (l0 ≤ 1048576 ∧ l1 ≤ 131072 ∧ l2 ≤ 131072) from by omega) with h | ⟨h, h'⟩ | ⟨h, h', h''⟩ | ⟨h, h', h''⟩
  · go_enter Eezg.func10, Eezg.ntmps10
    go_wp2
    go_ret
    exact ⟨ret_bool (by simp [tooBigB]; omega), rfl⟩
  · go_enter Eezg.func10, Eezg.ntmps10
    go_wp2
    go_ret
    exact ⟨ret_bool (by simp [tooBigB]; omega), rfl⟩
  · go_enter Eezg.func10, Eezg.ntmps10
    go_wp2
    go_ret
    exact ⟨ret_bool (by simp [tooBigB]; omega), rfl⟩
  · rcases (show n < 0 ∨ (0 ≤ n ∧ n > 65536) ∨ (0 ≤ n ∧ n ≤ 65536) from by omega) with g | ⟨g, g'⟩ | ⟨g, g'⟩
    · go_enter Eezg.func10, Eezg.ntmps10
      go_wp2
      go_ret
      exact ⟨ret_bool (by simp [tooBigB]; omega), rfl⟩
    · go_enter Eezg.func10, Eezg.ntmps10
      go_wp2
      go_ret
      exact ⟨ret_bool (by simp [tooBigB]; omega), rfl⟩
    · go_enter Eezg.func10, Eezg.ntmps10
      go_wp2
      go_ret
      refine ⟨ret_bool ?_, rfl⟩
      rw [tooBigB, Bool.eq_iff_iff]; simp; omega

set_option maxRecDepth 100000 in
theorem pair_any (a0 : Option Addr) (l0 c0 : Nat) (a1 : Option Addr) (l1 c1 : Nat) (w : World) :
    Calls Eezg.prog 14 #[.slice a0 l0 c0, .slice a1 l1 c1] w fun e w' => e = .returned (.int .i64 (min l0 l1 : Nat)) ∧ w' = w := by
  by_cases h : l1 < l0
  · go_enter Eezg.func14, Eezg.ntmps14
    go_wp2
    go_ret
    exact ⟨ret_int (by omega), rfl⟩
  · go_enter Eezg.func14, Eezg.ntmps14
    go_wp2
    go_ret
    exact ⟨ret_int (by omega), rfl⟩

end Go.Proofs.Yoeezw
