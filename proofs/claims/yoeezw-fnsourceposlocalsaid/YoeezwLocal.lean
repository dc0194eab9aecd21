/-
  noKeyBetween (16), and the plain law of FnSourcePosLocal.
-/
import Derived.Test.YoeezwModel
namespace Go.Proofs.Yoeezw
open Go.RowKit Go.Maps

/-- No key among the first n lies above lo and at most at hi. -/
def noKeyB (ks : List Int) (n : Nat) (lo hi : Int) : Bool := decide (∀ i, i < n → ¬ (lo < ks.getD i 0 ∧ ks.getD i 0 ≤ hi))

theorem noKey_all {ks : List Int} {n : Nat} {lo hi : Int} (h : ∀ i, i < n → ¬ (lo < ks.getD i 0 ∧ ks.getD i 0 ≤ hi)) : noKeyB ks n lo hi = true := by
  unfold noKeyB; exact decide_eq_true h
theorem noKey_hit {ks : List Int} {n i : Nat} {lo hi kk : Int} (hi' : i < n) (hk : ks.getD i 0 = kk) (h0 : lo < kk) (h1 : kk ≤ hi) : noKeyB ks n lo hi = false := by
  unfold noKeyB; exact decide_eq_false (fun h => h i hi' ⟨by omega, by omega⟩)
theorem noKey_out {ks : List Int} {n : Nat} {lo hi : Int} (h : noKeyB ks n lo hi = true) : ∀ i, i < n → ¬ (lo < ks.getD i 0 ∧ ks.getD i 0 ≤ hi) := by
  unfold noKeyB at h; exact of_decide_eq_true h

set_option maxRecDepth 100000 in
theorem noKey_any (a0 : Option Addr) (l0 c0 : Nat) (a1 : Option Addr) (l1 c1 : Nat) (ks : List Int) (lo hi : Int) (w : World) (b0 : l0 ≤ 1048576) (r0 : Rd .i64 w a0 l0 ks) :
    Calls Eezg.prog 16 #[.slice a0 l0 c0, .slice a1 l1 c1, .int .i64 lo, .int .i64 hi] w fun e w' => e = .returned (.bool (noKeyB ks (min l0 l1) lo hi)) ∧ w' = w := by
  have U0 : Hid (Rd .i64 w a0 l0 ks) := r0
  clear r0
  go_enter Eezg.func16, Eezg.ntmps16
  go_wp2_with fail
  refine (pair_any _ _ _ _ _ _ _).mono ?_
  rintro e w' ⟨rfl, hw⟩
  subst w'
  generalize hn : min l0 l1 = n
  have hn0 : n ≤ l0 := by omega
  have hn1 : n ≤ l1 := by omega
  have HN : Hid (min l0 l1 = n) := hn
  clear hn
  go_wp2_with fail
  go_loop [10] (fun i => ∃ k : Nat, k ≤ n ∧ i = .int .i64 k ∧ Hid (∀ i, i < k → ¬ (lo < ks.getD i 0 ∧ ks.getD i 0 ≤ hi))) (fun i => n - (intOf i).toNat)
  case atStart => exact ⟨0, Nat.zero_le _, rfl, fun i hi => absurd hi (Nat.not_lt_zero i)⟩
  case round =>
    obtain ⟨k, hk, rfl, HB⟩ := hrel
    by_cases hlt : k < n
    · obtain ⟨z0, f0, q0⟩ := U0.out
      rcases q0 with q0 | ⟨b, off, rfl, hb, hc⟩
      · omega
      have hcx := hc k (by omega)
      generalize hkk : ks.getD k 0 = kk at hcx
      have HK : Hid (ks.getD k 0 = kk) := hkk
      clear hc hkk z0 f0 hb
      have SS : Hid (¬ (lo < kk ∧ kk ≤ hi) → Hid (∀ i, i < k + 1 → ¬ (lo < ks.getD i 0 ∧ ks.getD i 0 ≤ hi))) := by
        intro g i hi'
        by_cases e : i < k
        · exact HB.out i e
        · obtain rfl : i = k := by omega
          rw [HK.out]; exact g
      by_cases t0 : lo < kk
      · by_cases t1 : kk ≤ hi
        · go_wp2
          go_ret
          exact ⟨ret_bool (by rw [HN.out]; exact (noKey_hit hlt HK.out t0 t1).symm), rfl⟩
        · go_wp2
          go_round
          case rel => exact ⟨k + 1, by omega, by go_num, SS.out (by omega)⟩
          case measure => simp [intOf]; omega
      · go_wp2
        go_round
        case rel => exact ⟨k + 1, by omega, by go_num, SS.out (by omega)⟩
        case measure => simp [intOf]; omega
    · obtain rfl : k = n := by omega
      go_wp2
      go_ret
      exact ⟨ret_bool (by rw [HN.out]; exact (noKey_all HB.out).symm), rfl⟩

/-- The map with one pair more. -/
def plus (f : Int → Option Int) (k v : Int) : Int → Option Int := fun j => if k = j then some v else f j

theorem srcTo_congr {f g : Int → Option Int} : ∀ (n : Nat), (∀ j, 0 ≤ j → j ≤ (n : Int) → f j = g j) → srcTo f n = srcTo g n
  | 0, h => by simp only [srcTo]; rw [h 0 (by omega) (by omega)]
  | n + 1, h => by
    simp only [srcTo]
    rw [h ((n : Int) + 1) (by omega) (by omega), srcTo_congr n (fun j h0 h1 => h j h0 (by omega))]

theorem srcPos_congr {f g : Int → Option Int} (ip : Int) (h : ∀ j, 0 ≤ j → j ≤ ip → f j = g j) : srcPos f ip = srcPos g ip := by
  unfold srcPos
  by_cases hip : ip < 0
  · rw [if_pos hip, if_pos hip]
  · rw [if_neg hip, if_neg hip, srcTo_congr ip.toNat (fun j h0 h1 => h j h0 (by omega))]

theorem local_above (f : Int → Option Int) (ip k v : Int) (h : ip < k) : srcPos f ip = srcPos (plus f k v) ip :=
  srcPos_congr ip (fun j _ hj => by unfold plus; rw [if_neg (by omega)])

theorem lastVal_none {ks vs : List Int} {j : Int} : ∀ (n : Nat), (∀ i, i < n → ks.getD i 0 ≠ j) → lastVal ks vs n j = none
  | 0, _ => rfl
  | n + 1, h => by
    simp only [lastVal]
    rw [if_neg (h n (by omega))]
    exact lastVal_none n (fun i hi => h i (by omega))

theorem local_nearest (ks vs : List Int) (n : Nat) (ip k v : Int) (h0 : 0 ≤ k) (h1 : k ≤ ip) (h : noKeyB ks n k ip = true) : srcPos (plus (lastVal ks vs n) k v) ip = v := by
  rw [srcPos_to _ k ip h1 (by omega) (fun j hj hj' => ?_), srcPos_hit _ _ v h0 (by unfold plus; rw [if_pos rfl])]
  unfold plus
  rw [if_neg (by omega)]
  exact lastVal_none n (fun i hi e => noKey_out h i hi ⟨by omega, by omega⟩)

end Go.Proofs.Yoeezw
