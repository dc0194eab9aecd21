/-
  The plain law of FnSourcePosMatchesModel: no Go in sight.
-/
import Derived.Test.YoeezwMap
namespace Go.Proofs.Yoeezw

/-- What the law's own loop has after the first n pairs. -/
def Best (ks vs : List Int) (ip : Int) (n : Nat) (found : Bool) (best val : Int) : Prop :=
  (found = false → ∀ j, 0 ≤ j → j ≤ ip → lastVal ks vs n j = none) ∧
  (found = true → 0 ≤ best ∧ best ≤ ip ∧ lastVal ks vs n best = some val ∧ ∀ j, best < j → j ≤ ip → lastVal ks vs n j = none)

theorem best_start (ks vs : List Int) (ip : Int) : Best ks vs ip 0 false 0 0 := ⟨fun _ _ _ _ => rfl, fun h => by cases h⟩

theorem best_take {ks vs : List Int} {ip : Int} {n : Nat} {found : Bool} {best val : Int} (h : Best ks vs ip n found best val)
    (h0 : 0 ≤ ks.getD n 0) (h1 : ks.getD n 0 ≤ ip) (h2 : found = true → best ≤ ks.getD n 0) : Best ks vs ip (n + 1) true (ks.getD n 0) (vs.getD n 0) := by
  refine ⟨fun h => (by cases h), fun _ => ⟨h0, h1, by simp [lastVal], fun j hj hj' => ?_⟩⟩
  simp only [lastVal]
  rw [if_neg (by omega)]
  cases hf : found with
  | false => exact h.1 hf j (by omega) hj'
  | true => exact (h.2 hf).2.2.2 j (by have := h2 hf; omega) hj'

theorem best_skip {ks vs : List Int} {ip : Int} {n : Nat} {found : Bool} {best val : Int} (h : Best ks vs ip n found best val)
    (hs : ks.getD n 0 < 0 ∨ ip < ks.getD n 0 ∨ (found = true ∧ ks.getD n 0 < best)) : Best ks vs ip (n + 1) found best val := by
  refine ⟨fun hf j h0 h1 => ?_, fun hf => ?_⟩
  · simp only [lastVal]
    rw [if_neg (by rcases hs with hs | hs | ⟨hs, _⟩ <;> first | omega | (rw [hf] at hs; cases hs))]
    exact h.1 hf j h0 h1
  · obtain ⟨b0, b1, b2, b3⟩ := h.2 hf
    refine ⟨b0, b1, ?_, fun j hj hj' => ?_⟩
    · simp only [lastVal]
      rw [if_neg (by omega)]
      exact b2
    · simp only [lastVal]
      rw [if_neg (by omega)]
      exact b3 j hj hj'

theorem srcPos_above (f : Int → Option Int) (lo : Int) : ∀ (n : Nat), (∀ j, lo < j → j ≤ lo + n → f j = none) → 0 ≤ lo + 1 → srcPos f (lo + n) = srcPos f lo
  | 0, _, _ => by simp
  | n + 1, h, h0 => by
    rw [srcPos_miss f _ (by omega) (h _ (by omega) (by omega)), show lo + ((n + 1 : Nat) : Int) - 1 = lo + (n : Int) from by omega]
    exact srcPos_above f lo n (fun j hj hj' => h j hj (by omega)) h0

theorem srcPos_to (f : Int → Option Int) (lo ip : Int) (h : lo ≤ ip) (h0 : 0 ≤ lo + 1) (hf : ∀ j, lo < j → j ≤ ip → f j = none) : srcPos f ip = srcPos f lo := by
  obtain ⟨n, hn⟩ := Int.eq_ofNat_of_zero_le (show 0 ≤ ip - lo by omega)
  have : ip = lo + (n : Int) := by omega
  subst this
  exact srcPos_above f lo n hf h0

theorem best_end {ks vs : List Int} {ip : Int} {n : Nat} {found : Bool} {best val : Int} (h : Best ks vs ip n found best val) : srcPos (lastVal ks vs n) ip = if found then val else 0 := by
  cases hf : found with
  | false =>
    by_cases hip : ip < 0
    · rw [srcPos_neg _ _ hip]; rfl
    · rw [srcPos_to _ (-1) ip (by omega) (by omega) (fun j hj hj' => h.1 hf j (by omega) hj'), srcPos_neg _ _ (by omega)]; rfl
  | true =>
    obtain ⟨b0, b1, b2, b3⟩ := h.2 hf
    rw [srcPos_to _ best ip b1 (by omega) b3, srcPos_hit _ _ _ b0 b2]; rfl

end Go.Proofs.Yoeezw
