/-
  buildMap (12), SourcePos (13): a source map as a function, and what SourcePos finds in it.
-/
import Derived.Test.YoeezwClone
import Derived.Deep.QuietTactic
import Derived.BigQuiet
namespace Go.Proofs.Yoeezw
open Go.RowKit Go.Maps

theorem law3 : Keyed Eezg.prog 3 := int_keyed Eezg.underlying3
theorem zero35 (w : World) : (zeroValue 35).run Eezg.prog w = .ok (.int .i64 0) w := by kernel_rfl

theorem run_makeMap_hint (n : Int) (w : World) : (Instr.makeMap 27 (some (.int .i64 n))).run Eezg.prog w = .ok (.map (some w.heap.size)) (w.alloc (.map #[] 0)) := by
  simp [Instr.makeMap, run_underlying Eezg.underlying27, asInt, asIntOf, Result.andThen]

/-- The datum D holds, key by key, what f says. -/
def HoldsF (D : DataW Unit) (f : Int → Option Int) : Prop :=
  IsMap D ∧ ∀ j, has D (.int .i64 j) = (f j).isSome ∧ ∀ v, f j = some v → ∀ z, D.atKey (.int .i64 j) z = .lit (.int .i64 v)

theorem holdsF_empty : HoldsF (.map []) (fun _ => none) := ⟨isMap_empty, fun j => ⟨by simp [has_eq], fun v h => by cases h⟩⟩

theorem HoldsF.put {D : DataW Unit} {f : Int → Option Int} (h : HoldsF D f) (k v : Int) : HoldsF (D.put (.int .i64 k) (.lit (.int .i64 v))) (fun j => if k = j then some v else f j) := by
  have hk : WideAt.IsKeyLit (.int .i64 k) := by first | trivial | simp [WideAt.IsKeyLit]
  refine ⟨h.1.put _ _, fun j => ?_⟩
  by_cases e : k = j
  · subst e
    simp only [if_true]
    exact ⟨by rw [has_put_same h.1 hk]; rfl, fun v' hv' z => by cases hv'; exact atKey_put_same h.1 hk _ _⟩
  · have hne : (Lit.int .i64 j) ≠ .int .i64 k := fun h => by injection h; omega
    simp only [if_neg e]
    exact ⟨by rw [has_put_other hne]; exact (h.2 j).1, fun v' hv' z => by rw [atKey_put_other hne]; exact (h.2 j).2 v' hv' z⟩

/-- The map value '.map r' holds what f says. -/
def MapIs (w : World) (r : Option Nat) (f : Int → Option Int) : Prop :=
  (r = none ∧ ∀ j, f j = none) ∨ ∃ b n D, r = some b ∧ w.ownsMap Eezg.prog 3 (plainElem (H := Unit) Eezg.prog 35) b n D ∧ HoldsF D f

theorem MapIs.look {w : World} {r : Option Nat} {f : Int → Option Int} (h : MapIs w r f) (j : Int) (hj : (Lit.int .i64 j).wf = true) :
    (Instr.lookup 27 (.map r) (.int .i64 j) true).run Eezg.prog w = .ok (.tuple #[.int .i64 ((f j).getD 0), .bool (f j).isSome]) w := by
  have hkey := keyOf_int_mk Eezg.underlying3 hj
  rcases h with ⟨rfl, hf⟩ | ⟨b, n, D, rfl, hown, hD⟩
  · rw [Maps.look_nil true law3 Eezg.underlying27 (zero35 w) hkey, hf j]; rfl
  · obtain ⟨v, ps, hrun, hv⟩ := hown.look_ok law3 Eezg.underlying27 (zero35 w) (plainElem_int Eezg.underlying35 (by decide)) hkey
    rw [hrun, (hD.2 j).1]
    obtain ⟨c, rfl, hc, hwc⟩ := plainElem_int_inv Eezg.underlying35 hv
    cases hfj : f j with
    | none =>
      have h0 := atKey_of_not_has (D := D) (k := .int .i64 j) (by rw [(hD.2 j).1, hfj]; rfl) (.lit (.int .i64 0))
      rw [h0] at hc
      injection hc with hc _
      injection hc with hc
      injection hc with _ hc
      subst hc
      rfl
    | some v' =>
      rw [(hD.2 j).2 v' hfj] at hc
      injection hc with hc _
      injection hc with hc
      injection hc with _ hc
      subst hc
      rfl

/-- The blocks that the map lies in are as they were. -/
theorem MapIs.below {w w' : World} {r : Option Nat} {f : Int → Option Int} (h : MapIs w r f) (hb : Below w.heap.size w w') : MapIs w' r f := by
  rcases h with h | ⟨b, n, D, rfl, ⟨es, clock, h1, h2⟩, hD⟩
  · exact .inl h
  · exact .inr ⟨b, n, D, rfl, ⟨es, clock, by rw [hb.block b (lt_of_block h1)]; exact h1, h2⟩, hD⟩

/-- The last pair with key j among the first n. -/
def lastVal (ks vs : List Int) : Nat → Int → Option Int
  | 0, _ => none
  | n + 1, j => if ks.getD n 0 = j then some (vs.getD n 0) else lastVal ks vs n j

set_option maxRecDepth 100000 in
theorem buildMap_none (a0 : Option Addr) (l0 c0 : Nat) (a1 : Option Addr) (l1 c1 : Nat) (w : World) (h : min l0 l1 = 0) :
    Calls Eezg.prog 12 #[.slice a0 l0 c0, .slice a1 l1 c1] w fun e w' => e = .returned (.map none) ∧ w' = w := by
  have h0 : ((min l0 l1 : Nat) : Int) = 0 := by omega
  go_enter Eezg.func12, Eezg.ntmps12
  go_wp2_with (go_at_call 14; refine (pair_any _ _ _ _ _ _ _).mono ?_; rintro e w' ⟨rfl, hw⟩; subst w')
  go_ret
  exact ⟨rfl, rfl⟩

set_option maxRecDepth 100000 in
theorem buildMap_some (a0 : Option Addr) (l0 c0 : Nat) (a1 : Option Addr) (l1 c1 : Nat) (ks vs : List Int) (w : World) (b0 : l0 ≤ 1048576) (b1 : l1 ≤ 1048576) (h : 0 < min l0 l1)
    (r0 : Rd .i64 w a0 l0 ks) (r1 : Rd .i64 w a1 l1 vs) :
    Calls Eezg.prog 12 #[.slice a0 l0 c0, .slice a1 l1 c1] w fun e w' => ∃ D, e = .returned (.map (some w.heap.size)) ∧ w'.ownsMap Eezg.prog 3 (plainElem (H := Unit) Eezg.prog 35) w.heap.size (min l0 l1) D ∧
      HoldsF D (lastVal ks vs (min l0 l1)) ∧ Below w.heap.size w w' := by
  obtain ⟨z0, f0, r0⟩ := r0
  obtain ⟨z1, f1, r1⟩ := r1
  rcases r0 with r0 | ⟨b, off, rfl, hb, hc⟩
  · omega
  rcases r1 with r1 | ⟨b', off', rfl, hb', hc'⟩
  · omega
  have HZ : Hid (ks.length = l0 ∧ vs.length = l1) := ⟨z0, z1⟩
  clear z0 z1
  generalize hn : min l0 l1 = n at h ⊢
  have hn0 : n ≤ l0 := by omega
  have hn1 : n ≤ l1 := by omega
  have hne : ((n : Int) == 0) = false := by simp; omega
  have hmm := run_makeMap_hint
  go_enter Eezg.func12, Eezg.ntmps12
  go_wp2_with (go_at_call 14; refine (pair_any _ _ _ _ _ _ _).mono ?_; rintro e w' ⟨rfl, hw⟩; subst w')
  go_loopw [7] (fun i wr => ∃ (k : Nat) (D : DataW Unit), k ≤ n ∧ i = .int .i64 k ∧ wr.ownsMap Eezg.prog 3 (plainElem (H := Unit) Eezg.prog 35) w.heap.size k D ∧ HoldsF D (lastVal ks vs k) ∧ Below w.heap.size w wr)
    (fun i _ => n - (intOf i).toNat)
  case atStart => exact ⟨0, _, Nat.zero_le _, rfl, World.ownsMap_made _ _ _ _, holdsF_empty, (Below.refl _ _).alloc (Nat.le_refl _) _⟩
  case round =>
    obtain ⟨k, D, hk, rfl, hown, hD, hnx⟩ := hrel
    by_cases hlt : k < n
    · have hcx : wr.cell? ⟨b, off + k, none⟩ = some (.int .i64 (ks.getD k 0)) := (hnx.cell (by exact hb)).trans (hc k (by omega))
      have hcy : wr.cell? ⟨b', off' + k, none⟩ = some (.int .i64 (vs.getD k 0)) := (hnx.cell (by exact hb')).trans (hc' k (by omega))
      obtain ⟨w1, hrun, hown1, hgrow1⟩ := (hown.drew).update law3 Eezg.underlying27 (by unfold maxLen; omega) (keyOf_int_mk Eezg.underlying3 (wf_getD f0 k)) (plainElem_int Eezg.underlying35 (wf_getD f1 k))
      have R : Hid (HoldsF (D.put (.int .i64 (ks.getD k 0)) (.lit (.int .i64 (vs.getD k 0)))) (lastVal ks vs (k + 1))) := hD.put _ _
      have R1 : Hid (Below w.heap.size w w1) := hnx.drew.grown hgrow1 hnx.size (fun j hj => by cases hj; exact Nat.le_refl _)
      have e1 : (0 : Int) ≤ (k : Int) := by omega
      have e2 : (k : Int) < (l0 : Int) := by omega
      have e3 : (k : Int) < (l1 : Int) := by omega
      have HO : Hid (w1.ownsMap Eezg.prog 3 (plainElem (H := Unit) Eezg.prog 35) w.heap.size (k + 1) (D.put (.int .i64 (ks.getD k 0)) (.lit (.int .i64 (vs.getD k 0))))) := hown1
      clear hc hc' hown1 hgrow1 hown hD hnx
      simp only [List.getD_eq_getElem?_getD] at hcx hcy hrun
      go_wp2
      go_region
      go_wp2
      go_roundw
      case rel => exact ⟨k + 1, _, by omega, by go_num, HO.out, R.out, R1.out⟩
      case measure => simp [intOf]; omega
    · go_wp2
      go_ret
      obtain rfl : k = n := by omega
      exact ⟨D, rfl, hown, hD, hnx⟩

/-- buildMap, whatever it is handed. -/
theorem buildMap_any (a0 : Option Addr) (l0 c0 : Nat) (a1 : Option Addr) (l1 c1 : Nat) (ks vs : List Int) (w : World) (b0 : l0 ≤ 1048576) (b1 : l1 ≤ 1048576)
    (r0 : Rd .i64 w a0 l0 ks) (r1 : Rd .i64 w a1 l1 vs) :
    Calls Eezg.prog 12 #[.slice a0 l0 c0, .slice a1 l1 c1] w fun e w' => ∃ r, e = .returned (.map r) ∧ MapIs w' r (lastVal ks vs (min l0 l1)) ∧ Below w.heap.size w w' := by
  by_cases h : min l0 l1 = 0
  · exact (buildMap_none a0 l0 c0 a1 l1 c1 w h).mono (fun e w' ⟨he, hw⟩ => ⟨none, he, .inl ⟨rfl, fun j => by rw [h]; rfl⟩, by rw [hw]; exact Below.refl _ _⟩)
  · exact (buildMap_some a0 l0 c0 a1 l1 c1 ks vs w b0 b1 (by omega) r0 r1).mono (fun e w' ⟨D, he, hown, hD, hb⟩ => ⟨_, he, .inr ⟨_, _, D, rfl, hown, hD⟩, hb⟩)

/-- What SourcePos comes to at ip = n: the value at the greatest key at or below n, nought where there is none. -/
def srcTo (f : Int → Option Int) : Nat → Int
  | 0 => (f 0).getD 0
  | n + 1 => match f ((n : Int) + 1) with
    | some v => v
    | none => srcTo f n
def srcPos (f : Int → Option Int) (ip : Int) : Int := if ip < 0 then 0 else srcTo f ip.toNat

theorem srcPos_neg (f : Int → Option Int) (ip : Int) (h : ip < 0) : srcPos f ip = 0 := by simp [srcPos, h]
theorem srcPos_hit (f : Int → Option Int) (ip v : Int) (h : 0 ≤ ip) (hf : f ip = some v) : srcPos f ip = v := by
  obtain ⟨n, rfl⟩ := Int.eq_ofNat_of_zero_le h
  simp only [srcPos, if_neg (show ¬ (n : Int) < 0 by omega), Int.toNat_natCast]
  cases n with
  | zero => simp only [srcTo]; rw [show (0 : Int) = ((0 : Nat) : Int) from rfl, hf]; rfl
  | succ n => simp only [srcTo]; rw [show (n : Int) + 1 = ((n + 1 : Nat) : Int) from by omega, hf]
theorem srcPos_miss (f : Int → Option Int) (ip : Int) (h : 0 ≤ ip) (hf : f ip = none) : srcPos f ip = srcPos f (ip - 1) := by
  obtain ⟨n, rfl⟩ := Int.eq_ofNat_of_zero_le h
  cases n with
  | zero =>
    have hf0 : f 0 = none := hf
    rw [srcPos_neg f (((0 : Nat) : Int) - 1) (by omega)]
    show (if (0 : Int) < 0 then 0 else (f 0).getD 0) = 0
    rw [hf0]; rfl
  | succ n =>
    simp only [srcPos]
    rw [if_neg (by omega), if_neg (by omega), show (((n + 1 : Nat) : Int) - 1).toNat = n from by omega, Int.toNat_natCast]
    simp only [srcTo]
    rw [show (n : Int) + 1 = ((n + 1 : Nat) : Int) from by omega, hf]

theorem wf64 (j : Int) (h0 : 0 ≤ j) (h1 : j ≤ 65536) : (Lit.int .i64 j).wf = true := by
  first | exact WalkArith.wf_i64 (by omega) | (simp [Lit.wf, IntKind.wrap]; omega)

set_option maxRecDepth 100000 in
theorem srcPos_any (c : Nat) (r : Option Nat) (f : Int → Option Int) (ip : Int) (w : World) (hip : ip ≤ 65536) (hm : MapIs w r f) (hc : w.cell? ⟨c, 4, none⟩ = some (.map r)) :
    Calls Eezg.prog 13 #[.pointer (some ⟨c, 0, none⟩), .int .i64 ip] w fun e w' => e = .returned (.int .i64 (srcPos f ip)) ∧ w' = w := by
  have HM : Hid (MapIs w r f) := hm
  clear hm
  go_enter Eezg.func13, Eezg.ntmps13
  go_wp2
  go_loop [1] (fun i => ∃ j : Int, i = .int .i64 j ∧ j ≤ 65536 ∧ Hid (srcPos f j = srcPos f ip)) (fun i => (intOf i + 1).toNat)
  case atStart => exact ⟨ip, rfl, hip, rfl⟩
  case round =>
    obtain ⟨j, rfl, hj, HS⟩ := hrel
    by_cases h0 : 0 ≤ j
    · have hlk := MapIs.look HM.out j (wf64 j h0 hj)
      cases hfj : f j with
      | none =>
        rw [hfj] at hlk
        have HF : Hid (f j = none) := hfj
        clear hfj
        simp only [Option.getD_none, Option.isSome_none] at hlk
        go_wp2
        go_round
        case rel => exact ⟨j - 1, rfl, by omega, (srcPos_miss f j h0 HF.out).symm.trans HS.out⟩
        case measure => simp [intOf]; omega
      | some v =>
        rw [hfj] at hlk
        have HF : Hid (f j = some v) := hfj
        clear hfj
        simp only [Option.getD_some, Option.isSome_some] at hlk
        go_wp2
        go_ret
        exact ⟨ret_int ((srcPos_hit f j v h0 HF.out).symm.trans HS.out), rfl⟩
    · go_wp2
      go_ret
      exact ⟨ret_int ((srcPos_neg f j (by omega)).symm.trans HS.out), rfl⟩
end Go.Proofs.Yoeezw
