/-
  The walk of FnCopyDropsSourceMap (7).
-/
import Derived.Test.YoeezwCopy
namespace Go.Proofs.Yoeezw
open Go.RowKit Go.Maps
set_option linter.unusedVariables false

theorem srcPos_empty (ip : Int) : srcPos (fun _ => none) ip = 0 := by
  unfold srcPos
  by_cases h : ip < 0
  · rw [if_pos h]
  · rw [if_neg h]
    generalize ip.toNat = n
    induction n with
    | zero => rfl
    | succ n ih => simpa only [srcTo] using ih

/-- The cell of the source map. -/
theorem IsFn.map {w : World} {base c : Nat} {bs : List Int} {nl np : Int} {va : Bool} {r : Option Nat} {ps : List Value} (h : IsFn w base c bs nl np va r ps) : w.cell? ⟨c, 4, none⟩ = some (.map r) := by
  obtain ⟨oi, ci, fo, cf, _, hc, _⟩ := h
  unfold fnCells at hc
  simp [World.cell?, hc]

theorem IsFn.below {w w' : World} {base c : Nat} {bs : List Int} {nl np : Int} {va : Bool} {r : Option Nat} {ps : List Value} (h : IsFn w base c bs nl np va r ps) (hb : Below w.heap.size w w') : IsFn w' base c bs nl np va r ps := by
  obtain ⟨oi, ci, fo, cf, h0, hc, h5, h45, hp⟩ := h
  exact ⟨oi, ci, fo, cf, h0, by rw [hb.block c (lt_of_block hc)]; exact hc, ownsRow_below h5 hb, ownsRow_below h45 hb, hp⟩

set_option maxRecDepth 100000 in
theorem fn7_out (a0 : Option Addr) (len0 cap0 : Nat) (a1 : Option Addr) (len1 cap1 : Nat) (a2 : Option Addr) (len2 cap2 : Nat) (ip : Int) (w : World) (h1 : ¬ len0 + len1 + len2 ≤ 1048576) :
    Calls Eezg.prog 7 #[.slice a0 len0 cap0, .slice a1 len1 cap1, .slice a2 len2 cap2, .int .i64 ip] w fun e w' => e = .returned (.bool true) ∧ Below w.heap.size w w' := by
  go_enter Eezg.func7, Eezg.ntmps7
  go_wp2_with fail
  refine (zz22_any _ _ _ _ _ _ _ _ _ _ _).mono ?_
  rintro e w' ⟨rfl, hw⟩
  subst w'
  go_wp2_with fail
  go_ret
  exact ⟨rfl, Below.refl _ _⟩

set_option maxRecDepth 100000 in
theorem fn7_big (a0 : Option Addr) (len0 cap0 : Nat) (a1 : Option Addr) (len1 cap1 : Nat) (a2 : Option Addr) (len2 cap2 : Nat) (ip : Int) (w : World) (h1 : len0 + len1 + len2 ≤ 1048576) (h2 : tooBigB len2 len0 len1 0 = true) :
    Calls Eezg.prog 7 #[.slice a0 len0 cap0, .slice a1 len1 cap1, .slice a2 len2 cap2, .int .i64 ip] w fun e w' => e = .returned (.bool true) ∧ Below w.heap.size w w' := by
  go_enter Eezg.func7, Eezg.ntmps7
  go_wp2_with fail
  refine (zz22_any _ _ _ _ _ _ _ _ _ _ _).mono ?_
  rintro e w' ⟨rfl, hw⟩
  subst w'
  go_wp2_with fail
  refine (tooBig_any _ _ _ _ _ _ _ _ _ _ _).mono ?_
  rintro e w' ⟨rfl, hw⟩
  subst w'
  go_wp2_with fail
  go_ret
  exact ⟨rfl, Below.refl _ _⟩

set_option maxRecDepth 100000 in
theorem fn7_far (a0 : Option Addr) (len0 cap0 : Nat) (a1 : Option Addr) (len1 cap1 : Nat) (a2 : Option Addr) (len2 cap2 : Nat) (ip : Int) (w : World) (h1 : len0 + len1 + len2 ≤ 1048576) (h2 : tooBigB len2 len0 len1 0 = false) (h3 : 65536 < ip) :
    Calls Eezg.prog 7 #[.slice a0 len0 cap0, .slice a1 len1 cap1, .slice a2 len2 cap2, .int .i64 ip] w fun e w' => e = .returned (.bool true) ∧ Below w.heap.size w w' := by
  go_enter Eezg.func7, Eezg.ntmps7
  go_wp2_with fail
  refine (zz22_any _ _ _ _ _ _ _ _ _ _ _).mono ?_
  rintro e w' ⟨rfl, hw⟩
  subst w'
  go_wp2_with fail
  refine (tooBig_any _ _ _ _ _ _ _ _ _ _ _).mono ?_
  rintro e w' ⟨rfl, hw⟩
  subst w'
  go_wp2_with fail
  go_ret
  exact ⟨rfl, Below.refl _ _⟩

set_option maxHeartbeats 1000000 in
set_option maxRecDepth 100000 in
theorem fn7_main (a0 : Option Addr) (len0 cap0 : Nat) (a1 : Option Addr) (len1 cap1 : Nat) (a2 : Option Addr) (len2 cap2 : Nat) (ks vs bs : List Int) (ip : Int) (w : World) (h1 : len0 + len1 + len2 ≤ 1048576) (h2 : tooBigB len2 len0 len1 0 = false) (h3 : ¬ 65536 < ip) (n0 : a0 = none → len0 = 0 ∧ cap0 = 0) (n1 : a1 = none → len1 = 0 ∧ cap1 = 0) (n2 : a2 = none → len2 = 0 ∧ cap2 = 0) (r0 : Rd .i64 w a0 len0 ks) (r1 : Rd .i64 w a1 len1 vs) (r2 : Rd .u8 w a2 len2 bs) :
    Calls Eezg.prog 7 #[.slice a0 len0 cap0, .slice a1 len1 cap1, .slice a2 len2 cap2, .int .i64 ip] w fun e w' => e = .returned (.bool true) ∧ Below w.heap.size w w' := by
  have N0 := hid n0
  have N1 := hid n1
  have N2 := hid n2
  have R0 := hid r0
  have R1 := hid r1
  have R2 := hid r2
  clear n0 n1 n2 r0 r1 r2
  go_enter Eezg.func7, Eezg.ntmps7
  go_wp2_with fail
  refine (zz22_any _ _ _ _ _ _ _ _ _ _ _).mono ?_
  rintro e w' ⟨rfl, hw⟩
  subst w'
  go_wp2_with fail
  refine (tooBig_any _ _ _ _ _ _ _ _ _ _ _).mono ?_
  rintro e w' ⟨rfl, hw⟩
  subst w'
  go_wp2_with fail
  refine (cloneBytes_own a2 len2 cap2 bs w (by omega) N2.out R2.out).mono ?_
  rintro e x1 ⟨o2, d2, rfl, m2, own2, be1⟩
  obtain rfl : bs.length = len2 := R2.out.1
  have O2 := hid own2
  have B1 := hid be1
  clear m2 own2 be1
  go_wp2_with fail
  refine (cloneInts_any a0 len0 cap0 ks x1 (by omega) N0.out (R0.out.below B1.out)).mono ?_
  rintro e x2 ⟨o0, d0, rfl, m0, s0, be2⟩
  have S0 := hid s0
  have O2' := hid (ownsRow_below O2.out be2)
  have B2 := hid (B1.out.trans (be2.mono B1.out.size))
  clear m0 s0 be2
  go_wp2_with fail
  refine (cloneInts_any a1 len1 cap1 vs x2 (by omega) N1.out (R1.out.below B2.out)).mono ?_
  rintro e x3 ⟨o1, d1, rfl, m1, s1, be3⟩
  have S1 := hid s1
  have S0' := hid (S0.out.below be3)
  have O3 := hid (ownsRow_below O2'.out be3)
  have B3 := hid (B2.out.trans (be3.mono B2.out.size))
  clear m1 s1 be3
  go_wp2_with fail
  refine (buildMap_any o0 len0 d0 o1 len1 d1 ks vs x3 (by omega) (by omega) S0'.out S1.out).mono ?_
  rintro e x4 ⟨r, rfl, hm, be4⟩
  have M4 := hid hm
  have O4 := hid (ownsRow_below O3.out be4)
  have B4 := hid (B3.out.trans (be4.mono B3.out.size))
  clear hm be4
  go_wp2_with fail
  refine (newFn_any w.heap.size o2 d2 bs 0 0 false 0 r x4 (by omega) B4.out.size O4.out).mono ?_
  rintro e x5 ⟨c, ps, rfl, hpl, hf, be5⟩
  have F5 := hid hf
  have M5 := hid (M4.out.below be5)
  have PL := hid hpl
  have B5 := hid (B4.out.trans (be5.mono B4.out.size))
  clear hf be5 hpl
  go_wp2_with fail
  refine (srcPos_any c r _ ip x5 (by omega) M5.out F5.out.map).mono ?_
  rintro e w' ⟨rfl, hw⟩
  subst w'
  generalize hsp : srcPos (lastVal ks vs (min len0 len1)) ip = sp
  have HSP := hid hsp
  clear hsp
  go_wp2_with fail
  refine (zzCopy_any c w.heap.size bs 0 0 false r ps x5 (by omega) (by have := PL.out; omega) F5.out).mono ?_
  rintro e x6 ⟨d, rfl, hf6, be6⟩
  have F6 := hid hf6
  have M6 := hid (M5.out.below be6)
  have F6' := hid (F5.out.below be6)
  have B6 := hid (B5.out.trans (be6.mono B5.out.size))
  clear hf6 be6
  go_wp2_with fail
  refine (srcPos_any d none (fun _ => none) ip x6 (by omega) (.inl ⟨rfl, fun _ => rfl⟩) F6.out.map).mono ?_
  rintro e w' ⟨he, hw⟩
  subst w'
  rw [srcPos_empty] at he
  subst he
  go_wp2_with fail
  refine (srcPos_any c r _ ip x6 (by omega) M6.out F6'.out.map).mono ?_
  rintro e w' ⟨he, hw⟩
  subst w'
  rw [HSP.out] at he
  subst he
  go_wp2_with fail
  go_ret
  exact ⟨ret_bool (by simp), B6.out⟩

/-- FnCopyDropsSourceMap: whatever it is handed. -/
theorem fn7_any (a0 : Option Addr) (len0 cap0 : Nat) (a1 : Option Addr) (len1 cap1 : Nat) (a2 : Option Addr) (len2 cap2 : Nat) (ks vs bs : List Int) (ip : Int) (w : World)
    (n0 : a0 = none → len0 = 0 ∧ cap0 = 0) (n1 : a1 = none → len1 = 0 ∧ cap1 = 0) (n2 : a2 = none → len2 = 0 ∧ cap2 = 0) (r0 : Rd .i64 w a0 len0 ks) (r1 : Rd .i64 w a1 len1 vs) (r2 : Rd .u8 w a2 len2 bs) :
    Calls Eezg.prog 7 #[.slice a0 len0 cap0, .slice a1 len1 cap1, .slice a2 len2 cap2, .int .i64 ip] w fun e w' => e = .returned (.bool true) ∧ Below w.heap.size w w' := by
  by_cases h1 : len0 + len1 + len2 ≤ 1048576
  · cases h2 : tooBigB len2 len0 len1 0 with
    | true => exact fn7_big a0 len0 cap0 a1 len1 cap1 a2 len2 cap2 ip w h1 h2
    | false =>
      by_cases h3 : 65536 < ip
      · exact fn7_far a0 len0 cap0 a1 len1 cap1 a2 len2 cap2 ip w h1 h2 h3
      · exact fn7_main a0 len0 cap0 a1 len1 cap1 a2 len2 cap2 ks vs bs ip w h1 h2 h3 n0 n1 n2 r0 r1 r2
  · exact fn7_out a0 len0 cap0 a1 len1 cap1 a2 len2 cap2 ip w h1

end Go.Proofs.Yoeezw
