/-
  The walk of FnSourcePosMatchesModel (3).
-/
import Derived.Test.YoeezwModel
namespace Go.Proofs.Yoeezw
open Go.RowKit Go.Maps

set_option maxRecDepth 100000 in
theorem fn3_out (a0 : Option Addr) (len0 cap0 : Nat) (a1 : Option Addr) (len1 cap1 : Nat) (a2 : Int) (w : World) (h1 : ¬ len0 + len1 ≤ 1048576) :
    Calls Eezg.prog 3 #[.slice a0 len0 cap0, .slice a1 len1 cap1, .int .i64 a2] w fun e w' => e = .returned (.bool true) ∧ Below w.heap.size w w' := by
  go_enter Eezg.func3, Eezg.ntmps3
  go_wp2_with fail
  refine (zz9_any _ _ _ _ _ _ _ _).mono ?_
  rintro e w' ⟨rfl, hw⟩
  subst w'
  go_wp2_with fail
  go_ret
  exact ⟨rfl, Below.refl _ _⟩

set_option maxRecDepth 100000 in
theorem fn3_big (a0 : Option Addr) (len0 cap0 : Nat) (a1 : Option Addr) (len1 cap1 : Nat) (a2 : Int) (w : World) (h1 : len0 + len1 ≤ 1048576) (h2 : tooBigB 0 len0 len1 0 = true) :
    Calls Eezg.prog 3 #[.slice a0 len0 cap0, .slice a1 len1 cap1, .int .i64 a2] w fun e w' => e = .returned (.bool true) ∧ Below w.heap.size w w' := by
  go_enter Eezg.func3, Eezg.ntmps3
  go_wp2_with fail
  refine (zz9_any _ _ _ _ _ _ _ _).mono ?_
  rintro e w' ⟨rfl, hw⟩
  subst w'
  go_wp2_with fail
  refine (tooBig_any _ _ _ _ _ _ _ _ _ _ _).mono ?_
  rintro e w' ⟨rfl, hw⟩
  subst w'
  go_wp2_with fail
  go_ret
  exact ⟨rfl, Below.refl _ _⟩

set_option maxRecDepth 100000 in
theorem fn3_far (a0 : Option Addr) (len0 cap0 : Nat) (a1 : Option Addr) (len1 cap1 : Nat) (a2 : Int) (w : World) (h1 : len0 + len1 ≤ 1048576) (h2 : tooBigB 0 len0 len1 0 = false) (h3 : 65536 < a2) :
    Calls Eezg.prog 3 #[.slice a0 len0 cap0, .slice a1 len1 cap1, .int .i64 a2] w fun e w' => e = .returned (.bool true) ∧ Below w.heap.size w w' := by
  go_enter Eezg.func3, Eezg.ntmps3
  go_wp2_with fail
  refine (zz9_any _ _ _ _ _ _ _ _).mono ?_
  rintro e w' ⟨rfl, hw⟩
  subst w'
  go_wp2_with fail
  refine (tooBig_any _ _ _ _ _ _ _ _ _ _ _).mono ?_
  rintro e w' ⟨rfl, hw⟩
  subst w'
  go_wp2_with fail
  go_ret
  exact ⟨rfl, Below.refl _ _⟩

set_option maxHeartbeats 1000000 in
set_option maxRecDepth 100000 in
theorem fn3_main (a0 : Option Addr) (len0 cap0 : Nat) (a1 : Option Addr) (len1 cap1 : Nat) (ks vs : List Int) (a2 : Int) (w : World) (h1 : len0 + len1 ≤ 1048576) (h2 : tooBigB 0 len0 len1 0 = false) (h3 : ¬ 65536 < a2)
    (n0 : a0 = none → len0 = 0 ∧ cap0 = 0) (n1 : a1 = none → len1 = 0 ∧ cap1 = 0) (r0 : Rd .i64 w a0 len0 ks) (r1 : Rd .i64 w a1 len1 vs) :
    Calls Eezg.prog 3 #[.slice a0 len0 cap0, .slice a1 len1 cap1, .int .i64 a2] w fun e w' => e = .returned (.bool true) ∧ Below w.heap.size w w' := by
  have N0 : Hid (a0 = none → len0 = 0 ∧ cap0 = 0) := n0
  have N1 : Hid (a1 = none → len1 = 0 ∧ cap1 = 0) := n1
  have R0 : Hid (Rd .i64 w a0 len0 ks) := r0
  have R1 : Hid (Rd .i64 w a1 len1 vs) := r1
  clear n0 n1 r0 r1
  go_enter Eezg.func3, Eezg.ntmps3
  go_wp2_with fail
  refine (zz9_any _ _ _ _ _ _ _ _).mono ?_
  rintro e w' ⟨rfl, hw⟩
  subst w'
  go_wp2_with fail
  refine (tooBig_any _ _ _ _ _ _ _ _ _ _ _).mono ?_
  rintro e w' ⟨rfl, hw⟩
  subst w'
  go_wp2_with fail
  refine (cloneInts_any a0 len0 cap0 ks w (by omega) N0.out R0.out).mono ?_
  rintro e x1 ⟨o0, d0, rfl, m0, s0, be1⟩
  have M0 : Hid (o0 = none → len0 = 0 ∧ d0 = 0) := m0
  have S0 : Hid (Rd .i64 x1 o0 len0 ks) := s0
  have B1 : Hid (Below w.heap.size w x1) := be1
  clear m0 s0 be1
  go_wp2_with fail
  refine (cloneInts_any a1 len1 cap1 vs x1 (by omega) N1.out (R1.out.below B1.out)).mono ?_
  rintro e x2 ⟨o1, d1, rfl, m1, s1, be2⟩
  have S1 : Hid (Rd .i64 x2 o1 len1 vs) := s1
  have S0' : Hid (Rd .i64 x2 o0 len0 ks) := S0.out.below be2
  have B2 : Hid (Below w.heap.size w x2) := B1.out.trans (be2.mono B1.out.size)
  clear m1 s1 be2
  go_wp2_with fail
  refine (buildMap_any o0 len0 d0 o1 len1 d1 ks vs x2 (by omega) (by omega) S0'.out S1.out).mono ?_
  rintro e x3 ⟨r, rfl, hm, be3⟩
  have M3 : Hid (MapIs x3 r (lastVal ks vs (min len0 len1))) := hm
  have T0 : Hid (Rd .i64 x3 o0 len0 ks) := S0'.out.below be3
  have T1 : Hid (Rd .i64 x3 o1 len1 vs) := S1.out.below be3
  have B3 : Hid (Below w.heap.size w x3) := B2.out.trans (be3.mono B2.out.size)
  clear hm be3
  go_wp2_with fail
  refine (srcPos_any x3.heap.size r _ a2 _ (by omega) (M3.out.below ((Below.refl _ _).alloc (Nat.le_refl _) _)) (by simp)).mono ?_
  rintro e w' ⟨rfl, hw⟩
  subst w'
  generalize hx4 : x3.alloc (.cells #[.slice none 0 0, .int .i64 0, .int .i64 0, .bool false, .map r, .slice none 0 0] 34) = x4
  have BX : Below x3.heap.size x3 x4 := by rw [← hx4]; exact (Below.refl _ _).alloc (Nat.le_refl _) _
  have U0 : Hid (Rd .i64 x4 o0 len0 ks) := T0.out.below BX
  have U1 : Hid (Rd .i64 x4 o1 len1 vs) := T1.out.below BX
  have B4 : Hid (Below w.heap.size w x4) := B3.out.trans (BX.mono B3.out.size)
  clear hx4 BX
  go_wp2_with fail
  refine (pair_any _ _ _ _ _ _ _).mono ?_
  rintro e w' ⟨rfl, hw⟩
  subst w'
  generalize hn : min len0 len1 = n
  have hn0 : n ≤ len0 := by omega
  have hn1 : n ≤ len1 := by omega
  clear hn
  generalize hsp : srcPos (lastVal ks vs n) a2 = sp
  have HSP : Hid (srcPos (lastVal ks vs n) a2 = sp) := hsp
  clear hsp
  go_wp2_with fail
  go_loop [10, 11, 12, 13] (fun f b v i => ∃ (k : Nat) (fd : Bool) (bs vl : Int), k ≤ n ∧ f = .bool fd ∧ b = .int .i64 bs ∧ v = .int .i64 vl ∧ i = .int .i64 k ∧ Hid (Best ks vs a2 k fd bs vl))
    (fun _ _ _ i => n - (intOf i).toNat)
  case atStart => exact ⟨0, false, 0, 0, Nat.zero_le _, rfl, rfl, rfl, rfl, best_start ks vs a2⟩
  case round =>
    obtain ⟨k, fd, bs, vl, hk, rfl, rfl, rfl, rfl, HB⟩ := hrel
    by_cases hlt : k < n
    · obtain ⟨z0, f0, q0⟩ := U0.out
      obtain ⟨z1, f1, q1⟩ := U1.out
      rcases q0 with q0 | ⟨b, off, rfl, hb, hc⟩
      · omega
      rcases q1 with q1 | ⟨b', off', rfl, hb', hc'⟩
      · omega
      have hcx := hc k (by omega)
      have hcy := hc' k (by omega)
      generalize hkk : ks.getD k 0 = kk at hcx
      generalize hvv : vs.getD k 0 = vv at hcy
      have HK : Hid (ks.getD k 0 = kk ∧ vs.getD k 0 = vv) := ⟨hkk, hvv⟩
      clear hc hc' hkk hvv z0 z1 f0 f1 hb hb'
      have takeit : (fd = true → bs ≤ kk) → 0 ≤ kk → kk ≤ a2 → Hid (Best ks vs a2 (k + 1) true kk vv) := fun g0 g1 g2 => by
        have := best_take HB.out (by rw [HK.out.1]; exact g1) (by rw [HK.out.1]; exact g2) (by rw [HK.out.1]; exact g0)
        rw [HK.out.1, HK.out.2] at this
        exact this
      have skipit : (kk < 0 ∨ a2 < kk ∨ (fd = true ∧ kk < bs)) → Hid (Best ks vs a2 (k + 1) fd bs vl) := fun g => best_skip HB.out (by rw [HK.out.1]; exact g)
      have TT : Hid _ := takeit
      have SS : Hid _ := skipit
      clear takeit skipit
      by_cases t0 : 0 ≤ kk
      · by_cases t1 : kk ≤ a2
        · cases fd with
          | false =>
            go_wp2
            go_round
            case rel => exact ⟨k + 1, true, kk, vv, by omega, rfl, rfl, rfl, by go_num, TT.out (fun h => by cases h) t0 t1⟩
            case measure => simp [intOf]; omega
          | true =>
            by_cases t2 : bs ≤ kk
            · go_wp2
              go_round
              case rel => exact ⟨k + 1, true, kk, vv, by omega, rfl, rfl, rfl, by go_num, TT.out (fun _ => t2) t0 t1⟩
              case measure => simp [intOf]; omega
            · go_wp2
              go_round
              case rel => exact ⟨k + 1, true, bs, vl, by omega, rfl, rfl, rfl, by go_num, SS.out (.inr (.inr ⟨rfl, by omega⟩))⟩
              case measure => simp [intOf]; omega
        · go_wp2
          go_round
          case rel => exact ⟨k + 1, fd, bs, vl, by omega, rfl, rfl, rfl, by go_num, SS.out (.inr (.inl (by omega)))⟩
          case measure => simp [intOf]; omega
      · go_wp2
        go_round
        case rel => exact ⟨k + 1, fd, bs, vl, by omega, rfl, rfl, rfl, by go_num, SS.out (.inl (by omega))⟩
        case measure => simp [intOf]; omega
    · obtain rfl : k = n := by omega
      have hend := (best_end HB.out).symm.trans HSP.out
      cases fd with
      | false =>
        have HE : Hid (0 = sp) := hend
        clear hend
        go_wp2
        go_ret
        exact ⟨ret_bool (by rw [← HE.out]; rfl), B4.out⟩
      | true =>
        have HE : Hid (vl = sp) := hend
        clear hend
        go_wp2
        go_ret
        exact ⟨ret_bool (by rw [← HE.out]; simp), B4.out⟩

/-- FnSourcePosMatchesModel: whatever it is handed. -/
theorem fn3_any (a0 : Option Addr) (len0 cap0 : Nat) (a1 : Option Addr) (len1 cap1 : Nat) (ks vs : List Int) (a2 : Int) (w : World)
    (n0 : a0 = none → len0 = 0 ∧ cap0 = 0) (n1 : a1 = none → len1 = 0 ∧ cap1 = 0) (r0 : Rd .i64 w a0 len0 ks) (r1 : Rd .i64 w a1 len1 vs) :
    Calls Eezg.prog 3 #[.slice a0 len0 cap0, .slice a1 len1 cap1, .int .i64 a2] w fun e w' => e = .returned (.bool true) ∧ Below w.heap.size w w' := by
  by_cases h1 : len0 + len1 ≤ 1048576
  · cases h2 : tooBigB 0 len0 len1 0 with
    | true => exact fn3_big a0 len0 cap0 a1 len1 cap1 a2 w h1 h2
    | false =>
      by_cases h3 : 65536 < a2
      · exact fn3_far a0 len0 cap0 a1 len1 cap1 a2 w h1 h2 h3
      · exact fn3_main a0 len0 cap0 a1 len1 cap1 ks vs a2 w h1 h2 h3 n0 n1 r0 r1
  · exact fn3_out a0 len0 cap0 a1 len1 cap1 a2 w h1

end Go.Proofs.Yoeezw
