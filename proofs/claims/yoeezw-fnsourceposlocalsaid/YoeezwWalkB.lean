/-
  The walk of FnSourcePosLocal (4).
-/
import Derived.Test.YoeezwLocal
namespace Go.Proofs.Yoeezw
open Go.RowKit Go.Maps
set_option linter.unusedVariables false

theorem hidB {p : Prop} (h : p) : Hid p := h

/-- buildMap: nil of no pairs; else a new map in the block behind the heap's end. -/
theorem buildMap_at (a0 : Option Addr) (l0 c0 : Nat) (a1 : Option Addr) (l1 c1 : Nat) (ks vs : List Int) (w : World) (b0 : l0 ≤ 1048576) (b1 : l1 ≤ 1048576)
    (r0 : Rd .i64 w a0 l0 ks) (r1 : Rd .i64 w a1 l1 vs) :
    Calls Eezg.prog 12 #[.slice a0 l0 c0, .slice a1 l1 c1] w fun e w' =>
      (e = .returned (.map none) ∧ w' = w ∧ ∀ j, lastVal ks vs (min l0 l1) j = none) ∨
      (e = .returned (.map (some w.heap.size)) ∧ (∃ D, w'.ownsMap Eezg.prog 3 (plainElem (H := Unit) Eezg.prog 35) w.heap.size (min l0 l1) D ∧ HoldsF D (lastVal ks vs (min l0 l1))) ∧ Below w.heap.size w w') := by
  by_cases h : min l0 l1 = 0
  · exact (buildMap_none a0 l0 c0 a1 l1 c1 w h).mono (fun e w' ⟨he, hw⟩ => .inl ⟨he, hw, fun j => by rw [h]; rfl⟩)
  · exact (buildMap_some a0 l0 c0 a1 l1 c1 ks vs w b0 b1 (by omega) r0 r1).mono (fun e w' ⟨D, he, hown, hD, hb⟩ => .inr ⟨he, ⟨D, hown, hD⟩, hb⟩)

set_option maxRecDepth 100000 in
theorem fn4_out (a0 : Option Addr) (len0 cap0 : Nat) (a1 : Option Addr) (len1 cap1 : Nat) (ip xk xv : Int) (w : World) (h1 : ¬ len0 + len1 ≤ 1048576) :
    Calls Eezg.prog 4 #[.slice a0 len0 cap0, .slice a1 len1 cap1, .int .i64 ip, .int .i64 xk, .int .i64 xv] w fun e w' => e = .returned (.bool true) ∧ Below w.heap.size w w' := by
  go_enter Eezg.func4, Eezg.ntmps4
  go_wp2_with fail
  refine (zz15_any _ _ _ _ _ _ _ _ _ _).mono ?_
  rintro e w' ⟨rfl, hw⟩
  subst w'
  go_wp2_with fail
  go_ret
  exact ⟨rfl, Below.refl _ _⟩

set_option maxRecDepth 100000 in
theorem fn4_big (a0 : Option Addr) (len0 cap0 : Nat) (a1 : Option Addr) (len1 cap1 : Nat) (ip xk xv : Int) (w : World) (h1 : len0 + len1 ≤ 1048576) (h2 : tooBigB 0 len0 len1 0 = true) :
    Calls Eezg.prog 4 #[.slice a0 len0 cap0, .slice a1 len1 cap1, .int .i64 ip, .int .i64 xk, .int .i64 xv] w fun e w' => e = .returned (.bool true) ∧ Below w.heap.size w w' := by
  go_enter Eezg.func4, Eezg.ntmps4
  go_wp2_with fail
  refine (zz15_any _ _ _ _ _ _ _ _ _ _).mono ?_
  rintro e w' ⟨rfl, hw⟩
  subst w'
  go_wp2_with fail
  refine (tooBig_any _ _ _ _ _ _ _ _ _ _ _).mono ?_
  rintro e w' ⟨rfl, hw⟩
  subst w'
  go_wp2_with fail
  go_ret
  exact ⟨rfl, Below.refl _ _⟩

set_option maxRecDepth 100000 in
theorem fn4_far (a0 : Option Addr) (len0 cap0 : Nat) (a1 : Option Addr) (len1 cap1 : Nat) (ip xk xv : Int) (w : World) (h1 : len0 + len1 ≤ 1048576) (h2 : tooBigB 0 len0 len1 0 = false) (h3 : 65536 < ip) :
    Calls Eezg.prog 4 #[.slice a0 len0 cap0, .slice a1 len1 cap1, .int .i64 ip, .int .i64 xk, .int .i64 xv] w fun e w' => e = .returned (.bool true) ∧ Below w.heap.size w w' := by
  go_enter Eezg.func4, Eezg.ntmps4
  go_wp2_with fail
  refine (zz15_any _ _ _ _ _ _ _ _ _ _).mono ?_
  rintro e w' ⟨rfl, hw⟩
  subst w'
  go_wp2_with fail
  refine (tooBig_any _ _ _ _ _ _ _ _ _ _ _).mono ?_
  rintro e w' ⟨rfl, hw⟩
  subst w'
  go_wp2_with fail
  go_ret
  exact ⟨rfl, Below.refl _ _⟩

set_option maxRecDepth 100000 in
theorem fn4_neg (a0 : Option Addr) (len0 cap0 : Nat) (a1 : Option Addr) (len1 cap1 : Nat) (ip xk xv : Int) (w : World) (h1 : len0 + len1 ≤ 1048576) (h2 : tooBigB 0 len0 len1 0 = false) (h3 : ¬ 65536 < ip) (h4 : ¬ ip < xk) (h5 : ¬ 0 ≤ xk) :
    Calls Eezg.prog 4 #[.slice a0 len0 cap0, .slice a1 len1 cap1, .int .i64 ip, .int .i64 xk, .int .i64 xv] w fun e w' => e = .returned (.bool true) ∧ Below w.heap.size w w' := by
  have g4 : decide (ip < xk) = false := by simpa using h4
  have g5 : decide (0 ≤ xk) = false := by simpa using h5
  go_enter Eezg.func4, Eezg.ntmps4
  go_wp2_with fail
  refine (zz15_any _ _ _ _ _ _ _ _ _ _).mono ?_
  rintro e w' ⟨rfl, hw⟩
  subst w'
  go_wp2_with fail
  refine (tooBig_any _ _ _ _ _ _ _ _ _ _ _).mono ?_
  rintro e w' ⟨rfl, hw⟩
  subst w'
  go_wp2_with fail
  go_ret
  exact ⟨rfl, Below.refl _ _⟩

set_option maxRecDepth 100000 in
theorem fn4_key (a0 : Option Addr) (len0 cap0 : Nat) (a1 : Option Addr) (len1 cap1 : Nat) (ks vs : List Int) (ip xk xv : Int) (w : World) (h1 : len0 + len1 ≤ 1048576) (h2 : tooBigB 0 len0 len1 0 = false) (h3 : ¬ 65536 < ip) (h4 : ¬ ip < xk) (h5 : 0 ≤ xk) (r0 : Rd .i64 w a0 len0 ks) (h6 : noKeyB ks (min len0 len1) xk ip = false) :
    Calls Eezg.prog 4 #[.slice a0 len0 cap0, .slice a1 len1 cap1, .int .i64 ip, .int .i64 xk, .int .i64 xv] w fun e w' => e = .returned (.bool true) ∧ Below w.heap.size w w' := by
  have g4 : decide (ip < xk) = false := by simpa using h4
  have g5 : decide (0 ≤ xk) = true := by simpa using h5
  have g7 : decide (xk ≤ ip) = true := by simpa using h4
  have R0 : Hid (Rd .i64 w a0 len0 ks) := r0
  clear r0
  have h7 : xk ≤ ip := by omega
  go_enter Eezg.func4, Eezg.ntmps4
  go_wp2_with fail
  refine (zz15_any _ _ _ _ _ _ _ _ _ _).mono ?_
  rintro e w' ⟨rfl, hw⟩
  subst w'
  go_wp2_with fail
  refine (tooBig_any _ _ _ _ _ _ _ _ _ _ _).mono ?_
  rintro e w' ⟨rfl, hw⟩
  subst w'
  go_wp2_with fail
  refine (noKey_any a0 len0 cap0 a1 len1 cap1 ks xk ip w (by omega) R0.out).mono ?_
  rintro e w' ⟨rfl, hw⟩
  subst w'
  go_wp2_with fail
  go_ret
  exact ⟨rfl, Below.refl _ _⟩

set_option maxHeartbeats 1000000 in
set_option maxRecDepth 100000 in
theorem fn4_above0 (a0 : Option Addr) (len0 cap0 : Nat) (a1 : Option Addr) (len1 cap1 : Nat) (ks vs : List Int) (ip xk xv : Int) (w : World) (h1 : len0 + len1 ≤ 1048576) (h2 : tooBigB 0 len0 len1 0 = false) (h3 : ¬ 65536 < ip) (h4 : ip < xk) (h5 : decide (0 ≤ xk) = false) (hxk : (Lit.int .i64 xk).wf = true) (hxv : (Lit.int .i64 xv).wf = true) (n0 : a0 = none → len0 = 0 ∧ cap0 = 0) (n1 : a1 = none → len1 = 0 ∧ cap1 = 0) (r0 : Rd .i64 w a0 len0 ks) (r1 : Rd .i64 w a1 len1 vs) :
    Calls Eezg.prog 4 #[.slice a0 len0 cap0, .slice a1 len1 cap1, .int .i64 ip, .int .i64 xk, .int .i64 xv] w fun e w' => e = .returned (.bool true) ∧ Below w.heap.size w w' := by
  have g4 : decide (ip < xk) = true := by simpa using h4
  have N0 : Hid (a0 = none → len0 = 0 ∧ cap0 = 0) := n0
  have N1 : Hid (a1 = none → len1 = 0 ∧ cap1 = 0) := n1
  have R0 : Hid (Rd .i64 w a0 len0 ks) := r0
  have R1 : Hid (Rd .i64 w a1 len1 vs) := r1
  clear n0 n1 r0 r1
  have h7 : decide (xk ≤ ip) = false := by simp; omega
  have HW : Hid ((Lit.int .i64 xk).wf = true ∧ (Lit.int .i64 xv).wf = true) := ⟨hxk, hxv⟩
  clear hxk hxv
  have hmm := run_makeMap_hint
  have hnm := fun (w : World) (r : Option Nat) => run_eql_map_nil (P := Eezg.prog) w 27 3 35 r Eezg.underlying27
  go_enter Eezg.func4, Eezg.ntmps4
  go_wp2_with fail
  refine (zz15_any _ _ _ _ _ _ _ _ _ _).mono ?_
  rintro e w' ⟨rfl, hw⟩
  subst w'
  go_wp2_with fail
  refine (tooBig_any _ _ _ _ _ _ _ _ _ _ _).mono ?_
  rintro e w' ⟨rfl, hw⟩
  subst w'
  go_wp2_with fail
  refine (cloneInts_any a0 len0 cap0 ks w (by omega) N0.out R0.out).mono ?_
  rintro e x1 ⟨o0, d0, rfl, m0, s0, be1⟩
  have S0 : Hid (Rd .i64 x1 o0 len0 ks) := s0
  have B1 : Hid (Below w.heap.size w x1) := be1
  clear m0 s0 be1
  go_wp2_with fail
  refine (cloneInts_any a1 len1 cap1 vs x1 (by omega) N1.out (R1.out.below B1.out)).mono ?_
  rintro e x2 ⟨o1, d1, rfl, m1, s1, be2⟩
  have S1 : Hid (Rd .i64 x2 o1 len1 vs) := s1
  have S0' : Hid (Rd .i64 x2 o0 len0 ks) := S0.out.below be2
  have B2 : Hid (Below w.heap.size w x2) := B1.out.trans (be2.mono B1.out.size)
  clear m1 s1 be2
  go_wp2_with fail
  refine (buildMap_any o0 len0 d0 o1 len1 d1 ks vs x2 (by omega) (by omega) S0'.out S1.out).mono ?_
  rintro e x3 ⟨r, rfl, hm, be3⟩
  have BX : Below x3.heap.size x3 (x3.alloc (.cells #[.slice none 0 0, .int .i64 0, .int .i64 0, .bool false, .map r, .slice none 0 0] 34)) := (Below.refl _ _).alloc (Nat.le_refl _) _
  have CX : (x3.alloc (.cells #[.slice none 0 0, .int .i64 0, .int .i64 0, .bool false, .map r, .slice none 0 0] 34)).cell? ⟨x3.heap.size, 4, none⟩ = some (.map r) := by simp
  have SX : x3.heap.size < (x3.alloc (.cells #[.slice none 0 0, .int .i64 0, .int .i64 0, .bool false, .map r, .slice none 0 0] 34)).heap.size := by simp
  have M3 := hm.below BX
  have T0 := (S0'.out.below be3).below BX
  have T1 := (S1.out.below be3).below BX
  have B3 := (B2.out.trans (be3.mono B2.out.size)).trans (BX.mono (Nat.le_trans B2.out.size be3.size))
  have HM3 := hidB (M3)
  have HT0 := hidB (T0)
  have HT1 := hidB (T1)
  have HB3 := hidB (B3)
  have HCX := hidB (CX)
  have HSX := hidB (SX)
  clear hm be3 BX M3 T0 T1 B3 CX SX
  go_wp2_with fail
  generalize x3.alloc (.cells #[.slice none 0 0, .int .i64 0, .int .i64 0, .bool false, .map r, .slice none 0 0] 34) = x4 at *
  refine (buildMap_at o0 len0 d0 o1 len1 d1 ks vs x4 (by omega) (by omega) HT0.out HT1.out).mono ?_
  rintro e x5 (⟨rfl, hw, hf⟩ | ⟨rfl, ⟨D, hown, hD⟩, be5⟩)
  · subst x5
    have HF : Hid (lastVal ks vs (min len0 len1) = fun _ => none) := funext hf
    clear hf
    go_wp2_with (at_mapUpdate; refine wpList_mapUpdate_own _ rfl _ _ _ 27 rfl 3 35 law3 Eezg.underlying27 (plainElem (H := Unit) Eezg.prog 35) x4.heap.size 0 (.map []) rfl (World.ownsMap_made x4 _ _ _) (by unfold maxLen; omega) _ _ _ rfl rfl (keyOf_int_mk Eezg.underlying3 HW.out.1) _ [] (plainElem_int Eezg.underlying35 HW.out.2) ?_; intro x6 hown6 hgrow6)
    have be6 : Below x4.heap.size x4 x6 := ((Below.refl _ _).alloc (Nat.le_refl _) _).grown hgrow6 (by simp) (fun j hj => by cases hj; exact Nat.le_refl _)
    have M6 : MapIs x6 (some x4.heap.size) (plus (lastVal ks vs (min len0 len1)) xk xv) := .inr ⟨_, _, _, rfl, hown6, by rw [HF.out]; exact holdsF_empty.put xk xv⟩
    have SZ : x4.heap.size < x6.heap.size := by have := hgrow6.size; simp at this; omega
    have BX : Below x6.heap.size x6 (x6.alloc (.cells #[.slice none 0 0, .int .i64 0, .int .i64 0, .bool false, .map (some x4.heap.size), .slice none 0 0] 34)) := (Below.refl _ _).alloc (Nat.le_refl _) _
    have C7 : Hid ((x6.alloc (.cells #[.slice none 0 0, .int .i64 0, .int .i64 0, .bool false, .map (some x4.heap.size), .slice none 0 0] 34)).cell? ⟨x6.heap.size, 4, none⟩ = some (.map (some x4.heap.size))) := by unfold Hid; simp
    have M7 := hidB (M6.below BX)
    have be7 := be6.trans (BX.mono be6.size)
    have M7' := hidB (HM3.out.below be7)
    have C7' : Hid ((x6.alloc (.cells #[.slice none 0 0, .int .i64 0, .int .i64 0, .bool false, .map (some x4.heap.size), .slice none 0 0] 34)).cell? ⟨x3.heap.size, 4, none⟩ = some (.map r)) := (be7.cell (p := ⟨x3.heap.size, 4, none⟩) HSX.out).trans HCX.out
    have B7 := hidB (HB3.out.trans (be7.mono HB3.out.size))
    clear BX be7 M6 be6 hown6 hgrow6 SZ
    go_wp2_with fail
    generalize x6.alloc (.cells #[.slice none 0 0, .int .i64 0, .int .i64 0, .bool false, .map (some x4.heap.size), .slice none 0 0] 34) = x7 at *
    refine (srcPos_any x3.heap.size r _ ip x7 (by omega) M7'.out C7'.out).mono ?_
    rintro e w' ⟨rfl, hw⟩
    subst w'
    go_wp2_with fail
    refine (srcPos_any x6.heap.size _ _ ip x7 (by omega) M7.out C7.out).mono ?_
    rintro e w' ⟨rfl, hw⟩
    subst w'
    go_wp2_with fail
    go_ret
    exact ⟨ret_bool (by rw [beq_iff_eq]; exact local_above _ ip xk xv h4), B7.out⟩
  · have HO := hidB (hown)
    have HD := hidB (hD)
    have B5 := hidB (be5)
    clear hown hD be5
    go_wp2_with (at_mapUpdate; refine wpList_mapUpdate_own _ rfl _ _ _ 27 rfl 3 35 law3 Eezg.underlying27 (plainElem (H := Unit) Eezg.prog 35) x4.heap.size (min len0 len1) D rfl HO.out (by unfold maxLen; omega) _ _ _ rfl rfl (keyOf_int_mk Eezg.underlying3 HW.out.1) _ [] (plainElem_int Eezg.underlying35 HW.out.2) ?_; intro x6 hown6 hgrow6)
    have be6 : Below x4.heap.size x4 x6 := B5.out.grown hgrow6 B5.out.size (fun j hj => by cases hj; exact Nat.le_refl _)
    have M6 : MapIs x6 (some x4.heap.size) (plus (lastVal ks vs (min len0 len1)) xk xv) := .inr ⟨_, _, _, rfl, hown6, HD.out.put xk xv⟩
    have SZ : x4.heap.size < x6.heap.size := by have := hgrow6.size; have := HO.out.lt; omega
    have BX : Below x6.heap.size x6 (x6.alloc (.cells #[.slice none 0 0, .int .i64 0, .int .i64 0, .bool false, .map (some x4.heap.size), .slice none 0 0] 34)) := (Below.refl _ _).alloc (Nat.le_refl _) _
    have C7 : Hid ((x6.alloc (.cells #[.slice none 0 0, .int .i64 0, .int .i64 0, .bool false, .map (some x4.heap.size), .slice none 0 0] 34)).cell? ⟨x6.heap.size, 4, none⟩ = some (.map (some x4.heap.size))) := by unfold Hid; simp
    have M7 := hidB (M6.below BX)
    have be7 := be6.trans (BX.mono be6.size)
    have M7' := hidB (HM3.out.below be7)
    have C7' : Hid ((x6.alloc (.cells #[.slice none 0 0, .int .i64 0, .int .i64 0, .bool false, .map (some x4.heap.size), .slice none 0 0] 34)).cell? ⟨x3.heap.size, 4, none⟩ = some (.map r)) := (be7.cell (p := ⟨x3.heap.size, 4, none⟩) HSX.out).trans HCX.out
    have B7 := hidB (HB3.out.trans (be7.mono HB3.out.size))
    clear BX be7 M6 be6 hown6 hgrow6 SZ
    go_wp2_with fail
    generalize x6.alloc (.cells #[.slice none 0 0, .int .i64 0, .int .i64 0, .bool false, .map (some x4.heap.size), .slice none 0 0] 34) = x7 at *
    refine (srcPos_any x3.heap.size r _ ip x7 (by omega) M7'.out C7'.out).mono ?_
    rintro e w' ⟨rfl, hw⟩
    subst w'
    go_wp2_with fail
    refine (srcPos_any x6.heap.size _ _ ip x7 (by omega) M7.out C7.out).mono ?_
    rintro e w' ⟨rfl, hw⟩
    subst w'
    go_wp2_with fail
    go_ret
    exact ⟨ret_bool (by rw [beq_iff_eq]; exact local_above _ ip xk xv h4), B7.out⟩

set_option maxHeartbeats 1000000 in
set_option maxRecDepth 100000 in
theorem fn4_above1 (a0 : Option Addr) (len0 cap0 : Nat) (a1 : Option Addr) (len1 cap1 : Nat) (ks vs : List Int) (ip xk xv : Int) (w : World) (h1 : len0 + len1 ≤ 1048576) (h2 : tooBigB 0 len0 len1 0 = false) (h3 : ¬ 65536 < ip) (h4 : ip < xk) (h5 : decide (0 ≤ xk) = true) (hxk : (Lit.int .i64 xk).wf = true) (hxv : (Lit.int .i64 xv).wf = true) (n0 : a0 = none → len0 = 0 ∧ cap0 = 0) (n1 : a1 = none → len1 = 0 ∧ cap1 = 0) (r0 : Rd .i64 w a0 len0 ks) (r1 : Rd .i64 w a1 len1 vs) :
    Calls Eezg.prog 4 #[.slice a0 len0 cap0, .slice a1 len1 cap1, .int .i64 ip, .int .i64 xk, .int .i64 xv] w fun e w' => e = .returned (.bool true) ∧ Below w.heap.size w w' := by
  have g4 : decide (ip < xk) = true := by simpa using h4
  have N0 : Hid (a0 = none → len0 = 0 ∧ cap0 = 0) := n0
  have N1 : Hid (a1 = none → len1 = 0 ∧ cap1 = 0) := n1
  have R0 : Hid (Rd .i64 w a0 len0 ks) := r0
  have R1 : Hid (Rd .i64 w a1 len1 vs) := r1
  clear n0 n1 r0 r1
  have h7 : decide (xk ≤ ip) = false := by simp; omega
  have HW : Hid ((Lit.int .i64 xk).wf = true ∧ (Lit.int .i64 xv).wf = true) := ⟨hxk, hxv⟩
  clear hxk hxv
  have hmm := run_makeMap_hint
  have hnm := fun (w : World) (r : Option Nat) => run_eql_map_nil (P := Eezg.prog) w 27 3 35 r Eezg.underlying27
  go_enter Eezg.func4, Eezg.ntmps4
  go_wp2_with fail
  refine (zz15_any _ _ _ _ _ _ _ _ _ _).mono ?_
  rintro e w' ⟨rfl, hw⟩
  subst w'
  go_wp2_with fail
  refine (tooBig_any _ _ _ _ _ _ _ _ _ _ _).mono ?_
  rintro e w' ⟨rfl, hw⟩
  subst w'
  go_wp2_with fail
  refine (cloneInts_any a0 len0 cap0 ks w (by omega) N0.out R0.out).mono ?_
  rintro e x1 ⟨o0, d0, rfl, m0, s0, be1⟩
  have S0 : Hid (Rd .i64 x1 o0 len0 ks) := s0
  have B1 : Hid (Below w.heap.size w x1) := be1
  clear m0 s0 be1
  go_wp2_with fail
  refine (cloneInts_any a1 len1 cap1 vs x1 (by omega) N1.out (R1.out.below B1.out)).mono ?_
  rintro e x2 ⟨o1, d1, rfl, m1, s1, be2⟩
  have S1 : Hid (Rd .i64 x2 o1 len1 vs) := s1
  have S0' : Hid (Rd .i64 x2 o0 len0 ks) := S0.out.below be2
  have B2 : Hid (Below w.heap.size w x2) := B1.out.trans (be2.mono B1.out.size)
  clear m1 s1 be2
  go_wp2_with fail
  refine (buildMap_any o0 len0 d0 o1 len1 d1 ks vs x2 (by omega) (by omega) S0'.out S1.out).mono ?_
  rintro e x3 ⟨r, rfl, hm, be3⟩
  have BX : Below x3.heap.size x3 (x3.alloc (.cells #[.slice none 0 0, .int .i64 0, .int .i64 0, .bool false, .map r, .slice none 0 0] 34)) := (Below.refl _ _).alloc (Nat.le_refl _) _
  have CX : (x3.alloc (.cells #[.slice none 0 0, .int .i64 0, .int .i64 0, .bool false, .map r, .slice none 0 0] 34)).cell? ⟨x3.heap.size, 4, none⟩ = some (.map r) := by simp
  have SX : x3.heap.size < (x3.alloc (.cells #[.slice none 0 0, .int .i64 0, .int .i64 0, .bool false, .map r, .slice none 0 0] 34)).heap.size := by simp
  have M3 := hm.below BX
  have T0 := (S0'.out.below be3).below BX
  have T1 := (S1.out.below be3).below BX
  have B3 := (B2.out.trans (be3.mono B2.out.size)).trans (BX.mono (Nat.le_trans B2.out.size be3.size))
  have HM3 := hidB (M3)
  have HT0 := hidB (T0)
  have HT1 := hidB (T1)
  have HB3 := hidB (B3)
  have HCX := hidB (CX)
  have HSX := hidB (SX)
  clear hm be3 BX M3 T0 T1 B3 CX SX
  go_wp2_with fail
  generalize x3.alloc (.cells #[.slice none 0 0, .int .i64 0, .int .i64 0, .bool false, .map r, .slice none 0 0] 34) = x4 at *
  refine (buildMap_at o0 len0 d0 o1 len1 d1 ks vs x4 (by omega) (by omega) HT0.out HT1.out).mono ?_
  rintro e x5 (⟨rfl, hw, hf⟩ | ⟨rfl, ⟨D, hown, hD⟩, be5⟩)
  · subst x5
    have HF : Hid (lastVal ks vs (min len0 len1) = fun _ => none) := funext hf
    clear hf
    go_wp2_with (at_mapUpdate; refine wpList_mapUpdate_own _ rfl _ _ _ 27 rfl 3 35 law3 Eezg.underlying27 (plainElem (H := Unit) Eezg.prog 35) x4.heap.size 0 (.map []) rfl (World.ownsMap_made x4 _ _ _) (by unfold maxLen; omega) _ _ _ rfl rfl (keyOf_int_mk Eezg.underlying3 HW.out.1) _ [] (plainElem_int Eezg.underlying35 HW.out.2) ?_; intro x6 hown6 hgrow6)
    have be6 : Below x4.heap.size x4 x6 := ((Below.refl _ _).alloc (Nat.le_refl _) _).grown hgrow6 (by simp) (fun j hj => by cases hj; exact Nat.le_refl _)
    have M6 : MapIs x6 (some x4.heap.size) (plus (lastVal ks vs (min len0 len1)) xk xv) := .inr ⟨_, _, _, rfl, hown6, by rw [HF.out]; exact holdsF_empty.put xk xv⟩
    have SZ : x4.heap.size < x6.heap.size := by have := hgrow6.size; simp at this; omega
    have BX : Below x6.heap.size x6 (x6.alloc (.cells #[.slice none 0 0, .int .i64 0, .int .i64 0, .bool false, .map (some x4.heap.size), .slice none 0 0] 34)) := (Below.refl _ _).alloc (Nat.le_refl _) _
    have C7 : Hid ((x6.alloc (.cells #[.slice none 0 0, .int .i64 0, .int .i64 0, .bool false, .map (some x4.heap.size), .slice none 0 0] 34)).cell? ⟨x6.heap.size, 4, none⟩ = some (.map (some x4.heap.size))) := by unfold Hid; simp
    have M7 := hidB (M6.below BX)
    have be7 := be6.trans (BX.mono be6.size)
    have M7' := hidB (HM3.out.below be7)
    have C7' : Hid ((x6.alloc (.cells #[.slice none 0 0, .int .i64 0, .int .i64 0, .bool false, .map (some x4.heap.size), .slice none 0 0] 34)).cell? ⟨x3.heap.size, 4, none⟩ = some (.map r)) := (be7.cell (p := ⟨x3.heap.size, 4, none⟩) HSX.out).trans HCX.out
    have B7 := hidB (HB3.out.trans (be7.mono HB3.out.size))
    clear BX be7 M6 be6 hown6 hgrow6 SZ
    go_wp2_with fail
    generalize x6.alloc (.cells #[.slice none 0 0, .int .i64 0, .int .i64 0, .bool false, .map (some x4.heap.size), .slice none 0 0] 34) = x7 at *
    refine (srcPos_any x3.heap.size r _ ip x7 (by omega) M7'.out C7'.out).mono ?_
    rintro e w' ⟨rfl, hw⟩
    subst w'
    go_wp2_with fail
    refine (srcPos_any x6.heap.size _ _ ip x7 (by omega) M7.out C7.out).mono ?_
    rintro e w' ⟨rfl, hw⟩
    subst w'
    go_wp2_with fail
    go_ret
    exact ⟨ret_bool (by rw [beq_iff_eq]; exact local_above _ ip xk xv h4), B7.out⟩
  · have HO := hidB (hown)
    have HD := hidB (hD)
    have B5 := hidB (be5)
    clear hown hD be5
    go_wp2_with (at_mapUpdate; refine wpList_mapUpdate_own _ rfl _ _ _ 27 rfl 3 35 law3 Eezg.underlying27 (plainElem (H := Unit) Eezg.prog 35) x4.heap.size (min len0 len1) D rfl HO.out (by unfold maxLen; omega) _ _ _ rfl rfl (keyOf_int_mk Eezg.underlying3 HW.out.1) _ [] (plainElem_int Eezg.underlying35 HW.out.2) ?_; intro x6 hown6 hgrow6)
    have be6 : Below x4.heap.size x4 x6 := B5.out.grown hgrow6 B5.out.size (fun j hj => by cases hj; exact Nat.le_refl _)
    have M6 : MapIs x6 (some x4.heap.size) (plus (lastVal ks vs (min len0 len1)) xk xv) := .inr ⟨_, _, _, rfl, hown6, HD.out.put xk xv⟩
    have SZ : x4.heap.size < x6.heap.size := by have := hgrow6.size; have := HO.out.lt; omega
    have BX : Below x6.heap.size x6 (x6.alloc (.cells #[.slice none 0 0, .int .i64 0, .int .i64 0, .bool false, .map (some x4.heap.size), .slice none 0 0] 34)) := (Below.refl _ _).alloc (Nat.le_refl _) _
    have C7 : Hid ((x6.alloc (.cells #[.slice none 0 0, .int .i64 0, .int .i64 0, .bool false, .map (some x4.heap.size), .slice none 0 0] 34)).cell? ⟨x6.heap.size, 4, none⟩ = some (.map (some x4.heap.size))) := by unfold Hid; simp
    have M7 := hidB (M6.below BX)
    have be7 := be6.trans (BX.mono be6.size)
    have M7' := hidB (HM3.out.below be7)
    have C7' : Hid ((x6.alloc (.cells #[.slice none 0 0, .int .i64 0, .int .i64 0, .bool false, .map (some x4.heap.size), .slice none 0 0] 34)).cell? ⟨x3.heap.size, 4, none⟩ = some (.map r)) := (be7.cell (p := ⟨x3.heap.size, 4, none⟩) HSX.out).trans HCX.out
    have B7 := hidB (HB3.out.trans (be7.mono HB3.out.size))
    clear BX be7 M6 be6 hown6 hgrow6 SZ
    go_wp2_with fail
    generalize x6.alloc (.cells #[.slice none 0 0, .int .i64 0, .int .i64 0, .bool false, .map (some x4.heap.size), .slice none 0 0] 34) = x7 at *
    refine (srcPos_any x3.heap.size r _ ip x7 (by omega) M7'.out C7'.out).mono ?_
    rintro e w' ⟨rfl, hw⟩
    subst w'
    go_wp2_with fail
    refine (srcPos_any x6.heap.size _ _ ip x7 (by omega) M7.out C7.out).mono ?_
    rintro e w' ⟨rfl, hw⟩
    subst w'
    go_wp2_with fail
    go_ret
    exact ⟨ret_bool (by rw [beq_iff_eq]; exact local_above _ ip xk xv h4), B7.out⟩

set_option maxHeartbeats 1000000 in
set_option maxRecDepth 100000 in
theorem fn4_near (a0 : Option Addr) (len0 cap0 : Nat) (a1 : Option Addr) (len1 cap1 : Nat) (ks vs : List Int) (ip xk xv : Int) (w : World) (h1 : len0 + len1 ≤ 1048576) (h2 : tooBigB 0 len0 len1 0 = false) (h3 : ¬ 65536 < ip) (h4 : ¬ ip < xk) (h5 : 0 ≤ xk) (h6 : noKeyB ks (min len0 len1) xk ip = true) (hxk : (Lit.int .i64 xk).wf = true) (hxv : (Lit.int .i64 xv).wf = true) (n0 : a0 = none → len0 = 0 ∧ cap0 = 0) (n1 : a1 = none → len1 = 0 ∧ cap1 = 0) (r0 : Rd .i64 w a0 len0 ks) (r1 : Rd .i64 w a1 len1 vs) :
    Calls Eezg.prog 4 #[.slice a0 len0 cap0, .slice a1 len1 cap1, .int .i64 ip, .int .i64 xk, .int .i64 xv] w fun e w' => e = .returned (.bool true) ∧ Below w.heap.size w w' := by
  have g4 : decide (ip < xk) = false := by simpa using h4
  have g5 : decide (0 ≤ xk) = true := by simpa using h5
  have N0 : Hid (a0 = none → len0 = 0 ∧ cap0 = 0) := n0
  have N1 : Hid (a1 = none → len1 = 0 ∧ cap1 = 0) := n1
  have R0 : Hid (Rd .i64 w a0 len0 ks) := r0
  have R1 : Hid (Rd .i64 w a1 len1 vs) := r1
  clear n0 n1 r0 r1
  have h7 : decide (xk ≤ ip) = true := by simp; omega
  have h7' : xk ≤ ip := by omega
  have HW : Hid ((Lit.int .i64 xk).wf = true ∧ (Lit.int .i64 xv).wf = true) := ⟨hxk, hxv⟩
  clear hxk hxv
  have hmm := run_makeMap_hint
  have hnm := fun (w : World) (r : Option Nat) => run_eql_map_nil (P := Eezg.prog) w 27 3 35 r Eezg.underlying27
  go_enter Eezg.func4, Eezg.ntmps4
  go_wp2_with fail
  refine (zz15_any _ _ _ _ _ _ _ _ _ _).mono ?_
  rintro e w' ⟨rfl, hw⟩
  subst w'
  go_wp2_with fail
  refine (tooBig_any _ _ _ _ _ _ _ _ _ _ _).mono ?_
  rintro e w' ⟨rfl, hw⟩
  subst w'
  go_wp2_with fail
  refine (noKey_any a0 len0 cap0 a1 len1 cap1 ks xk ip w (by omega) R0.out).mono ?_
  rintro e w' ⟨rfl, hw⟩
  subst w'
  have H6 := hidB (h6)
  go_wp2_with fail
  clear h6
  refine (cloneInts_any a0 len0 cap0 ks w (by omega) N0.out R0.out).mono ?_
  rintro e x1 ⟨o0, d0, rfl, m0, s0, be1⟩
  have S0 : Hid (Rd .i64 x1 o0 len0 ks) := s0
  have B1 : Hid (Below w.heap.size w x1) := be1
  clear m0 s0 be1
  go_wp2_with fail
  refine (cloneInts_any a1 len1 cap1 vs x1 (by omega) N1.out (R1.out.below B1.out)).mono ?_
  rintro e x2 ⟨o1, d1, rfl, m1, s1, be2⟩
  have S1 : Hid (Rd .i64 x2 o1 len1 vs) := s1
  have S0' : Hid (Rd .i64 x2 o0 len0 ks) := S0.out.below be2
  have B2 : Hid (Below w.heap.size w x2) := B1.out.trans (be2.mono B1.out.size)
  clear m1 s1 be2
  go_wp2_with fail
  refine (buildMap_any o0 len0 d0 o1 len1 d1 ks vs x2 (by omega) (by omega) S0'.out S1.out).mono ?_
  rintro e x3 ⟨r, rfl, hm, be3⟩
  have BX : Below x3.heap.size x3 (x3.alloc (.cells #[.slice none 0 0, .int .i64 0, .int .i64 0, .bool false, .map r, .slice none 0 0] 34)) := (Below.refl _ _).alloc (Nat.le_refl _) _
  have CX : (x3.alloc (.cells #[.slice none 0 0, .int .i64 0, .int .i64 0, .bool false, .map r, .slice none 0 0] 34)).cell? ⟨x3.heap.size, 4, none⟩ = some (.map r) := by simp
  have SX : x3.heap.size < (x3.alloc (.cells #[.slice none 0 0, .int .i64 0, .int .i64 0, .bool false, .map r, .slice none 0 0] 34)).heap.size := by simp
  have M3 := hm.below BX
  have T0 := (S0'.out.below be3).below BX
  have T1 := (S1.out.below be3).below BX
  have B3 := (B2.out.trans (be3.mono B2.out.size)).trans (BX.mono (Nat.le_trans B2.out.size be3.size))
  have HM3 := hidB (M3)
  have HT0 := hidB (T0)
  have HT1 := hidB (T1)
  have HB3 := hidB (B3)
  have HCX := hidB (CX)
  have HSX := hidB (SX)
  clear hm be3 BX M3 T0 T1 B3 CX SX
  go_wp2_with fail
  generalize x3.alloc (.cells #[.slice none 0 0, .int .i64 0, .int .i64 0, .bool false, .map r, .slice none 0 0] 34) = x4 at *
  refine (buildMap_at o0 len0 d0 o1 len1 d1 ks vs x4 (by omega) (by omega) HT0.out HT1.out).mono ?_
  rintro e x5 (⟨rfl, hw, hf⟩ | ⟨rfl, ⟨D, hown, hD⟩, be5⟩)
  · subst x5
    have HF : Hid (lastVal ks vs (min len0 len1) = fun _ => none) := funext hf
    clear hf
    go_wp2_with (at_mapUpdate; refine wpList_mapUpdate_own _ rfl _ _ _ 27 rfl 3 35 law3 Eezg.underlying27 (plainElem (H := Unit) Eezg.prog 35) x4.heap.size 0 (.map []) rfl (World.ownsMap_made x4 _ _ _) (by unfold maxLen; omega) _ _ _ rfl rfl (keyOf_int_mk Eezg.underlying3 HW.out.1) _ [] (plainElem_int Eezg.underlying35 HW.out.2) ?_; intro x6 hown6 hgrow6)
    have be6 : Below x4.heap.size x4 x6 := ((Below.refl _ _).alloc (Nat.le_refl _) _).grown hgrow6 (by simp) (fun j hj => by cases hj; exact Nat.le_refl _)
    have M6 : MapIs x6 (some x4.heap.size) (plus (lastVal ks vs (min len0 len1)) xk xv) := .inr ⟨_, _, _, rfl, hown6, by rw [HF.out]; exact holdsF_empty.put xk xv⟩
    have SZ : x4.heap.size < x6.heap.size := by have := hgrow6.size; simp at this; omega
    have BX : Below x6.heap.size x6 (x6.alloc (.cells #[.slice none 0 0, .int .i64 0, .int .i64 0, .bool false, .map (some x4.heap.size), .slice none 0 0] 34)) := (Below.refl _ _).alloc (Nat.le_refl _) _
    have C7 : Hid ((x6.alloc (.cells #[.slice none 0 0, .int .i64 0, .int .i64 0, .bool false, .map (some x4.heap.size), .slice none 0 0] 34)).cell? ⟨x6.heap.size, 4, none⟩ = some (.map (some x4.heap.size))) := by unfold Hid; simp
    have M7 := hidB (M6.below BX)
    have be7 := be6.trans (BX.mono be6.size)
    have M7' := hidB (HM3.out.below be7)
    have C7' : Hid ((x6.alloc (.cells #[.slice none 0 0, .int .i64 0, .int .i64 0, .bool false, .map (some x4.heap.size), .slice none 0 0] 34)).cell? ⟨x3.heap.size, 4, none⟩ = some (.map r)) := (be7.cell (p := ⟨x3.heap.size, 4, none⟩) HSX.out).trans HCX.out
    have B7 := hidB (HB3.out.trans (be7.mono HB3.out.size))
    clear BX be7 M6 be6 hown6 hgrow6 SZ
    go_wp2_with fail
    generalize x6.alloc (.cells #[.slice none 0 0, .int .i64 0, .int .i64 0, .bool false, .map (some x4.heap.size), .slice none 0 0] 34) = x7 at *
    refine (srcPos_any x6.heap.size _ _ ip x7 (by omega) M7.out C7.out).mono ?_
    rintro e w' ⟨rfl, hw⟩
    subst w'
    go_wp2_with fail
    go_ret
    exact ⟨ret_bool (by rw [beq_iff_eq]; exact local_nearest ks vs _ ip xk xv h5 h7' H6.out), B7.out⟩
  · have HO := hidB (hown)
    have HD := hidB (hD)
    have B5 := hidB (be5)
    clear hown hD be5
    go_wp2_with (at_mapUpdate; refine wpList_mapUpdate_own _ rfl _ _ _ 27 rfl 3 35 law3 Eezg.underlying27 (plainElem (H := Unit) Eezg.prog 35) x4.heap.size (min len0 len1) D rfl HO.out (by unfold maxLen; omega) _ _ _ rfl rfl (keyOf_int_mk Eezg.underlying3 HW.out.1) _ [] (plainElem_int Eezg.underlying35 HW.out.2) ?_; intro x6 hown6 hgrow6)
    have be6 : Below x4.heap.size x4 x6 := B5.out.grown hgrow6 B5.out.size (fun j hj => by cases hj; exact Nat.le_refl _)
    have M6 : MapIs x6 (some x4.heap.size) (plus (lastVal ks vs (min len0 len1)) xk xv) := .inr ⟨_, _, _, rfl, hown6, HD.out.put xk xv⟩
    have SZ : x4.heap.size < x6.heap.size := by have := hgrow6.size; have := HO.out.lt; omega
    have BX : Below x6.heap.size x6 (x6.alloc (.cells #[.slice none 0 0, .int .i64 0, .int .i64 0, .bool false, .map (some x4.heap.size), .slice none 0 0] 34)) := (Below.refl _ _).alloc (Nat.le_refl _) _
    have C7 : Hid ((x6.alloc (.cells #[.slice none 0 0, .int .i64 0, .int .i64 0, .bool false, .map (some x4.heap.size), .slice none 0 0] 34)).cell? ⟨x6.heap.size, 4, none⟩ = some (.map (some x4.heap.size))) := by unfold Hid; simp
    have M7 := hidB (M6.below BX)
    have be7 := be6.trans (BX.mono be6.size)
    have M7' := hidB (HM3.out.below be7)
    have C7' : Hid ((x6.alloc (.cells #[.slice none 0 0, .int .i64 0, .int .i64 0, .bool false, .map (some x4.heap.size), .slice none 0 0] 34)).cell? ⟨x3.heap.size, 4, none⟩ = some (.map r)) := (be7.cell (p := ⟨x3.heap.size, 4, none⟩) HSX.out).trans HCX.out
    have B7 := hidB (HB3.out.trans (be7.mono HB3.out.size))
    clear BX be7 M6 be6 hown6 hgrow6 SZ
    go_wp2_with fail
    generalize x6.alloc (.cells #[.slice none 0 0, .int .i64 0, .int .i64 0, .bool false, .map (some x4.heap.size), .slice none 0 0] 34) = x7 at *
    refine (srcPos_any x6.heap.size _ _ ip x7 (by omega) M7.out C7.out).mono ?_
    rintro e w' ⟨rfl, hw⟩
    subst w'
    go_wp2_with fail
    go_ret
    exact ⟨ret_bool (by rw [beq_iff_eq]; exact local_nearest ks vs _ ip xk xv h5 h7' H6.out), B7.out⟩

/-- FnSourcePosLocal: whatever it is handed. -/
theorem fn4_any (a0 : Option Addr) (len0 cap0 : Nat) (a1 : Option Addr) (len1 cap1 : Nat) (ks vs : List Int) (ip xk xv : Int) (w : World) (hxk : (Lit.int .i64 xk).wf = true) (hxv : (Lit.int .i64 xv).wf = true)
    (n0 : a0 = none → len0 = 0 ∧ cap0 = 0) (n1 : a1 = none → len1 = 0 ∧ cap1 = 0) (r0 : Rd .i64 w a0 len0 ks) (r1 : Rd .i64 w a1 len1 vs) :
    Calls Eezg.prog 4 #[.slice a0 len0 cap0, .slice a1 len1 cap1, .int .i64 ip, .int .i64 xk, .int .i64 xv] w fun e w' => e = .returned (.bool true) ∧ Below w.heap.size w w' := by
  by_cases h1 : len0 + len1 ≤ 1048576
  · cases h2 : tooBigB 0 len0 len1 0 with
    | true => exact fn4_big a0 len0 cap0 a1 len1 cap1 ip xk xv w h1 h2
    | false =>
      by_cases h3 : 65536 < ip
      · exact fn4_far a0 len0 cap0 a1 len1 cap1 ip xk xv w h1 h2 h3
      · by_cases h4 : ip < xk
        · cases h5 : decide (0 ≤ xk) with
          | false => exact fn4_above0 a0 len0 cap0 a1 len1 cap1 ks vs ip xk xv w h1 h2 h3 h4 h5 hxk hxv n0 n1 r0 r1
          | true => exact fn4_above1 a0 len0 cap0 a1 len1 cap1 ks vs ip xk xv w h1 h2 h3 h4 h5 hxk hxv n0 n1 r0 r1
        · by_cases h5 : 0 ≤ xk
          · cases h6 : noKeyB ks (min len0 len1) xk ip with
            | false => exact fn4_key a0 len0 cap0 a1 len1 cap1 ks vs ip xk xv w h1 h2 h3 h4 h5 r0 h6
            | true => exact fn4_near a0 len0 cap0 a1 len1 cap1 ks vs ip xk xv w h1 h2 h3 h4 h5 h6 hxk hxv n0 n1 r0 r1
          · exact fn4_neg a0 len0 cap0 a1 len1 cap1 ip xk xv w h1 h2 h3 h4 h5
  · exact fn4_out a0 len0 cap0 a1 len1 cap1 ip xk xv w h1

end Go.Proofs.Yoeezw
