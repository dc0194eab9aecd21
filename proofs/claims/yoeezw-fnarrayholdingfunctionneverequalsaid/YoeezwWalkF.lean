/-
  The walk of FnArrayHoldingFunctionNeverEqual (8).
-/
import Derived.Test.YoeezwArr
import Derived.Test.YoeezwEqInt
import Derived.Test.YoeezwWalkC
namespace Go.Proofs.Yoeezw
open Go.RowKit Go.Maps
set_option linter.unusedVariables false

/-- The function and the four arrays that hold it. -/
structure Four (w : World) (base c : Nat) (bs : List Int) (ps : List Value) (p1 p2 p3 p4 : Nat) : Prop where
  fn : IsFn w base c bs 0 0 false none ps
  a1 : Arr1 w p1 (.iface 26 (.pointer (some ⟨c, 0, none⟩)))
  a2 : Arr1 w p2 (.iface 26 (.pointer (some ⟨c, 0, none⟩)))
  a3 : Arr1 w p3 (.iface 26 (.pointer (some ⟨c, 0, none⟩)))
  a4 : Arr1 w p4 (.iface 26 (.pointer (some ⟨c, 0, none⟩)))

theorem Four.below {w w' : World} {base c : Nat} {bs : List Int} {ps : List Value} {p1 p2 p3 p4 : Nat} (h : Four w base c bs ps p1 p2 p3 p4) (hb : Below w.heap.size w w') : Four w' base c bs ps p1 p2 p3 p4 :=
  ⟨h.fn.below hb, h.a1.below hb, h.a2.below hb, h.a3.below hb, h.a4.below hb⟩

/-- Two steps, each of which leaves what was there alone. -/
theorem below_then {a b c : World} (h : Below a.heap.size a b) (k : Below b.heap.size b c) : Below a.heap.size a c := h.trans (k.mono h.size)

set_option maxRecDepth 100000 in
theorem fn8_out (a0 : Option Addr) (len0 cap0 : Nat) (v : Int) (w : World) (h1 : ¬ len0 ≤ 1048576) :
    Calls Eezg.prog 8 #[.slice a0 len0 cap0, .int .i64 v] w fun e w' => e = .returned (.bool true) ∧ Below w.heap.size w w' := by
  go_enter Eezg.func8, Eezg.ntmps8
  go_wp2_with fail
  refine (zz23_any _ _ _ _ _).mono ?_
  rintro e w' ⟨rfl, hw⟩
  subst w'
  go_wp2_with fail
  go_ret
  exact ⟨rfl, Below.refl _ _⟩

set_option maxHeartbeats 2000000 in
set_option maxRecDepth 100000 in
theorem fn8_main (a0 : Option Addr) (len0 cap0 : Nat) (v : Int) (bs : List Int) (w : World) (h1 : len0 ≤ 1048576) (n0 : a0 = none → len0 = 0 ∧ cap0 = 0) (r0 : Rd .u8 w a0 len0 bs) :
    Calls Eezg.prog 8 #[.slice a0 len0 cap0, .int .i64 v] w fun e w' => e = .returned (.bool true) ∧ Below w.heap.size w w' := by
  have N0 := hid n0
  have R0 := hid r0
  clear n0 r0
  go_enter Eezg.func8, Eezg.ntmps8
  go_wp2_with fail
  refine (zz23_any _ _ _ _ _).mono ?_
  rintro e w' ⟨rfl, hw⟩
  subst w'
  go_wp2_with fail
  refine (cloneBytes_own a0 len0 cap0 bs w (by omega) N0.out R0.out).mono ?_
  rintro e x1 ⟨o1, d1, rfl, m1, own1, be1⟩
  obtain rfl : bs.length = len0 := R0.out.1
  have O1 := hid own1
  have B1 := hid be1
  clear m1 own1 be1
  go_wp2_with fail
  refine (newFn_any w.heap.size o1 d1 bs 0 0 false 0 none x1 (by omega) B1.out.size O1.out).mono ?_
  rintro e x2 ⟨c, ps, rfl, hpl, hf, be⟩
  have PL : Hid (ps.length ≤ 65536) := by
    unfold Hid
    rw [hpl]
    decide
  have F := hid hf
  have B2 := hid (below_then B1.out be)
  clear hf be hpl
  go_wp2_with fail
  refine (arrOf_24 ⟨c, 0, none⟩ x2).mono ?_
  rintro e x3 ⟨p1, rfl, ha, be⟩
  have F3 := hid (F.out.below be)
  have A1 := hid ha
  have B3 := hid (below_then B2.out be)
  clear ha be
  go_wp2_with fail
  refine (arrOf_24 ⟨c, 0, none⟩ x3).mono ?_
  rintro e x4 ⟨p2, rfl, ha, be⟩
  have F4 := hid (F3.out.below be)
  have A1' := hid (A1.out.below be)
  have A2 := hid ha
  have B4 := hid (below_then B3.out be)
  clear ha be
  go_wp2_with fail
  refine (arrOf_25 ⟨c, 0, none⟩ x4).mono ?_
  rintro e x5 ⟨p3, rfl, ha, be⟩
  have F5 := hid (F4.out.below be)
  have A1 := hid (A1'.out.below be)
  have A2' := hid (A2.out.below be)
  have A3 := hid ha
  have B5 := hid (below_then B4.out be)
  clear ha be
  go_wp2_with fail
  refine (arrOf_25 ⟨c, 0, none⟩ x5).mono ?_
  rintro e y0 ⟨p4, rfl, ha, be⟩
  have Z0 : Hid (Four y0 w.heap.size c bs ps p1 p2 p3 p4) := ⟨F5.out.below be, A1.out.below be, A2'.out.below be, A3.out.below be, ha⟩
  have C0 := hid (below_then B5.out be)
  clear ha be F F3 F4 F5 A1 A1' A2 A2' A3 B1 B2 B3 B4 B5 O1
  go_wp2_with fail
  refine (eqFn_26_50 p1 p1 ⟨c, 0, none⟩ _ y0 (Z0.out.a1) (Z0.out.a1)).mono ?_
  rintro e y1 ⟨rfl, be⟩
  have Z1 := hid (Z0.out.below be)
  have C1 := hid (below_then C0.out be)
  clear be Z0 C0
  go_wp2_with fail
  refine (eqFn_26_50 p1 p2 ⟨c, 0, none⟩ _ y1 (Z1.out.a1) (Z1.out.a2)).mono ?_
  rintro e y2 ⟨rfl, be⟩
  have Z2 := hid (Z1.out.below be)
  have C2 := hid (below_then C1.out be)
  clear be Z1 C1
  go_wp2_with fail
  refine (eqFn_26_52 p1 p3 ⟨c, 0, none⟩ _ y2 (Z2.out.a1) (Z2.out.a3)).mono ?_
  rintro e y3 ⟨rfl, be⟩
  have Z3 := hid (Z2.out.below be)
  have C3 := hid (below_then C2.out be)
  clear be Z2 C2
  go_wp2_with fail
  refine (eqFn_27_50 p3 p1 ⟨c, 0, none⟩ _ y3 (Z3.out.a3) (Z3.out.a1)).mono ?_
  rintro e y4 ⟨rfl, be⟩
  have Z4 := hid (Z3.out.below be)
  have C4 := hid (below_then C3.out be)
  clear be Z3 C3
  go_wp2_with fail
  refine (eqFn_27_52 p3 p3 ⟨c, 0, none⟩ _ y4 (Z4.out.a3) (Z4.out.a3)).mono ?_
  rintro e y5 ⟨rfl, be⟩
  have Z5 := hid (Z4.out.below be)
  have C5 := hid (below_then C4.out be)
  clear be Z4 C4
  go_wp2_with fail
  refine (eqFn_27_52 p3 p4 ⟨c, 0, none⟩ _ y5 (Z5.out.a3) (Z5.out.a4)).mono ?_
  rintro e y6 ⟨rfl, be⟩
  have Z6 := hid (Z5.out.below be)
  have C6 := hid (below_then C5.out be)
  clear be Z5 C5
  go_wp2_with fail
  refine (arrCopy_28 p1 c w.heap.size bs 0 0 false none ps y6 (by omega) PL.out Z6.out.fn Z6.out.a1).mono ?_
  rintro e y7 ⟨pc, dc, rfl, ha, be⟩
  have G7 := hid ha
  clear ha
  have Z7 := hid (Z6.out.below be)
  have C7 := hid (below_then C6.out be)
  clear be Z6 C6
  go_wp2_with fail
  refine (eqFn_26_50 pc p1 _ _ y7 (G7.out) (Z7.out.a1)).mono ?_
  rintro e y8 ⟨rfl, be⟩
  have Z8 := hid (Z7.out.below be)
  have C8 := hid (below_then C7.out be)
  have G8 := hid (G7.out.below be)
  clear be Z7 C7 G7
  go_wp2_with fail
  refine (eqFn_26_50 p1 pc ⟨c, 0, none⟩ _ y8 (Z8.out.a1) (G8.out)).mono ?_
  rintro e y9 ⟨rfl, be⟩
  have Z9 := hid (Z8.out.below be)
  have C9 := hid (below_then C8.out be)
  have G9 := hid (G8.out.below be)
  clear be Z8 C8 G8
  go_wp2_with fail
  refine (arrCopy_29 p3 c w.heap.size bs 0 0 false none ps y9 (by omega) PL.out Z9.out.fn Z9.out.a3).mono ?_
  rintro e y10 ⟨pi, di, rfl, ha, be⟩
  have K10 := hid ha
  clear ha
  have Z10 := hid (Z9.out.below be)
  have C10 := hid (below_then C9.out be)
  clear be Z9 C9
  go_wp2_with fail
  refine (eqFn_26_52 pi p3 _ _ y10 (K10.out) (Z10.out.a3)).mono ?_
  rintro e y11 ⟨rfl, be⟩
  have Z11 := hid (Z10.out.below be)
  have C11 := hid (below_then C10.out be)
  have K11 := hid (K10.out.below be)
  clear be Z10 C10 K10
  go_wp2_with fail
  refine (eqFn_27_50 p3 pi ⟨c, 0, none⟩ _ y11 (Z11.out.a3) (K11.out)).mono ?_
  rintro e y12 ⟨rfl, be⟩
  have Z12 := hid (Z11.out.below be)
  have C12 := hid (below_then C11.out be)
  have K12 := hid (K11.out.below be)
  clear be Z11 C11 K11
  go_wp2_with fail
  refine (arrOf_30 v y12).mono ?_
  rintro e z0 ⟨pa, ia, rfl, ha, hi, be⟩
  have G0 := hid ha
  have I0 := hid hi
  have D0 := hid (below_then C12.out be)
  clear ha hi be
  go_wp2_with fail
  refine (eqInt_any pa pa ia ia v z0 G0.out G0.out I0.out I0.out).mono ?_
  rintro e z1 ⟨rfl, be⟩
  have G1 := hid (G0.out.below be)
  have I1 := hid ((be.cell (World.block_lt_of_cell? z0 _ I0.out)).trans I0.out)
  have D1 := hid (below_then D0.out be)
  clear be
  go_wp2_with fail
  refine (arrOf_30 v z1).mono ?_
  rintro e z2 ⟨pb, ib, rfl, ha, hi, be⟩
  have G2 := hid (G1.out.below be)
  have I2 := hid ((be.cell (World.block_lt_of_cell? z1 _ I1.out)).trans I1.out)
  have G2' := hid ha
  have I2' := hid hi
  have D2 := hid (below_then D1.out be)
  clear ha hi be
  go_wp2_with fail
  refine (eqInt_any pa pb ia ib v z2 G2.out G2'.out I2.out I2'.out).mono ?_
  rintro e z3 ⟨rfl, be⟩
  have D3 := hid (below_then D2.out be)
  clear be
  go_wp2_with fail
  go_ret
  exact ⟨rfl, D3.out⟩

/-- FnArrayHoldingFunctionNeverEqual: whatever it is handed. -/
theorem fn8_any (a0 : Option Addr) (len0 cap0 : Nat) (v : Int) (bs : List Int) (w : World) (n0 : a0 = none → len0 = 0 ∧ cap0 = 0) (r0 : Rd .u8 w a0 len0 bs) :
    Calls Eezg.prog 8 #[.slice a0 len0 cap0, .int .i64 v] w fun e w' => e = .returned (.bool true) ∧ Below w.heap.size w w' := by
  by_cases h1 : len0 ≤ 1048576
  · exact fn8_main a0 len0 cap0 v bs w h1 n0 r0
  · exact fn8_out a0 len0 cap0 v w h1

end Go.Proofs.Yoeezw
