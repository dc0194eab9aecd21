/-
  The walk of FnCopyExactFields (5).
-/
import Derived.Test.YoeezwWalkC
import Derived.LaidEqlPtr
import Derived.Lib.Builder
namespace Go.Proofs.Yoeezw
open Go.RowKit Go.Maps
set_option linter.unusedVariables false

theorem below_drewN {B : Nat} {a w : World} (h : Below B a w) (n : Nat) : Below B a (w.drewN n) := h.trans ⟨rfl, rfl, rfl, Nat.le_refl _, fun _ _ => rfl⟩

/-- Where a row that is owned lies, and its j-th cell. -/
theorem row_at {w : World} {base e n c : Nat} {o : Option Addr} {xs : List Value} (h : w.ownsRow base e 1 (.slice o n c) n xs) (j : Nat) (hj : j < n) :
    ∃ g, o = some ⟨g, 0, none⟩ ∧ base ≤ g ∧ g < w.heap.size ∧ w.cell? ⟨g, j, none⟩ = xs[j]? ∧ ∃ cur, w.heap[g]? = some (.cells cur e (0, 0)) := by
  rcases h.2 with ⟨hv, h0⟩ | ⟨g, cap, cur, hv, hb, hh, _⟩
  · omega
  · injection hv with ho _ hc
    subst ho
    subst hc
    exact ⟨g, rfl, hb, lt_of_block hh, h.cellAt j (by omega), cur, hh⟩

theorem bytes_at {bs : List Int} {k : IntKind} (j : Nat) (hj : j < bs.length) : (bs.map (Value.int k))[j]? = some (.int k (bs.getD j 0)) := by
  simp [List.getD_eq_getElem?_getD, List.getElem?_eq_getElem hj]

theorem ptrs_at {ps : List Value} (h : ∀ v ∈ ps, ∃ a, v = .pointer a) (j : Nat) (hj : j < ps.length) : ∃ a, ps[j]? = some (.pointer a) := by
  obtain ⟨a, ha⟩ := h _ (List.getElem_mem hj)
  exact ⟨a, by rw [List.getElem?_eq_getElem hj, ha]⟩

/-- The six cells of a compiled function. -/
theorem fn_cells {w : World} {c : Nat} {oi : Option Addr} {ni ci : Nat} {nl np : Int} {va : Bool} {r : Option Nat} {fo : Option Addr} {nf cf : Nat} (h : w.heap[c]? = some (fnCells oi ni ci nl np va r fo nf cf)) :
    w.cell? ⟨c, 0, none⟩ = some (.slice oi ni ci) ∧ w.cell? ⟨c, 1, none⟩ = some (.int .i64 nl) ∧ w.cell? ⟨c, 2, none⟩ = some (.int .i64 np) ∧ w.cell? ⟨c, 3, none⟩ = some (.bool va) ∧ w.cell? ⟨c, 4, none⟩ = some (.map r) ∧ w.cell? ⟨c, 5, none⟩ = some (.slice fo nf cf) := by
  unfold fnCells at h
  refine ⟨?_, ?_, ?_, ?_, ?_, ?_⟩ <;> simp [World.cell?, h]

theorem Eezg.size34 : (Eezg.prog.info? 34).map (·.size) = some 6 := by kernel_rfl
theorem Eezg.size5 : (Eezg.prog.info? 5).map (·.size) = some 1 := by kernel_rfl
theorem Eezg.size45 : (Eezg.prog.info? 45).map (·.size) = some 1 := by kernel_rfl
theorem Eezg.size61 : (Eezg.prog.info? 61).map (·.size) = some 1 := by kernel_rfl

theorem info_size {P : Program} {t n : Nat} (h : (P.info? t).map (·.size) = some n) : ∃ i, P.info? t = some i ∧ i.size = n := by
  obtain ⟨i, hi, hn⟩ := Option.map_eq_some_iff.1 h
  exact ⟨i, hi, hn⟩

/-- Two pointers into two blocks of the program's own are not equal. -/
theorem ptr_ne {w : World} {tp te n a b : Nat} {ca cb : Array Value} {ta tb : TypeId} (hp : Eezg.prog.underlying tp = some (.pointer te)) (hs : (Eezg.prog.info? te).map (·.size) = some n) (hn : n ≠ 0) (hne : a ≠ b)
    (ha : w.heap[a]? = some (.cells ca ta (0, 0))) (hb : w.heap[b]? = some (.cells cb tb (0, 0))) (q : Nat) :
    (binOp .eql tp (.pointer (some ⟨a, 0, none⟩)) (.pointer (some ⟨b, 0, none⟩))).run Eezg.prog (w.drewN q) = .ok (.bool false) (w.drewN q) := by
  obtain ⟨i, hi, hz⟩ := info_size hs
  exact run_eql_ptr_other (P := Eezg.prog) (w.drewN q) hp hi (by omega) (fun e => hne (by injection e)) ha hb

theorem ptr_same (a : Option Addr) (w : World) : (binOp .neq 45 (.pointer a) (.pointer a)).run Eezg.prog w = .ok (.bool false) w := by
  obtain ⟨i, hi, _⟩ := info_size Eezg.size61
  cases a with
  | some a => exact Lib.run_neq_ptr_same (P := Eezg.prog) w a Eezg.underlying45 hi
  | none =>
    have h : ∀ d : Nat, (Op.equalIn (d + 1) 45 (.pointer none) (.pointer none)).run Eezg.prog w = .ok true w := fun d => by simp [Op.equalIn, run_underlying Eezg.underlying45]
    simp only [binOp]
    simp [Op.equal, Op.maxDepth, h 9999]

theorem tooBig_nf {l0 l1 l2 : Nat} {n : Int} (h : tooBigB l0 l1 l2 n = false) : 0 ≤ n ∧ n ≤ 65536 := by
  unfold tooBigB at h
  simp only [Bool.not_eq_false', decide_eq_true_eq] at h
  exact ⟨h.2.2.2.1, h.2.2.2.2.1⟩

set_option maxRecDepth 100000 in
theorem fn5_out (a0 : Option Addr) (len0 cap0 : Nat) (nl np : Int) (va : Bool) (nf : Int) (a5 : Option Addr) (len5 cap5 : Nat) (a6 : Option Addr) (len6 cap6 : Nat) (w : World) (h1 : ¬ len0 + len5 + len6 ≤ 1048576) :
    Calls Eezg.prog 5 #[.slice a0 len0 cap0, .int .i64 nl, .int .i64 np, .bool va, .int .i64 nf, .slice a5 len5 cap5, .slice a6 len6 cap6] w fun e w' => e = .returned (.bool true) ∧ Below w.heap.size w w' := by
  go_enter Eezg.func5, Eezg.ntmps5
  go_wp2_with fail
  refine (zz17_any _ _ _ _ _ _ _ _ _ _ _ _ _ _).mono ?_
  rintro e w' ⟨rfl, hw⟩
  subst w'
  go_wp2_with fail
  go_ret
  exact ⟨rfl, Below.refl _ _⟩

set_option maxRecDepth 100000 in
theorem fn5_big (a0 : Option Addr) (len0 cap0 : Nat) (nl np : Int) (va : Bool) (nf : Int) (a5 : Option Addr) (len5 cap5 : Nat) (a6 : Option Addr) (len6 cap6 : Nat) (w : World) (h1 : len0 + len5 + len6 ≤ 1048576) (h2 : tooBigB len0 len5 len6 nf = true) :
    Calls Eezg.prog 5 #[.slice a0 len0 cap0, .int .i64 nl, .int .i64 np, .bool va, .int .i64 nf, .slice a5 len5 cap5, .slice a6 len6 cap6] w fun e w' => e = .returned (.bool true) ∧ Below w.heap.size w w' := by
  go_enter Eezg.func5, Eezg.ntmps5
  go_wp2_with fail
  refine (zz17_any _ _ _ _ _ _ _ _ _ _ _ _ _ _).mono ?_
  rintro e w' ⟨rfl, hw⟩
  subst w'
  go_wp2_with fail
  refine (tooBig_any _ _ _ _ _ _ _ _ _ _ _).mono ?_
  rintro e w' ⟨rfl, hw⟩
  subst w'
  go_wp2_with fail
  go_ret
  exact ⟨rfl, Below.refl _ _⟩

set_option maxHeartbeats 2000000 in
set_option maxRecDepth 100000 in
theorem fn5_main (a0 : Option Addr) (len0 cap0 : Nat) (nl np : Int) (va : Bool) (nf : Int) (a5 : Option Addr) (len5 cap5 : Nat) (a6 : Option Addr) (len6 cap6 : Nat) (bs ks vs : List Int) (w : World) (h1 : len0 + len5 + len6 ≤ 1048576) (h2 : tooBigB len0 len5 len6 nf = false) (n0 : a0 = none → len0 = 0 ∧ cap0 = 0) (n5 : a5 = none → len5 = 0 ∧ cap5 = 0) (n6 : a6 = none → len6 = 0 ∧ cap6 = 0) (r0 : Rd .u8 w a0 len0 bs) (r5 : Rd .i64 w a5 len5 ks) (r6 : Rd .i64 w a6 len6 vs) :
    Calls Eezg.prog 5 #[.slice a0 len0 cap0, .int .i64 nl, .int .i64 np, .bool va, .int .i64 nf, .slice a5 len5 cap5, .slice a6 len6 cap6] w fun e w' => e = .returned (.bool true) ∧ Below w.heap.size w w' := by
  have N0 := hid n0
  have N5 := hid n5
  have N6 := hid n6
  have R0 := hid r0
  have R5 := hid r5
  have R6 := hid r6
  clear n0 n5 n6 r0 r5 r6
  obtain ⟨hnf0, hnf1⟩ := tooBig_nf h2
  obtain ⟨k, rfl⟩ := Int.eq_ofNat_of_zero_le hnf0
  go_enter Eezg.func5, Eezg.ntmps5
  go_wp2_with fail
  refine (zz17_any _ _ _ _ _ _ _ _ _ _ _ _ _ _).mono ?_
  rintro e w' ⟨rfl, hw⟩
  subst w'
  go_wp2_with fail
  refine (tooBig_any _ _ _ _ _ _ _ _ _ _ _).mono ?_
  rintro e w' ⟨rfl, hw⟩
  subst w'
  go_wp2_with fail
  refine (cloneBytes_own a0 len0 cap0 bs w (by omega) N0.out R0.out).mono ?_
  rintro e x1 ⟨o2, d2, rfl, m2, own2, be1⟩
  obtain rfl : bs.length = len0 := R0.out.1
  have O2 := hid own2
  have B1 := hid be1
  clear m2 own2 be1
  go_wp2_with fail
  refine (cloneInts_any a5 len5 cap5 ks x1 (by omega) N5.out (R5.out.below B1.out)).mono ?_
  rintro e x2 ⟨o0, d0, rfl, m0, s0, be2⟩
  have S0 := hid s0
  have O2' := hid (ownsRow_below O2.out be2)
  have B2 := hid (B1.out.trans (be2.mono B1.out.size))
  clear m0 s0 be2
  go_wp2_with fail
  refine (cloneInts_any a6 len6 cap6 vs x2 (by omega) N6.out (R6.out.below B2.out)).mono ?_
  rintro e x3 ⟨o1, d1, rfl, m1, s1, be3⟩
  have S1 := hid s1
  have S0' := hid (S0.out.below be3)
  have O3 := hid (ownsRow_below O2'.out be3)
  have B3 := hid (B2.out.trans (be3.mono B2.out.size))
  clear m1 s1 be3
  go_wp2_with fail
  refine (buildMap_any o0 len5 d0 o1 len6 d1 ks vs x3 (by omega) (by omega) S0'.out S1.out).mono ?_
  rintro e x4 ⟨r, rfl, hm, be4⟩
  have O4 := hid (ownsRow_below O3.out be4)
  have B4 := hid (B3.out.trans (be4.mono B3.out.size))
  clear hm be4
  go_wp2_with fail
  refine (newFn_any w.heap.size o2 d2 bs nl np va k r x4 (by omega) B4.out.size O4.out).mono ?_
  rintro e x5 ⟨c, ps, rfl, hpl, hf, be5⟩
  have F5 := hid hf
  have O5 := hid (ownsRow_below O4.out be5)
  have hpk : ps.length = k := by simpa using hpl
  have B5 := hid (B4.out.trans (be5.mono B4.out.size))
  clear hf be5 hpl
  subst hpk
  go_wp2_with fail
  refine (zzCopy_any c w.heap.size bs nl np va r ps x5 (by omega) (by omega) F5.out).mono ?_
  rintro e x6 ⟨d, rfl, hf6, be6⟩
  obtain ⟨oi, ci, fo, cf, ld, hd, hd5, hd45, hps⟩ := hf6
  obtain ⟨oj, cj, fj, cg, _, hc', hc5, hc45, _⟩ := F5.out
  have hc : x6.heap[c]? = some (fnCells oj bs.length cj nl np va r fj ps.length cg) := by rw [be6.block c (lt_of_block hc')]; exact hc'
  have O6 := hid (ownsRow_below O5.out be6)
  have B6 := hid (B5.out.trans (be6.mono B5.out.size))
  have lc : c < x5.heap.size := lt_of_block hc'
  have e26' := ptr_ne Eezg.underlying26 Eezg.size34 (by decide) (by omega) hd hc 0
  rw [World.drewN_zero] at e26'
  obtain ⟨v0, v1, v2, v3, v4, v5⟩ := fn_cells hd
  obtain ⟨u0, _, _, _, _, u5⟩ := fn_cells hc
  have HD5 := hid hd5
  have HD45 := hid hd45
  have HC5 := hid hc5
  have HC45 := hid hc45
  have HC45' := hid (ownsRow_below hc45 be6)
  have HP := hid hps
  have BE6 := hid be6
  clear hd5 hd45 hc5 hc45 hps be6 hd hc ld lc hc'
  have hmn := fun (w : World) (r : Option Nat) => run_neq_map_nil (P := Eezg.prog) w 27 3 35 r Eezg.underlying27
  go_wp2_with fail
  clear e26'
  go_loopw [17] (fun i wr => ∃ j m : Nat, j ≤ bs.length ∧ i = .int .i64 j ∧ wr = x6.drewN m) (fun i _ => bs.length - (intOf i).toNat)
  case atStart => exact ⟨0, 0, Nat.zero_le _, rfl, rfl⟩
  case round =>
    obtain ⟨j, m, hj, rfl, rfl⟩ := hrel
    by_cases hlt : j < bs.length
    · obtain ⟨g, hg, _, _, y0, _⟩ := row_at HD5.out j hlt
      obtain ⟨g', hg', _, _, y1, _⟩ := row_at O6.out j hlt
      rw [bytes_at j hlt] at y0 y1
      rw [hg] at v0
      cases hg'
      generalize bs.getD j 0 = bb at y0 y1
      have e1 : (0 : Int) ≤ (j : Int) := by omega
      have e2 : (j : Int) < (bs.length : Int) := by omega
      clear hg
      go_wp2
      go_quiet (fail)
      go_wp2
      go_roundw
      case rel => exact ⟨j + 1, _, by omega, by go_num, rfl⟩
      case measure => simp [intOf]; omega
    · by_cases hz : 0 < bs.length
      · have hz' : (0 : Int) < (bs.length : Int) := by omega
        obtain ⟨gd, hgd, lgd, _, _, cu, hcu⟩ := row_at HD5.out 0 hz
        obtain ⟨gc, hgc, _, lgc, _, cv, hcv⟩ := row_at HC5.out 0 hz
        have e44 : ∀ q, (binOp .eql 44 (.pointer (some ⟨gd, 0, none⟩)) (.pointer (some ⟨gc, 0, none⟩))).run Eezg.prog (x6.drewN q) = .ok (.bool false) (x6.drewN q) := ptr_ne Eezg.underlying44 Eezg.size5 (by decide) (by omega) hcu (by rw [BE6.out.block gc lgc]; exact hcv)
        rw [hgd] at v0
        rw [hgc] at u0
        clear hgd hgc hcu hcv lgd lgc
        go_wp2
        go_quiet (fail)
        clear hz hlt
        go_wp2
        go_loopw [18] (fun i wr => ∃ j m : Nat, j ≤ ps.length ∧ i = .int .i64 j ∧ wr = x6.drewN m) (fun i _ => ps.length - (intOf i).toNat)
        case atStart => exact ⟨0, _, Nat.zero_le _, rfl, rfl⟩
        case round =>
          obtain ⟨j, m, hj, rfl, rfl⟩ := hrel
          by_cases hlt : j < ps.length
          · obtain ⟨g, hg, _, _, y0, _⟩ := row_at HD45.out j hlt
            obtain ⟨g', hg', _, _, y1, _⟩ := row_at HC45'.out j hlt
            obtain ⟨a, ha⟩ := ptrs_at HP.out j hlt
            rw [ha] at y0 y1
            rw [hg] at v5
            rw [hg'] at u5
            have e1 : (0 : Int) ≤ (j : Int) := by omega
            have e2 : (j : Int) < (ps.length : Int) := by omega
            clear hg hg' ha
            have hsm := ptr_same a
            go_wp2
            go_quiet (fail)
            go_wp2
            go_roundw
            case rel => exact ⟨j + 1, _, by omega, by go_num, rfl⟩
            case measure => simp [intOf]; omega
          · by_cases hz : 0 < ps.length
            · have hz' : (0 : Int) < (ps.length : Int) := by omega
              obtain ⟨gd, hgd, lgd, _, _, cu, hcu⟩ := row_at HD45.out 0 hz
              obtain ⟨gc, hgc, _, lgc, _, cv, hcv⟩ := row_at HC45.out 0 hz
              have e46 : ∀ q, (binOp .eql 46 (.pointer (some ⟨gd, 0, none⟩)) (.pointer (some ⟨gc, 0, none⟩))).run Eezg.prog (x6.drewN q) = .ok (.bool false) (x6.drewN q) := ptr_ne Eezg.underlying46 Eezg.size45 (by decide) (by omega) hcu (by rw [BE6.out.block gc lgc]; exact hcv)
              rw [hgd] at v5
              rw [hgc] at u5
              clear hgd hgc hcu hcv lgd lgc
              go_wp2
              go_quiet (fail)
              go_wp2
              go_ret
              exact ⟨rfl, below_drewN (below_drewN B6.out _) _⟩
            · have hd : decide (0 < (ps.length : Int)) = false := by simpa using hz
              go_wp2
              go_quiet (fail)
              go_wp2
              go_ret
              exact ⟨rfl, below_drewN (below_drewN B6.out _) _⟩
      · have hd : decide (0 < (bs.length : Int)) = false := by simpa using hz
        go_wp2
        go_quiet (fail)
        clear hz hlt
        go_wp2
        go_loopw [18] (fun i wr => ∃ j m : Nat, j ≤ ps.length ∧ i = .int .i64 j ∧ wr = x6.drewN m) (fun i _ => ps.length - (intOf i).toNat)
        case atStart => exact ⟨0, _, Nat.zero_le _, rfl, rfl⟩
        case round =>
          obtain ⟨j, m, hj, rfl, rfl⟩ := hrel
          by_cases hlt : j < ps.length
          · obtain ⟨g, hg, _, _, y0, _⟩ := row_at HD45.out j hlt
            obtain ⟨g', hg', _, _, y1, _⟩ := row_at HC45'.out j hlt
            obtain ⟨a, ha⟩ := ptrs_at HP.out j hlt
            rw [ha] at y0 y1
            rw [hg] at v5
            rw [hg'] at u5
            have e1 : (0 : Int) ≤ (j : Int) := by omega
            have e2 : (j : Int) < (ps.length : Int) := by omega
            clear hg hg' ha
            have hsm := ptr_same a
            go_wp2
            go_quiet (fail)
            go_wp2
            go_roundw
            case rel => exact ⟨j + 1, _, by omega, by go_num, rfl⟩
            case measure => simp [intOf]; omega
          · by_cases hz : 0 < ps.length
            · have hz' : (0 : Int) < (ps.length : Int) := by omega
              obtain ⟨gd, hgd, lgd, _, _, cu, hcu⟩ := row_at HD45.out 0 hz
              obtain ⟨gc, hgc, _, lgc, _, cv, hcv⟩ := row_at HC45.out 0 hz
              have e46 : ∀ q, (binOp .eql 46 (.pointer (some ⟨gd, 0, none⟩)) (.pointer (some ⟨gc, 0, none⟩))).run Eezg.prog (x6.drewN q) = .ok (.bool false) (x6.drewN q) := ptr_ne Eezg.underlying46 Eezg.size45 (by decide) (by omega) hcu (by rw [BE6.out.block gc lgc]; exact hcv)
              rw [hgd] at v5
              rw [hgc] at u5
              clear hgd hgc hcu hcv lgd lgc
              go_wp2
              go_quiet (fail)
              go_wp2
              go_ret
              exact ⟨rfl, below_drewN (below_drewN B6.out _) _⟩
            · have hd : decide (0 < (ps.length : Int)) = false := by simpa using hz
              go_wp2
              go_quiet (fail)
              go_wp2
              go_ret
              exact ⟨rfl, below_drewN (below_drewN B6.out _) _⟩

/-- FnCopyExactFields: whatever it is handed. -/
theorem fn5_any (a0 : Option Addr) (len0 cap0 : Nat) (nl np : Int) (va : Bool) (nf : Int) (a5 : Option Addr) (len5 cap5 : Nat) (a6 : Option Addr) (len6 cap6 : Nat) (bs ks vs : List Int) (w : World)
    (n0 : a0 = none → len0 = 0 ∧ cap0 = 0) (n5 : a5 = none → len5 = 0 ∧ cap5 = 0) (n6 : a6 = none → len6 = 0 ∧ cap6 = 0) (r0 : Rd .u8 w a0 len0 bs) (r5 : Rd .i64 w a5 len5 ks) (r6 : Rd .i64 w a6 len6 vs) :
    Calls Eezg.prog 5 #[.slice a0 len0 cap0, .int .i64 nl, .int .i64 np, .bool va, .int .i64 nf, .slice a5 len5 cap5, .slice a6 len6 cap6] w fun e w' => e = .returned (.bool true) ∧ Below w.heap.size w w' := by
  by_cases h1 : len0 + len5 + len6 ≤ 1048576
  · cases h2 : tooBigB len0 len5 len6 nf with
    | true => exact fn5_big a0 len0 cap0 nl np va nf a5 len5 cap5 a6 len6 cap6 w h1 h2
    | false => exact fn5_main a0 len0 cap0 nl np va nf a5 len5 cap5 a6 len6 cap6 bs ks vs w h1 h2 n0 n5 n6 r0 r5 r6
  · exact fn5_out a0 len0 cap0 nl np va nf a5 len5 cap5 a6 len6 cap6 w h1

end Go.Proofs.Yoeezw
