/-
  The walk of FnCopyIsIndependent (6).
-/
import Derived.Test.YoeezwMid
namespace Go.Proofs.Yoeezw
open Go.RowKit Go.Maps
set_option linter.unusedVariables false

/-- The first j pointers, then nil ones. -/
def partV (ps : List Value) (j : Nat) : List Value := ps.take j ++ List.replicate (ps.length - j) (.pointer none)

theorem partV_zero (ps : List Value) : partV ps 0 = List.replicate ps.length (.pointer none) := by simp [partV]
theorem partV_all (ps : List Value) : partV ps ps.length = ps := by simp [partV]
theorem partV_set (ps : List Value) (j : Nat) (v : Value) (hj : j < ps.length) (hv : ps[j]? = some v) : (partV ps j).set j v = partV ps (j + 1) := by
  unfold partV
  have hl : (ps.take j).length = j := by simp; omega
  rw [List.set_append_right _ _ (by omega), hl, Nat.sub_self, show ps.length - j = (ps.length - (j + 1)) + 1 from by omega, List.replicate_succ, List.set_cons_zero, List.take_succ_eq_append_getElem (by omega), List.append_assoc]
  rw [List.getElem?_eq_getElem hj] at hv
  injection hv with hv
  rw [hv]
  rfl

set_option maxRecDepth 100000 in
theorem fn6_out (a0 : Option Addr) (len0 cap0 : Nat) (nl nf : Int) (w : World) (h1 : ¬ len0 ≤ 1048576) :
    Calls Eezg.prog 6 #[.slice a0 len0 cap0, .int .i64 nl, .int .i64 nf] w fun e w' => e = .returned (.bool true) ∧ Below w.heap.size w w' := by
  go_enter Eezg.func6, Eezg.ntmps6
  go_wp2_with fail
  refine (zz21_any _ _ _ _ _ _).mono ?_
  rintro e w' ⟨rfl, hw⟩
  subst w'
  go_wp2_with fail
  go_ret
  exact ⟨rfl, Below.refl _ _⟩

set_option maxRecDepth 100000 in
theorem fn6_big (a0 : Option Addr) (len0 cap0 : Nat) (nl nf : Int) (w : World) (h1 : len0 ≤ 1048576) (h2 : tooBigB len0 0 0 nf = true) :
    Calls Eezg.prog 6 #[.slice a0 len0 cap0, .int .i64 nl, .int .i64 nf] w fun e w' => e = .returned (.bool true) ∧ Below w.heap.size w w' := by
  go_enter Eezg.func6, Eezg.ntmps6
  go_wp2_with fail
  refine (zz21_any _ _ _ _ _ _).mono ?_
  rintro e w' ⟨rfl, hw⟩
  subst w'
  go_wp2_with fail
  refine (tooBig_any _ _ _ _ _ _ _ _ _ _ _).mono ?_
  rintro e w' ⟨rfl, hw⟩
  subst w'
  go_wp2_with fail
  go_ret
  exact ⟨rfl, Below.refl _ _⟩

set_option maxHeartbeats 4000000 in
set_option maxRecDepth 100000 in
theorem fn6_main0 (a0 : Option Addr) (len0 cap0 : Nat) (nl : Int) (bs : List Int) (w : World) (h1 : len0 ≤ 1048576) (h2 : tooBigB len0 0 0 0 = false) (n0 : a0 = none → len0 = 0 ∧ cap0 = 0) (r0 : Rd .u8 w a0 len0 bs) :
    Calls Eezg.prog 6 #[.slice a0 len0 cap0, .int .i64 nl, .int .i64 0] w fun e w' => e = .returned (.bool true) ∧ Below w.heap.size w w' := by
  have N0 := hid n0
  have R0 := hid r0
  clear n0 r0
  go_enter Eezg.func6, Eezg.ntmps6
  go_wp2_with fail
  refine (zz21_any _ _ _ _ _ _).mono ?_
  rintro e w' ⟨rfl, hw⟩
  subst w'
  go_wp2_with fail
  refine (tooBig_any _ _ _ _ _ _ _ _ _ _ _).mono ?_
  rintro e w' ⟨rfl, hw⟩
  subst w'
  go_wp2_with fail
  refine (cloneBytes_own a0 len0 cap0 bs w (by omega) N0.out R0.out).mono ?_
  rintro e x1 ⟨o1, d1, rfl, m1, own1, be1⟩
  obtain rfl : bs.length = len0 := R0.out.1
  have M1 := hid m1
  have O1 := hid own1
  have B1 := hid be1
  clear m1 own1 be1
  go_wp2_with fail
  refine (cloneBytes_own o1 bs.length d1 bs x1 (by omega) M1.out (rd_own O1.out R0.out.2.1)).mono ?_
  rintro e x2 ⟨o2, d2, rfl, m2, own2, be2⟩
  have O2 := hid own2
  have O1' := hid (ownsRow_below O1.out be2)
  have B2 := hid (B1.out.trans (be2.mono B1.out.size))
  clear m2 own2 be2
  go_wp2_with fail
  refine (newFn_any w.heap.size o1 d1 bs nl 0 false 0 none x2 (by omega) B2.out.size O1'.out).mono ?_
  rintro e x3 ⟨c, ps, rfl, hpl, hf, be3⟩
  have F3 := hid hf
  have O3 := hid (ownsRow_below O2.out be3)
  have HPK : Hid (ps.length = 0) := hpl.trans (by simp)
  have B3 := hid (B2.out.trans (be3.mono B2.out.size))
  clear hf be3 hpl
  have BE4 := hid (Below.refl x3.heap.size x3)
  go_wp2_with fail
  refine (zzCopy_any c w.heap.size bs nl 0 false none ps x3 (by omega) (by rw [HPK.out]; omega) (F3.out.below BE4.out)).mono ?_
  rintro e x5 ⟨d, rfl, hf5, be5⟩
  have F5 := hid hf5
  have BE5 := hid be5
  clear hf5 be5
  go_wp2_with fail
  refine (zzCopy_any d x3.heap.size bs nl 0 false none ps x5 (by omega) (by rw [HPK.out]; omega) F5.out).mono ?_
  rintro e x6 ⟨dd, rfl, hf6, be6⟩
  obtain ⟨oi, ci, fo, cf, ld, hd, hd5, hd45, hps⟩ := F5.out
  obtain ⟨oc, cc, fc, cfc, lc, hc, hc5, hc45, _⟩ := F3.out
  obtain ⟨oe, ce, fe, cfe, le, he, he5, he45, _⟩ := hf6
  rw [HPK.out] at hd hd45 hc hc45 he he45
  have W0 : Hid (Wr x3.heap.size x5.heap.size d oi bs.length ci nl fo 0 cf x6 x6 bs ps) := ⟨by rw [be6.block d (lt_of_block hd)]; exact hd, ld, lt_of_block hd, ownsRow_below hd5 be6, ownsRow_below hd45 be6, fun g hg => (hd5.lt g (by rw [hg]; rfl)).2, fun g hg => (hd45.lt g (by rw [hg]; rfl)).2, Mid.refl _ _ _⟩
  have B6 : Hid (Below w.heap.size w x6) := ((B3.out.trans (BE4.out.mono B3.out.size)).trans (BE5.out.mono (Nat.le_trans B3.out.size BE4.out.size))).trans (be6.mono (Nat.le_trans (Nat.le_trans B3.out.size BE4.out.size) BE5.out.size))
  have HB46 : Hid (Below x3.heap.size x3 x6) := BE5.out.trans (be6.mono BE5.out.size)
  have HB36 : Hid (Below x3.heap.size x3 x6) := BE4.out.trans (HB46.out.mono BE4.out.size)
  have S34 : x3.heap.size ≤ x3.heap.size := BE4.out.size
  have SW4 : w.heap.size ≤ x3.heap.size := Nat.le_trans B3.out.size S34
  have HC : Hid (x6.heap[c]? = some (fnCells oc bs.length cc nl 0 false none fc 0 cfc) ∧ c < x3.heap.size) := ⟨by rw [HB36.out.block c (lt_of_block hc)]; exact hc, lt_of_block hc⟩
  have HC5 := hid hc5
  have HC45 := hid hc45
  have HE := hid he
  have HE5 := hid he5
  have HE45 := hid he45
  have HLE := hid le
  have HP := hid hps
  clear hd hd5 hd45 hps hc hc5 hc45 he he5 he45 ld lc le be6
  obtain ⟨t0, t1, t2, t3, t4, t5⟩ := fn_cells W0.out.blk
  go_wp2_with fail
  clear t0 t1 t2 t3 t4 t5
  go_loopw [13] (fun i wr => ∃ (j : Nat) (zs : List Int), j ≤ bs.length ∧ i = .int .i64 j ∧ Hid (Wr x3.heap.size x5.heap.size d oi bs.length ci nl fo 0 cf x6 wr zs ps)) (fun i _ => bs.length - (intOf i).toNat)
  case atStart => exact ⟨0, bs, Nat.zero_le _, rfl, W0.out⟩
  case round =>
    obtain ⟨j, zs, hj, rfl, W1⟩ := hrel
    clear W0
    obtain ⟨t0, t1, t2, t3, t4, t5⟩ := fn_cells W1.out.blk
    by_cases hlt : j < bs.length
    · obtain ⟨g, hg, _, _, y0, _⟩ := row_at W1.out.row j hlt
      have hzl : zs.length = bs.length := by simpa using W1.out.row.1
      rw [bytes_at j (by omega)] at y0
      generalize zs.getD j 0 = bb at y0
      rw [hg] at t0
      have W2 := W1.out
      rw [hg] at W2
      have W3 := fun y => hid (W2.byte j y)
      have y1 := W2.row.frozenAt j
      have e1 : (0 : Int) ≤ (j : Int) := by omega
      have e2 : (j : Int) < (bs.length : Int) := by omega
      have HW := hid W3
      have HG := hid hg
      clear hg W2 W3 hzl t1 t2 t3 t4 t5
      go_wp2
      go_region
      go_wp2
      go_roundw
      case rel => exact ⟨j + 1, _, by omega, by go_num, by rw [HG.out]; exact ((HW.out _).out).drew⟩
      case measure => simp [intOf]; omega
    · have t6 := W1.out.frozen
      go_wp2
      have W4 := hid (W1.out.count (wrap64 (nl + 1)))
      clear t0 t1 t2 t3 t4 t5 t6 hlt hj W1
      generalize wr.setCell ⟨d, 1, none⟩ (.int .i64 (wrap64 (nl + 1))) = y4 at W4 ⊢
      clear wr
      go_loopw [14] (fun i wr => ∃ (j : Nat) (qs : List Value), j ≤ 0 ∧ i = .int .i64 j ∧ Hid (Wr x3.heap.size x5.heap.size d oi bs.length ci (wrap64 (nl + 1)) fo 0 cf x6 wr zs qs)) (fun i _ => 0 - (intOf i).toNat)
      case atStart => exact ⟨0, ps, Nat.zero_le _, rfl, W4.out⟩
      case round =>
        obtain ⟨j, qs, hj, rfl, W5⟩ := hrel
        clear W4
        by_cases hlt : j < 0
        · exact absurd hlt (Nat.not_lt_zero j)
        · have t5 := (fn_cells W5.out.blk).2.2.2.2.2
          obtain ⟨yo, hyo⟩ : ∃ yo : World, yo = wr := ⟨_, rfl⟩
          subst hyo
          have MD := W5.out.mid
          have hcw := (MD.block c (.inl (by have := HC.out.2; omega))).trans HC.out.1
          have hew := (MD.block dd (.inr HLE.out)).trans HE.out
          have RC5 := hid (MD.owns (ownsRow_below HC5.out HB36.out) (fun g hg => .inl (by have := (HC5.out.lt g (by rw [hg]; rfl)).2; omega)))
          have RW5 := hid (MD.owns (ownsRow_below O3.out HB36.out) (fun g hg => .inl (by have := (O3.out.lt g (by rw [hg]; rfl)).2; omega)))
          have RE5 := hid (MD.owns HE5.out (fun g hg => .inr (HE5.out.lt g (by rw [hg]; rfl)).1))
          have RC45 := hid (MD.owns (ownsRow_below HC45.out HB36.out) (fun g hg => .inl (by have := (HC45.out.lt g (by rw [hg]; rfl)).2; omega)))
          have RE45 := hid (MD.owns HE45.out (fun g hg => .inr (HE45.out.lt g (by rw [hg]; rfl)).1))
          have B7 : Hid (Below w.heap.size w yo) := B6.out.trans (MD.below.mono SW4)
          obtain ⟨u0, u1, _, _, _, u5⟩ := fn_cells hcw
          obtain ⟨v0, v1, _, _, _, v5⟩ := fn_cells hew
          clear MD hcw hew W5
          go_wp2
          clear t5 hlt hj
          go_loopw [15] (fun i wr => ∃ j m : Nat, j ≤ bs.length ∧ i = .int .i64 j ∧ wr = yo.drewN m) (fun i _ => bs.length - (intOf i).toNat)
          case atStart => exact ⟨0, 0, Nat.zero_le _, rfl, rfl⟩
          case round =>
            obtain ⟨j, m, hj, rfl, rfl⟩ := hrel
            by_cases hlt : j < bs.length
            · obtain ⟨g1, hg1, _, _, y1, _⟩ := row_at RC5.out j hlt
              obtain ⟨g2, hg2, _, _, y2, _⟩ := row_at RW5.out j hlt
              obtain ⟨g3, hg3, _, _, y3, _⟩ := row_at RE5.out j hlt
              rw [bytes_at j hlt] at y1 y2 y3
              rw [hg1] at u0
              rw [hg3] at v0
              cases hg2
              generalize bs.getD j 0 = bb at y1 y2 y3
              have e1 : (0 : Int) ≤ (j : Int) := by omega
              have e2 : (j : Int) < (bs.length : Int) := by omega
              clear hg1 hg3
              go_wp2
              go_quiet (fail)
              go_wp2
              go_roundw
              case rel => exact ⟨j + 1, _, by omega, by go_num, rfl⟩
              case measure => simp [intOf]; omega
            · go_wp2
              clear hlt hj
              go_loopw [16] (fun i wr => ∃ j m : Nat, j ≤ 0 ∧ i = .int .i64 j ∧ wr = yo.drewN m) (fun i _ => 0 - (intOf i).toNat)
              case atStart => exact ⟨0, m, Nat.zero_le _, rfl, rfl⟩
              case round =>
                obtain ⟨j, m, hj, rfl, rfl⟩ := hrel
                by_cases hlt : j < 0
                · exact absurd hlt (Nat.not_lt_zero j)
                · go_wp2
                  go_ret
                  exact ⟨rfl, below_drewN B7.out _⟩

set_option maxHeartbeats 4000000 in
set_option maxRecDepth 100000 in
theorem fn6_main1 (a0 : Option Addr) (len0 cap0 : Nat) (nl : Int) (bs : List Int) (w : World) (h1 : len0 ≤ 1048576) (k : Nat) (h2 : tooBigB len0 0 0 (k : Int) = false) (hk : 0 < k) (hk5 : k ≤ 65536) (n0 : a0 = none → len0 = 0 ∧ cap0 = 0) (r0 : Rd .u8 w a0 len0 bs) :
    Calls Eezg.prog 6 #[.slice a0 len0 cap0, .int .i64 nl, .int .i64 (k : Int)] w fun e w' => e = .returned (.bool true) ∧ Below w.heap.size w w' := by
  have N0 := hid n0
  have R0 := hid r0
  clear n0 r0
  go_enter Eezg.func6, Eezg.ntmps6
  go_wp2_with fail
  refine (zz21_any _ _ _ _ _ _).mono ?_
  rintro e w' ⟨rfl, hw⟩
  subst w'
  go_wp2_with fail
  refine (tooBig_any _ _ _ _ _ _ _ _ _ _ _).mono ?_
  rintro e w' ⟨rfl, hw⟩
  subst w'
  go_wp2_with fail
  refine (cloneBytes_own a0 len0 cap0 bs w (by omega) N0.out R0.out).mono ?_
  rintro e x1 ⟨o1, d1, rfl, m1, own1, be1⟩
  obtain rfl : bs.length = len0 := R0.out.1
  have M1 := hid m1
  have O1 := hid own1
  have B1 := hid be1
  clear m1 own1 be1
  go_wp2_with fail
  refine (cloneBytes_own o1 bs.length d1 bs x1 (by omega) M1.out (rd_own O1.out R0.out.2.1)).mono ?_
  rintro e x2 ⟨o2, d2, rfl, m2, own2, be2⟩
  have O2 := hid own2
  have O1' := hid (ownsRow_below O1.out be2)
  have B2 := hid (B1.out.trans (be2.mono B1.out.size))
  clear m2 own2 be2
  go_wp2_with fail
  refine (newFn_any w.heap.size o1 d1 bs nl 0 false k none x2 (by omega) B2.out.size O1'.out).mono ?_
  rintro e x3 ⟨c, ps, rfl, hpl, hf, be3⟩
  have F3 := hid hf
  have O3 := hid (ownsRow_below O2.out be3)
  have HPK : Hid (ps.length = k) := hpl.trans (by simp)
  have B3 := hid (B2.out.trans (be3.mono B2.out.size))
  clear hf be3 hpl
  have hk1 : (0 : Int) < (k : Int) := by omega
  obtain ⟨i0, hi, hz0, hz1, hz2⟩ := info_parts Eezg.info45
  go_wp2_with (at_make; refine wpList_make_full _ rfl _ _ 32 rfl x3.heap.size 45 i0 (.pointer none) 1 Eezg.underlying32 hi hz0 hz1 .i64 .i64 _ _ k rfl rfl rfl rfl (by rw [hz2]; omega) (by unfold maxLen; omega) (Nat.le_refl _) ?_; intro y1 hown1 hgrow1)
  have A0 : Hid (y1.ownsRow x3.heap.size 45 1 (.slice (some ⟨x3.heap.size, 0, none⟩) k k) k (partV ps 0) ∧ Below x3.heap.size x3 y1) := by
    refine ⟨?_, (Below.refl _ _).grown hgrow1 (Nat.le_refl _) (by simp)⟩
    rw [partV_zero, HPK.out, ← toList_madeCells_one]
    simpa [Value.cells] using hown1
  clear hown1 hgrow1 hi hz0 hz1 hz2
  go_loopw [10] (fun i wr => ∃ j : Nat, j ≤ k ∧ i = .int .i64 j ∧ Hid (wr.ownsRow x3.heap.size 45 1 (.slice (some ⟨x3.heap.size, 0, none⟩) k k) k (partV ps j) ∧ Below x3.heap.size x3 wr)) (fun i _ => k - (intOf i).toNat)
  case atStart => exact ⟨0, Nat.zero_le _, rfl, A0.out⟩
  case round =>
    obtain ⟨j, hj, rfl, A1⟩ := hrel
    clear A0
    by_cases hlt : j < k
    · obtain ⟨oc, cc, fc, cfc, lc, hc, hc5, hc45, hps⟩ := F3.out
      rw [HPK.out] at hc hc45
      obtain ⟨a, ha⟩ := ptrs_at hps j (by rw [HPK.out]; exact hlt)
      obtain ⟨g, hg, _, lg, y0, _⟩ := row_at hc45 j hlt
      rw [ha] at y0
      have u5 := (A1.out.2.cell (p := ⟨c, 5, none⟩) (by exact lt_of_block hc)).trans (fn_cells hc).2.2.2.2.2
      have y2 := (A1.out.2.cell (p := ⟨g, j, none⟩) (by exact lg)).trans y0
      rw [hg] at u5
      have y3 := A1.out.1.cellAt j (by omega)
      obtain ⟨v0, hv0⟩ : ∃ v, (partV ps j)[j]? = some v := ⟨_, List.getElem?_eq_getElem (by have := A1.out.1.1; omega)⟩
      rw [hv0] at y3
      have y4 := A1.out.1.frozenAt j
      have hst := (A1.out.1.stored j (.pointer a)).1
      rw [partV_set ps j _ (by rw [HPK.out]; exact hlt) ha] at hst
      have HS := hid hst
      have e1 : (0 : Int) ≤ (j : Int) := by omega
      have e2 : (j : Int) < (k : Int) := by omega
      clear hst hv0 hg lg y0 hc hc5 hc45 hps ha lc
      go_wp2
      go_roundw
      case rel => exact ⟨j + 1, by omega, by go_num, HS.out, A1.out.2.setCell (Nat.le_refl _) _⟩
      case measure => simp [intOf]; omega
    · obtain ⟨x4, hx4⟩ : ∃ x4 : World, x4 = wr := ⟨_, rfl⟩
      subst hx4
      obtain rfl : k = j := by omega
      have OO : Hid (x4.ownsRow x3.heap.size 45 1 (.slice (some ⟨x3.heap.size, 0, none⟩) k k) k ps) := by
        have := A1.out.1
        rw [← HPK.out, partV_all] at this
        rw [← HPK.out]
        exact this
      have BE4 := hid A1.out.2
      clear A1
      go_wp2_with fail
      refine (zzCopy_any c w.heap.size bs nl 0 false none ps x4 (by omega) (by rw [HPK.out]; omega) (F3.out.below BE4.out)).mono ?_
      rintro e x5 ⟨d, rfl, hf5, be5⟩
      have F5 := hid hf5
      have BE5 := hid be5
      clear hf5 be5
      go_wp2_with fail
      refine (zzCopy_any d x4.heap.size bs nl 0 false none ps x5 (by omega) (by rw [HPK.out]; omega) F5.out).mono ?_
      rintro e x6 ⟨dd, rfl, hf6, be6⟩
      obtain ⟨oi, ci, fo, cf, ld, hd, hd5, hd45, hps⟩ := F5.out
      obtain ⟨oc, cc, fc, cfc, lc, hc, hc5, hc45, _⟩ := F3.out
      obtain ⟨oe, ce, fe, cfe, le, he, he5, he45, _⟩ := hf6
      rw [HPK.out] at hd hd45 hc hc45 he he45
      have W0 : Hid (Wr x4.heap.size x5.heap.size d oi bs.length ci nl fo k cf x6 x6 bs ps) := ⟨by rw [be6.block d (lt_of_block hd)]; exact hd, ld, lt_of_block hd, ownsRow_below hd5 be6, ownsRow_below hd45 be6, fun g hg => (hd5.lt g (by rw [hg]; rfl)).2, fun g hg => (hd45.lt g (by rw [hg]; rfl)).2, Mid.refl _ _ _⟩
      have B6 : Hid (Below w.heap.size w x6) := ((B3.out.trans (BE4.out.mono B3.out.size)).trans (BE5.out.mono (Nat.le_trans B3.out.size BE4.out.size))).trans (be6.mono (Nat.le_trans (Nat.le_trans B3.out.size BE4.out.size) BE5.out.size))
      have HB46 : Hid (Below x4.heap.size x4 x6) := BE5.out.trans (be6.mono BE5.out.size)
      have HB36 : Hid (Below x3.heap.size x3 x6) := BE4.out.trans (HB46.out.mono BE4.out.size)
      have S34 : x3.heap.size ≤ x4.heap.size := BE4.out.size
      have SW4 : w.heap.size ≤ x4.heap.size := Nat.le_trans B3.out.size S34
      have HC : Hid (x6.heap[c]? = some (fnCells oc bs.length cc nl 0 false none fc k cfc) ∧ c < x3.heap.size) := ⟨by rw [HB36.out.block c (lt_of_block hc)]; exact hc, lt_of_block hc⟩
      have HC5 := hid hc5
      have HC45 := hid hc45
      have HE := hid he
      have HE5 := hid he5
      have HE45 := hid he45
      have HLE := hid le
      have HP := hid hps
      clear hd hd5 hd45 hps hc hc5 hc45 he he5 he45 ld lc le be6
      obtain ⟨t0, t1, t2, t3, t4, t5⟩ := fn_cells W0.out.blk
      go_wp2_with fail
      clear t0 t1 t2 t3 t4 t5
      go_loopw [13] (fun i wr => ∃ (j : Nat) (zs : List Int), j ≤ bs.length ∧ i = .int .i64 j ∧ Hid (Wr x4.heap.size x5.heap.size d oi bs.length ci nl fo k cf x6 wr zs ps)) (fun i _ => bs.length - (intOf i).toNat)
      case atStart => exact ⟨0, bs, Nat.zero_le _, rfl, W0.out⟩
      case round =>
        obtain ⟨j, zs, hj, rfl, W1⟩ := hrel
        clear W0
        obtain ⟨t0, t1, t2, t3, t4, t5⟩ := fn_cells W1.out.blk
        by_cases hlt : j < bs.length
        · obtain ⟨g, hg, _, _, y0, _⟩ := row_at W1.out.row j hlt
          have hzl : zs.length = bs.length := by simpa using W1.out.row.1
          rw [bytes_at j (by omega)] at y0
          generalize zs.getD j 0 = bb at y0
          rw [hg] at t0
          have W2 := W1.out
          rw [hg] at W2
          have W3 := fun y => hid (W2.byte j y)
          have y1 := W2.row.frozenAt j
          have e1 : (0 : Int) ≤ (j : Int) := by omega
          have e2 : (j : Int) < (bs.length : Int) := by omega
          have HW := hid W3
          have HG := hid hg
          clear hg W2 W3 hzl t1 t2 t3 t4 t5
          go_wp2
          go_region
          go_wp2
          go_roundw
          case rel => exact ⟨j + 1, _, by omega, by go_num, by rw [HG.out]; exact ((HW.out _).out).drew⟩
          case measure => simp [intOf]; omega
        · have t6 := W1.out.frozen
          go_wp2
          have W4 := hid (W1.out.count (wrap64 (nl + 1)))
          clear t0 t1 t2 t3 t4 t5 t6 hlt hj W1
          generalize wr.setCell ⟨d, 1, none⟩ (.int .i64 (wrap64 (nl + 1))) = y4 at W4 ⊢
          clear wr
          go_loopw [14] (fun i wr => ∃ (j : Nat) (qs : List Value), j ≤ k ∧ i = .int .i64 j ∧ Hid (Wr x4.heap.size x5.heap.size d oi bs.length ci (wrap64 (nl + 1)) fo k cf x6 wr zs qs)) (fun i _ => k - (intOf i).toNat)
          case atStart => exact ⟨0, ps, Nat.zero_le _, rfl, W4.out⟩
          case round =>
            obtain ⟨j, qs, hj, rfl, W5⟩ := hrel
            clear W4
            by_cases hlt : j < k
            · obtain ⟨g, hg, _, _, y0, _⟩ := row_at W5.out.free j hlt
              obtain ⟨v0, hv0⟩ : ∃ v, qs[j]? = some v := ⟨_, List.getElem?_eq_getElem (by have := W5.out.free.1; omega)⟩
              rw [hv0] at y0
              have t5 := (fn_cells W5.out.blk).2.2.2.2.2
              rw [hg] at t5
              have W6 := W5.out
              rw [hg] at W6
              have y1 := W6.free.frozenAt j
              have HW := hid (W6.ptr j (.pointer none))
              have HG := hid hg
              clear hg W6 hv0
              go_wp2
              go_roundw
              case rel => exact ⟨j + 1, _, by omega, by go_num, by rw [HG.out]; exact HW.out⟩
              case measure => simp [intOf]; omega
            · have t5 := (fn_cells W5.out.blk).2.2.2.2.2
              obtain ⟨yo, hyo⟩ : ∃ yo : World, yo = wr := ⟨_, rfl⟩
              subst hyo
              have MD := W5.out.mid
              have hcw := (MD.block c (.inl (by have := HC.out.2; omega))).trans HC.out.1
              have hew := (MD.block dd (.inr HLE.out)).trans HE.out
              have RC5 := hid (MD.owns (ownsRow_below HC5.out HB36.out) (fun g hg => .inl (by have := (HC5.out.lt g (by rw [hg]; rfl)).2; omega)))
              have RW5 := hid (MD.owns (ownsRow_below O3.out HB36.out) (fun g hg => .inl (by have := (O3.out.lt g (by rw [hg]; rfl)).2; omega)))
              have RE5 := hid (MD.owns HE5.out (fun g hg => .inr (HE5.out.lt g (by rw [hg]; rfl)).1))
              have RC45 := hid (MD.owns (ownsRow_below HC45.out HB36.out) (fun g hg => .inl (by have := (HC45.out.lt g (by rw [hg]; rfl)).2; omega)))
              have RE45 := hid (MD.owns HE45.out (fun g hg => .inr (HE45.out.lt g (by rw [hg]; rfl)).1))
              have RO45 := hid (MD.owns (ownsRow_below OO.out HB46.out) (fun g hg => .inl (OO.out.lt g (by rw [hg]; rfl)).2))
              have B7 : Hid (Below w.heap.size w yo) := B6.out.trans (MD.below.mono SW4)
              obtain ⟨u0, u1, _, _, _, u5⟩ := fn_cells hcw
              obtain ⟨v0, v1, _, _, _, v5⟩ := fn_cells hew
              clear MD hcw hew W5
              go_wp2
              clear t5 hlt hj
              go_loopw [15] (fun i wr => ∃ j m : Nat, j ≤ bs.length ∧ i = .int .i64 j ∧ wr = yo.drewN m) (fun i _ => bs.length - (intOf i).toNat)
              case atStart => exact ⟨0, 0, Nat.zero_le _, rfl, rfl⟩
              case round =>
                obtain ⟨j, m, hj, rfl, rfl⟩ := hrel
                by_cases hlt : j < bs.length
                · obtain ⟨g1, hg1, _, _, y1, _⟩ := row_at RC5.out j hlt
                  obtain ⟨g2, hg2, _, _, y2, _⟩ := row_at RW5.out j hlt
                  obtain ⟨g3, hg3, _, _, y3, _⟩ := row_at RE5.out j hlt
                  rw [bytes_at j hlt] at y1 y2 y3
                  rw [hg1] at u0
                  rw [hg3] at v0
                  cases hg2
                  generalize bs.getD j 0 = bb at y1 y2 y3
                  have e1 : (0 : Int) ≤ (j : Int) := by omega
                  have e2 : (j : Int) < (bs.length : Int) := by omega
                  clear hg1 hg3
                  go_wp2
                  go_quiet (fail)
                  go_wp2
                  go_roundw
                  case rel => exact ⟨j + 1, _, by omega, by go_num, rfl⟩
                  case measure => simp [intOf]; omega
                · go_wp2
                  clear hlt hj
                  go_loopw [16] (fun i wr => ∃ j m : Nat, j ≤ k ∧ i = .int .i64 j ∧ wr = yo.drewN m) (fun i _ => k - (intOf i).toNat)
                  case atStart => exact ⟨0, m, Nat.zero_le _, rfl, rfl⟩
                  case round =>
                    obtain ⟨j, m, hj, rfl, rfl⟩ := hrel
                    by_cases hlt : j < k
                    · obtain ⟨g1, hg1, _, _, y1, _⟩ := row_at RC45.out j hlt
                      obtain ⟨g3, hg3, _, _, y3, _⟩ := row_at RE45.out j hlt
                      obtain ⟨g2, hg2, _, _, y2, _⟩ := row_at RO45.out j hlt
                      obtain ⟨a, ha⟩ := ptrs_at HP.out j (by rw [HPK.out]; exact hlt)
                      rw [ha] at y1 y2 y3
                      injection hg2 with hg2
                      injection hg2 with hg2
                      rw [← hg2] at y2
                      rw [hg1] at u5
                      rw [hg3] at v5
                      have e1 : (0 : Int) ≤ (j : Int) := by omega
                      have e2 : (j : Int) < (k : Int) := by omega
                      clear hg1 hg2 hg3 ha
                      have hsm := ptr_same a
                      go_wp2
                      go_quiet (fail)
                      go_wp2
                      go_roundw
                      case rel => exact ⟨j + 1, _, by omega, by go_num, rfl⟩
                      case measure => simp [intOf]; omega
                    · go_wp2
                      go_ret
                      exact ⟨rfl, below_drewN B7.out _⟩

/-- FnCopyIsIndependent: whatever it is handed. -/
theorem fn6_any (a0 : Option Addr) (len0 cap0 : Nat) (nl nf : Int) (bs : List Int) (w : World) (n0 : a0 = none → len0 = 0 ∧ cap0 = 0) (r0 : Rd .u8 w a0 len0 bs) :
    Calls Eezg.prog 6 #[.slice a0 len0 cap0, .int .i64 nl, .int .i64 nf] w fun e w' => e = .returned (.bool true) ∧ Below w.heap.size w w' := by
  by_cases h1 : len0 ≤ 1048576
  · cases h2 : tooBigB len0 0 0 nf with
    | true => exact fn6_big a0 len0 cap0 nl nf w h1 h2
    | false =>
      obtain ⟨hnf0, hnf1⟩ := tooBig_nf h2
      obtain ⟨k, rfl⟩ := Int.eq_ofNat_of_zero_le hnf0
      by_cases hk : 0 < k
      · exact fn6_main1 a0 len0 cap0 nl bs w h1 k h2 hk (by omega) n0 r0
      · obtain rfl : k = 0 := by omega
        exact fn6_main0 a0 len0 cap0 nl bs w h1 h2 n0 r0
  · exact fn6_out a0 len0 cap0 nl nf w h1

end Go.Proofs.Yoeezw
