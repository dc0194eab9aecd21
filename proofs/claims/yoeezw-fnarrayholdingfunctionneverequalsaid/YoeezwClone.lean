/-
  cloneInts (11), cloneBytes (18): a fresh row with the same numbers.
-/
import Derived.Test.YoeezwSmall
import Derived.OpenShut
import Derived.ProofKit
namespace Go.Proofs.Yoeezw
open Go.RowKit Go.Maps

/-- WHAT A SLICE OF INTEGERS READS AS: its numbers 'zs', each at its cell; of an empty one nothing is known of its address. -/
def Rd (k : IntKind) (w : World) (o : Option Addr) (len : Nat) (zs : List Int) : Prop :=
  zs.length = len ∧ (∀ n ∈ zs, (Lit.int k n).wf = true) ∧
  (len = 0 ∨ ∃ b off, o = some ⟨b, off, none⟩ ∧ b < w.heap.size ∧ ∀ i, i < len → w.cell? ⟨b, off + i, none⟩ = some (.int k (zs.getD i 0)))

theorem Rd.below {k : IntKind} {w w' : World} {o : Option Addr} {len : Nat} {zs : List Int} (h : Rd k w o len zs) (hb : Below w.heap.size w w') : Rd k w' o len zs := by
  obtain ⟨h1, h2, h3⟩ := h
  refine ⟨h1, h2, ?_⟩
  rcases h3 with h3 | ⟨b, off, ho, hlt, hc⟩
  · exact .inl h3
  · exact .inr ⟨b, off, ho, Nat.lt_of_lt_of_le hlt hb.size, fun i hi => (hb.cell (p := ⟨b, off + i, none⟩) hlt).trans (hc i hi)⟩

theorem Rd.nil (k : IntKind) (w : World) (o : Option Addr) : Rd k w o 0 [] := ⟨rfl, by simp, .inl rfl⟩

theorem wf_getD {k : IntKind} {zs : List Int} (h : ∀ n ∈ zs, (Lit.int k n).wf = true) (i : Nat) : (Lit.int k (zs.getD i 0)).wf = true := by
  rw [List.getD_eq_getElem?_getD]
  by_cases hi : i < zs.length
  · rw [List.getElem?_eq_getElem hi]; exact h _ (List.getElem_mem hi)
  · rw [List.getElem?_eq_none (by omega)]; cases k <;> decide

/-- The shell's 'IsRow' is a reading of the first 'len' numbers. -/
theorem rd_of {k : IntKind} {w : World} {a : Option Addr} {len cap : Nat} {zs : List Int}
    (h : (a = none ∧ len = 0 ∧ cap = 0 ∧ zs = []) ∨ ∃ x, a = some x ∧ len ≤ cap ∧ cap ≤ maxLen ∧ zs.length = cap ∧ (∀ i, i < zs.length → w.cell? (x.add i) = some (.int k (zs.getD i 0))) ∧ ∀ n ∈ zs, (Lit.int k n).wf = true) :
    Rd k w a len (zs.take len) := by
  rcases h with ⟨rfl, rfl, rfl, rfl⟩ | ⟨x, rfl, hl, hm, hz, hc, hw⟩
  · exact Rd.nil _ _ _
  · refine ⟨by simp; omega, fun n hn => hw n (List.mem_of_mem_take hn), ?_⟩
    by_cases h0 : len = 0
    · exact .inl h0
    · obtain ⟨b, off, rfl, hc'⟩ := ints_at hc (by omega)
      refine .inr ⟨b, off, rfl, World.block_lt_of_cell? w _ (hc' 0 (by omega)), fun i hi => ?_⟩
      rw [hc' i (by omega)]
      simp [List.getD_eq_getElem?_getD, hi]

/-- An owned row of numbers reads so. -/
theorem rd_owned {k : IntKind} {w : World} {base e g len cap : Nat} {zs : List Int} (h : w.ownsRow base e 1 (.slice (some ⟨g, 0, none⟩) len cap) len (zs.map (Value.int k))) (hw : ∀ n ∈ zs, (Lit.int k n).wf = true) :
    Rd k w (some ⟨g, 0, none⟩) len zs := by
  have hlen : zs.length = len := by simpa using h.1
  refine ⟨hlen, hw, .inr ⟨g, 0, rfl, (h.lt g rfl).2, fun i hi => ?_⟩⟩
  rw [Nat.zero_add, h.cellAt i (by omega)]
  simp [List.getD_eq_getElem?_getD, List.getElem?_eq_getElem (show i < zs.length by omega)]

theorem Eezg.info3 : (Eezg.prog.info? 3).map (fun i => (i.zero, i.size, i.bytes)) = some (some (.int .i64 0), 1, 8) := by kernel_rfl
theorem Eezg.info5 : (Eezg.prog.info? 5).map (fun i => (i.zero, i.size, i.bytes)) = some (some (.int .u8 0), 1, 1) := by kernel_rfl

/-- The cells after k rounds: the first k numbers, then noughts. -/
def part (k : IntKind) (zs : List Int) (len j : Nat) : List Value := (zs.take j).map (Value.int k) ++ List.replicate (len - j) (.int k 0)

theorem part_zero (k : IntKind) (zs : List Int) (len : Nat) : part k zs len 0 = List.replicate len (.int k 0) := by simp [part]
theorem part_all (k : IntKind) (zs : List Int) (len : Nat) (h : zs.length = len) : part k zs len len = zs.map (Value.int k) := by simp [part, ← h]
theorem part_set (k : IntKind) (zs : List Int) (len j : Nat) (h : zs.length = len) (hj : j < len) : (part k zs len j).set j (.int k (zs.getD j 0)) = part k zs len (j + 1) := by
  unfold part
  have hl : ((zs.take j).map (Value.int k)).length = j := by simp; omega
  rw [List.set_append_right _ _ (by omega), hl, Nat.sub_self, show len - j = (len - (j + 1)) + 1 from by omega, List.replicate_succ, List.set_cons_zero,
    List.take_succ_eq_append_getElem (by omega), List.map_append, List.append_assoc, List.getD_eq_getElem?_getD, List.getElem?_eq_getElem (show j < zs.length by omega)]
  rfl

set_option maxRecDepth 100000 in
theorem cloneInts_nil (w : World) : Calls Eezg.prog 11 #[.slice none 0 0] w fun e w' => e = .returned (.slice none 0 0) ∧ w' = w := by
  have hn := fun (w : World) (a : Option Addr) (n c : Nat) => Lib.run_eql_slice_nil (P := Eezg.prog) w 22 3 a n c 0 0 Eezg.underlying22
  go_enter Eezg.func11, Eezg.ntmps11
  go_wp2
  go_ret
  exact ⟨rfl, rfl⟩

set_option maxRecDepth 100000 in
theorem cloneInts_some (x : Addr) (len cap : Nat) (zs : List Int) (w : World) (hlen : len ≤ 1048576) (h : Rd .i64 w (some x) len zs) :
    Calls Eezg.prog 11 #[.slice (some x) len cap] w fun e w' => e = .returned (.slice (some ⟨w.heap.size, 0, none⟩) len len) ∧
      w'.ownsRow w.heap.size 3 1 (.slice (some ⟨w.heap.size, 0, none⟩) len len) len (zs.map (Value.int .i64)) ∧ Below w.heap.size w w' := by
  obtain ⟨hz, hw, hr⟩ := h
  have hn := fun (w : World) (a : Option Addr) (n c : Nat) => Lib.run_eql_slice_nil (P := Eezg.prog) w 22 3 a n c 0 0 Eezg.underlying22
  obtain ⟨i0, hi, hz0, hz1, hz2⟩ := info_parts Eezg.info3
  have HZ : Hid (zs.length = len) := hz
  clear hz
  go_enter Eezg.func11, Eezg.ntmps11
  go_wp2_with (first
    | (at_make; refine wpList_make_full _ rfl _ _ 22 rfl w.heap.size 3 i0 (.int .i64 0) 1 Eezg.underlying22 hi hz0 hz1 .i64 .i64 _ _ len rfl rfl rfl rfl (by rw [hz2]; omega) (by unfold maxLen; omega) (Nat.le_refl _) ?_; intro w1 hown1 hgrow1)
    | go_in)
  go_loopw [4] (fun i wr => ∃ k : Nat, k ≤ len ∧ i = .int .i64 k ∧ wr.ownsRow w.heap.size 3 1 (.slice (some ⟨w.heap.size, 0, none⟩) len len) len (part .i64 zs len k) ∧ Below w.heap.size w wr)
    (fun i _ => len - (intOf i).toNat)
  case atStart =>
    refine ⟨0, Nat.zero_le _, rfl, ?_, (Below.refl _ _).grown hgrow1 (Nat.le_refl _) (by simp)⟩
    rw [part_zero, ← toList_madeCells_one]
    simpa [Value.cells] using hown1
  case round =>
    obtain ⟨k, hk, rfl, hown, hnx⟩ := hrel
    clear hown1 hgrow1
    by_cases hlt : k < len
    · rcases hr with hr | ⟨b, off, hx, hb, hc⟩
      · omega
      · cases hx
        have hcx : wr.cell? ⟨b, off + k, none⟩ = some (.int .i64 (zs.getD k 0)) := (hnx.cell (by exact hb)).trans (hc k hlt)
        have hcy := hown.cellAt k (by omega)
        have hfy := hown.frozenAt k
        have hst := hown.stored k (.int .i64 (zs.getD k 0))
        rw [part_set .i64 zs len k HZ.out hlt] at hst
        obtain ⟨v0, hv0⟩ : ∃ v, (part .i64 zs len k)[k]? = some v := ⟨_, List.getElem?_eq_getElem (by rw [hown.1]; omega)⟩
        rw [hv0] at hcy
        clear hc
        have R : Hid (_ ∧ _) := hst
        clear hst
        go_wp2
        go_roundw
        case rel =>
          have R1 := R.out.1
          have R2 := R.out.2
          rw [List.getD_eq_getElem?_getD] at R1 R2
          exact ⟨k + 1, by omega, by go_num, R1, hnx.grown R2 hnx.size (fun j hj => by cases hj; exact Nat.le_refl _)⟩
        case measure => simp [intOf]; omega
    · go_wp2
      go_ret
      obtain rfl : k = len := by omega
      rw [part_all .i64 zs k HZ.out] at hown
      exact ⟨rfl, hown, hnx⟩

/-- cloneInts, whatever it is handed: what comes back reads as what was handed in, in memory of its own. -/
theorem cloneInts_any (o : Option Addr) (len cap : Nat) (zs : List Int) (w : World) (hlen : len ≤ 1048576) (ho : o = none → len = 0 ∧ cap = 0) (h : Rd .i64 w o len zs) :
    Calls Eezg.prog 11 #[.slice o len cap] w fun e w' => ∃ o' cap', e = .returned (.slice o' len cap') ∧ (o' = none → len = 0 ∧ cap' = 0) ∧ Rd .i64 w' o' len zs ∧ Below w.heap.size w w' := by
  cases o with
  | none =>
    obtain ⟨rfl, rfl⟩ := ho rfl
    exact (cloneInts_nil w).mono (fun e w' ⟨he, hw⟩ => ⟨none, 0, he, fun _ => ⟨rfl, rfl⟩, by rw [hw]; exact h, by rw [hw]; exact Below.refl _ _⟩)
  | some x => exact (cloneInts_some x len cap zs w hlen h).mono (fun e w' ⟨he, hown, hb⟩ => ⟨some ⟨w.heap.size, 0, none⟩, len, he, (fun h => by cases h), rd_owned hown h.2.1, hb⟩)

set_option maxRecDepth 100000 in
theorem cloneBytes_nil (w : World) : Calls Eezg.prog 18 #[.slice none 0 0] w fun e w' => e = .returned (.slice none 0 0) ∧ w' = w := by
  have hn := fun (w : World) (a : Option Addr) (n c : Nat) => Lib.run_eql_slice_nil (P := Eezg.prog) w 31 5 a n c 0 0 Eezg.underlying31
  go_enter Eezg.func18, Eezg.ntmps18
  go_wp2
  go_ret
  exact ⟨rfl, rfl⟩

set_option maxRecDepth 100000 in
theorem cloneBytes_some (x : Addr) (len cap : Nat) (zs : List Int) (w : World) (hlen : len ≤ 1048576) (h : Rd .u8 w (some x) len zs) :
    Calls Eezg.prog 18 #[.slice (some x) len cap] w fun e w' => e = .returned (.slice (some ⟨w.heap.size, 0, none⟩) len len) ∧
      w'.ownsRow w.heap.size 5 1 (.slice (some ⟨w.heap.size, 0, none⟩) len len) len (zs.map (Value.int .u8)) ∧ Below w.heap.size w w' := by
  obtain ⟨hz, hw, hr⟩ := h
  have hn := fun (w : World) (a : Option Addr) (n c : Nat) => Lib.run_eql_slice_nil (P := Eezg.prog) w 31 5 a n c 0 0 Eezg.underlying31
  obtain ⟨i0, hi, hz0, hz1, hz2⟩ := info_parts Eezg.info5
  have HZ : Hid (zs.length = len) := hz
  clear hz
  go_enter Eezg.func18, Eezg.ntmps18
  go_wp2_with (first
    | (at_make; refine wpList_make_full _ rfl _ _ 31 rfl w.heap.size 5 i0 (.int .u8 0) 1 Eezg.underlying31 hi hz0 hz1 .i64 .i64 _ _ len rfl rfl rfl rfl (by rw [hz2]; omega) (by unfold maxLen; omega) (Nat.le_refl _) ?_; intro w1 hown1 hgrow1)
    | go_in)
  go_loopw [4] (fun i wr => ∃ k : Nat, k ≤ len ∧ i = .int .i64 k ∧ wr.ownsRow w.heap.size 5 1 (.slice (some ⟨w.heap.size, 0, none⟩) len len) len (part .u8 zs len k) ∧ Below w.heap.size w wr)
    (fun i _ => len - (intOf i).toNat)
  case atStart =>
    refine ⟨0, Nat.zero_le _, rfl, ?_, (Below.refl _ _).grown hgrow1 (Nat.le_refl _) (by simp)⟩
    rw [part_zero, ← toList_madeCells_one]
    simpa [Value.cells] using hown1
  case round =>
    obtain ⟨k, hk, rfl, hown, hnx⟩ := hrel
    clear hown1 hgrow1
    by_cases hlt : k < len
    · rcases hr with hr | ⟨b, off, hx, hb, hc⟩
      · omega
      · cases hx
        have hcx : wr.cell? ⟨b, off + k, none⟩ = some (.int .u8 (zs.getD k 0)) := (hnx.cell (by exact hb)).trans (hc k hlt)
        have hcy := hown.cellAt k (by omega)
        have hfy := hown.frozenAt k
        have hst := hown.stored k (.int .u8 (zs.getD k 0))
        rw [part_set .u8 zs len k HZ.out hlt] at hst
        obtain ⟨v0, hv0⟩ : ∃ v, (part .u8 zs len k)[k]? = some v := ⟨_, List.getElem?_eq_getElem (by rw [hown.1]; omega)⟩
        rw [hv0] at hcy
        clear hc
        have R : Hid (_ ∧ _) := hst
        clear hst
        go_wp2
        go_roundw
        case rel =>
          have R1 := R.out.1
          have R2 := R.out.2
          rw [List.getD_eq_getElem?_getD] at R1 R2
          exact ⟨k + 1, by omega, by go_num, R1, hnx.grown R2 hnx.size (fun j hj => by cases hj; exact Nat.le_refl _)⟩
        case measure => simp [intOf]; omega
    · go_wp2
      go_ret
      obtain rfl : k = len := by omega
      rw [part_all .u8 zs k HZ.out] at hown
      exact ⟨rfl, hown, hnx⟩

/-- cloneBytes, whatever it is handed: what comes back reads as what was handed in, in memory of its own. -/
theorem cloneBytes_any (o : Option Addr) (len cap : Nat) (zs : List Int) (w : World) (hlen : len ≤ 1048576) (ho : o = none → len = 0 ∧ cap = 0) (h : Rd .u8 w o len zs) :
    Calls Eezg.prog 18 #[.slice o len cap] w fun e w' => ∃ o' cap', e = .returned (.slice o' len cap') ∧ (o' = none → len = 0 ∧ cap' = 0) ∧ Rd .u8 w' o' len zs ∧ Below w.heap.size w w' := by
  cases o with
  | none =>
    obtain ⟨rfl, rfl⟩ := ho rfl
    exact (cloneBytes_nil w).mono (fun e w' ⟨he, hw⟩ => ⟨none, 0, he, fun _ => ⟨rfl, rfl⟩, by rw [hw]; exact h, by rw [hw]; exact Below.refl _ _⟩)
  | some x => exact (cloneBytes_some x len cap zs w hlen h).mono (fun e w' ⟨he, hown, hb⟩ => ⟨some ⟨w.heap.size, 0, none⟩, len, he, (fun h => by cases h), rd_owned hown h.2.1, hb⟩)

end Go.Proofs.Yoeezw
