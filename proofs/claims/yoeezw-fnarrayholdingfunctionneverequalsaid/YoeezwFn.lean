/-
  newFn (19): a compiled function laid in new memory.
-/
import Derived.Test.YoeezwMap
namespace Go.Proofs.Yoeezw
open Go.RowKit Go.Maps

theorem hid {p : Prop} (h : p) : Hid p := h

theorem Eezg.info45 : (Eezg.prog.info? 45).map (fun i => (i.zero, i.size, i.bytes)) = some (some (.pointer none), 1, 8) := by kernel_rfl

/-- The block of a compiled function: its six cells. -/
def fnCells (oi : Option Addr) (ni ci : Nat) (nl np : Int) (va : Bool) (r : Option Nat) (fo : Option Addr) (nf cf : Nat) : Obj :=
  .cells #[.slice oi ni ci, .int .i64 nl, .int .i64 np, .bool va, .map r, .slice fo nf cf] 34 (0, 0)

set_option maxRecDepth 100000 in
theorem newFn_none (oi : Option Addr) (ni ci : Nat) (nl np : Int) (va : Bool) (nf : Int) (r : Option Nat) (w : World) (h : ¬ 0 < nf) :
    Calls Eezg.prog 19 #[.slice oi ni ci, .int .i64 nl, .int .i64 np, .bool va, .int .i64 nf, .map r] w fun e w' =>
      e = .returned (.pointer (some ⟨w.heap.size, 0, none⟩)) ∧ w' = w.alloc (fnCells oi ni ci nl np va r none 0 0) := by
  go_enter Eezg.func19, Eezg.ntmps19
  go_wp2
  go_ret
  exact ⟨rfl, rfl⟩

set_option maxRecDepth 100000 in
theorem newFn_some (oi : Option Addr) (ni ci : Nat) (nl np : Int) (va : Bool) (nf : Nat) (r : Option Nat) (w : World) (h : 0 < nf) (hle : nf ≤ 65536) :
    Calls Eezg.prog 19 #[.slice oi ni ci, .int .i64 nl, .int .i64 np, .bool va, .int .i64 nf, .map r] w fun e w' =>
      ∃ c ps, e = .returned (.pointer (some ⟨c, 0, none⟩)) ∧ w.heap.size ≤ c ∧ w'.heap[c]? = some (fnCells oi ni ci nl np va r (some ⟨w.heap.size, 0, none⟩) nf nf) ∧
        w'.ownsRow w.heap.size 45 1 (.slice (some ⟨w.heap.size, 0, none⟩) nf nf) nf ps ∧ (∀ v ∈ ps, ∃ a, v = .pointer a) ∧ Below w.heap.size w w' := by
  obtain ⟨i0, hi, hz0, hz1, hz2⟩ := info_parts Eezg.info45
  have h' : (0 : Int) < (nf : Int) := by omega
  go_enter Eezg.func19, Eezg.ntmps19
  go_wp2_with (first
    | (at_make; refine wpList_make_full _ rfl _ _ 32 rfl w.heap.size 45 i0 (.pointer none) 1 Eezg.underlying32 hi hz0 hz1 .i64 .i64 _ _ nf rfl rfl rfl rfl (by rw [hz2]; omega) (by unfold maxLen; omega) (Nat.le_refl _) ?_; intro w1 hown1 hgrow1)
    | go_in)
  go_loopw [14] (fun i wr => ∃ (k : Nat) (ps : List Value), k ≤ nf ∧ i = .int .i64 k ∧ wr.ownsRow w.heap.size 45 1 (.slice (some ⟨w.heap.size, 0, none⟩) nf nf) nf ps ∧ (∀ v ∈ ps, ∃ a, v = .pointer a) ∧ Below w.heap.size w wr)
    (fun i _ => nf - (intOf i).toNat)
  case atStart =>
    refine ⟨0, _, Nat.zero_le _, rfl, hown1, fun v hv => ?_, (Below.refl _ _).grown hgrow1 (Nat.le_refl _) (by simp)⟩
    have e : (madeCells (Value.pointer none).cells (nf * 1)).toList = List.replicate (nf * 1) (.pointer none) := toList_madeCells_one _ _
    rw [e] at hv
    exact ⟨none, (List.mem_replicate.1 hv).2⟩
  case round =>
    obtain ⟨k, ps, hk, rfl, hown, hps, hnx⟩ := hrel
    clear hown1 hgrow1
    by_cases hlt : k < nf
    · obtain ⟨v0, hv0⟩ : ∃ v, ps[k]? = some v := ⟨_, List.getElem?_eq_getElem (by rw [hown.1]; omega)⟩
      have hcy := fun o => (hown.alloc o).cellAt k (by omega)
      have hfy := fun o => (hown.alloc o).frozenAt k
      have HST := hid (hown.stored k (.pointer (some ⟨wr.heap.size, 0, none⟩))).1
      simp only [hv0] at hcy
      have HPS := hid hps
      have HNX := hid hnx
      have hsz : w.heap.size < wr.heap.size := (hown.lt _ rfl).2
      clear hps hnx hown hv0
      go_wp2
      go_roundw
      case rel =>
        refine ⟨k + 1, _, by omega, by go_num, World.ownsRow.alloc HST.out _, fun v hv => ?_, (HNX.out.setCell (Nat.le_refl _) _).alloc (by simp [World.setCell]; omega) _⟩
        rcases List.mem_or_eq_of_mem_set hv with hv | hv
        · exact HPS.out v hv
        · exact ⟨_, hv⟩
      case measure => simp [intOf]; omega
    · have HO := hid hown
      have HNX := hid hnx
      clear hown hnx
      go_wp2
      go_ret
      exact ⟨wr.heap.size, ps, rfl, HNX.out.size, heap_alloc_new wr _, World.ownsRow.alloc HO.out _, hps, HNX.out.alloc HNX.out.size _⟩

end Go.Proofs.Yoeezw
