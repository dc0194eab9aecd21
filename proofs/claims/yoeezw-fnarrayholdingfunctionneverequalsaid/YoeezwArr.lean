/-
  ZZArrayOfFn (24), ZZImmutableArrayOfFn (25), ZZArrayOfInt (30), Array.Copy (32), ImmutableArray.Copy (33), ZZCopyArray (28), ZZCopyImmutableArray (29).
-/
import Derived.Test.YoeezwEq
import Derived.Deep.AppendLies
namespace Go.Proofs.Yoeezw
open Go.RowKit Go.Maps
set_option linter.unusedVariables false

theorem Arr1.below {w w' : World} {p : Nat} {v : Value} (h : Arr1 w p v) (hb : Below w.heap.size w w') : Arr1 w' p v := by
  obtain ⟨s, cap, h1, h2⟩ := h
  exact ⟨s, cap, (hb.cell (World.block_lt_of_cell? w _ h1)).trans h1, (hb.cell (World.block_lt_of_cell? w _ h2)).trans h2⟩

set_option maxRecDepth 100000 in
theorem arrOf_24 (a : Addr) (w : World) : Calls Eezg.prog 24 #[.pointer (some a)] w fun e w' => ∃ p, e = .returned (.pointer (some ⟨p, 0, none⟩)) ∧ Arr1 w' p (.iface 26 (.pointer (some a))) ∧ Below w.heap.size w w' := by
  go_enter Eezg.func24, Eezg.ntmps24
  go_wp2
  go_ret
  exact ⟨_, rfl, ⟨w.heap.size, 1, by simp, by simp⟩, below_alloc (below_alloc (Below.refl _ _) _) _⟩

set_option maxRecDepth 100000 in
theorem arrOf_25 (a : Addr) (w : World) : Calls Eezg.prog 25 #[.pointer (some a)] w fun e w' => ∃ p, e = .returned (.pointer (some ⟨p, 0, none⟩)) ∧ Arr1 w' p (.iface 26 (.pointer (some a))) ∧ Below w.heap.size w w' := by
  go_enter Eezg.func25, Eezg.ntmps25
  go_wp2
  go_ret
  exact ⟨_, rfl, ⟨w.heap.size, 1, by simp, by simp⟩, below_alloc (below_alloc (Below.refl _ _) _) _⟩

theorem three_new (w : World) (a b c : Obj) : (((w.alloc a).alloc b).alloc c).heap[w.heap.size]? = some a ∧ (((w.alloc a).alloc b).alloc c).heap[w.heap.size + 1]? = some b ∧ (((w.alloc a).alloc b).alloc c).heap[w.heap.size + 2]? = some c := by
  refine ⟨(Below.heap_alloc _ _ _ (by simp; omega)).trans (two_old w a b), (Below.heap_alloc _ _ _ (by simp)).trans (two_new w a b), ?_⟩
  have h := heap_alloc_new ((w.alloc a).alloc b) c
  have e : ((w.alloc a).alloc b).heap.size = w.heap.size + 2 := by simp
  rwa [e] at h

set_option maxRecDepth 100000 in
theorem arrOf_30 (v : Int) (w : World) : Calls Eezg.prog 30 #[.int .i64 v] w fun e w' => ∃ p i, e = .returned (.pointer (some ⟨p, 0, none⟩)) ∧ Arr1 w' p (.iface 69 (.pointer (some ⟨i, 0, none⟩))) ∧ w'.cell? ⟨i, 0, none⟩ = some (.int .i64 v) ∧ Below w.heap.size w w' := by
  go_enter Eezg.func30, Eezg.ntmps30
  go_wp2
  go_ret
  obtain ⟨q0, q1, q2⟩ := three_new w (.cells #[.int .i64 v] 71) (.cells #[.iface 69 (.pointer (some ⟨w.heap.size, 0, none⟩))] 63) (.cells #[.slice (some ⟨w.heap.size + 1, 0, none⟩) 1 1] 67)
  exact ⟨w.heap.size + 2, w.heap.size, rfl, ⟨w.heap.size + 1, 1, cell_of_row _ _ 0 _ _ _ q2, cell_of_row _ _ 0 _ _ _ q1⟩, cell_of_row _ _ 0 _ _ _ q0, below_alloc (below_alloc (below_alloc (Below.refl _ _) _) _) _⟩

theorem mc26 (a : Addr) (w : World) : (method 201 26 (.pointer (some a)) "Copy").run Eezg.prog w = .ok (31, .pointer (some a)) w := by kernel_rfl
theorem Eezg.info63 : (Eezg.prog.info? 63).map (fun i => (i.zero, i.size, i.bytes)) = some (some .nilIface, 1, 16) := by kernel_rfl

set_option maxRecDepth 100000 in
theorem arrCopy_32 (p c base : Nat) (bs : List Int) (nl np : Int) (va : Bool) (r : Option Nat) (ps : List Value) (w : World) (hb : bs.length ≤ 1048576) (hp : ps.length ≤ 65536) (h : IsFn w base c bs nl np va r ps) (ha : Arr1 w p (.iface 26 (.pointer (some ⟨c, 0, none⟩)))) :
    Calls Eezg.prog 32 #[.pointer (some ⟨p, 0, none⟩)] w fun e w' => ∃ p' d, e = .returned (.iface 50 (.pointer (some ⟨p', 0, none⟩))) ∧ Arr1 w' p' (.iface 26 (.pointer (some ⟨d, 0, none⟩))) ∧ Below w.heap.size w w' := by
  obtain ⟨i0, hi, hz0, hz1, hz2⟩ := info_parts Eezg.info63
  obtain ⟨s, cap, h1, h2⟩ := ha
  have k1 := mc26
  have H := hid h
  clear h
  go_enter Eezg.func32, Eezg.ntmps32
  go_wp2
  refine wp_loop_rounds 2 ?_
  rw [rounds_succ]
  go_wp2_with fail
  refine (copy_any c base bs nl np va r ps w hb hp H.out).mono ?_
  rintro e x1 ⟨d, rfl, hf, be1⟩
  have B1 := hid be1
  clear hf be1
  go_wp2_with (at_builtin; refine wpList_append_lies _ rfl _ _ 65 rfl w.heap.size 63 i0 .nilIface 1 16 Eezg.underlying65 hi hz0 hz1 hz2 rfl (by decide) (.slice none 0 0) 0 [] rfl (World.ownsRow_nil _ _ _ _) ⟨x1.heap.size, 0, none⟩ 1 1 [.iface 26 (.pointer (some ⟨d, 0, none⟩))] rfl rfl (World.news_of_block (heap_alloc_new x1 _)) (by simp [Value.oneCell']) (by decide) (by unfold maxLen; decide) (by decide) (Nat.le_trans B1.out.size (by simp)) _ rfl ?_; intro g cap2 x2 hown2 hgrow2 hat2 hlt2)
  have HO := hid hown2
  have B2 : Hid (Below w.heap.size w x2) := (below_alloc B1.out _).grown hgrow2 (below_alloc B1.out _).size (by simp [Value.ownBlock])
  clear hown2 hgrow2 hat2 hlt2
  rw [rounds_succ]
  go_wp2
  go_ret
  exact ⟨x2.heap.size, d, rfl, ⟨g, cap2, cell_of_row _ _ 0 _ _ _ (heap_alloc_new x2 _), (HO.out.alloc _).cellAt 0 (by decide)⟩, below_alloc B2.out _⟩

set_option maxRecDepth 100000 in
theorem arrCopy_33 (p c base : Nat) (bs : List Int) (nl np : Int) (va : Bool) (r : Option Nat) (ps : List Value) (w : World) (hb : bs.length ≤ 1048576) (hp : ps.length ≤ 65536) (h : IsFn w base c bs nl np va r ps) (ha : Arr1 w p (.iface 26 (.pointer (some ⟨c, 0, none⟩)))) :
    Calls Eezg.prog 33 #[.pointer (some ⟨p, 0, none⟩)] w fun e w' => ∃ p' d, e = .returned (.iface 50 (.pointer (some ⟨p', 0, none⟩))) ∧ Arr1 w' p' (.iface 26 (.pointer (some ⟨d, 0, none⟩))) ∧ Below w.heap.size w w' := by
  obtain ⟨i0, hi, hz0, hz1, hz2⟩ := info_parts Eezg.info63
  obtain ⟨s, cap, h1, h2⟩ := ha
  have k1 := mc26
  have H := hid h
  clear h
  go_enter Eezg.func33, Eezg.ntmps33
  go_wp2
  refine wp_loop_rounds 2 ?_
  rw [rounds_succ]
  go_wp2_with fail
  refine (copy_any c base bs nl np va r ps w hb hp H.out).mono ?_
  rintro e x1 ⟨d, rfl, hf, be1⟩
  have B1 := hid be1
  clear hf be1
  go_wp2_with (at_builtin; refine wpList_append_lies _ rfl _ _ 65 rfl w.heap.size 63 i0 .nilIface 1 16 Eezg.underlying65 hi hz0 hz1 hz2 rfl (by decide) (.slice none 0 0) 0 [] rfl (World.ownsRow_nil _ _ _ _) ⟨x1.heap.size, 0, none⟩ 1 1 [.iface 26 (.pointer (some ⟨d, 0, none⟩))] rfl rfl (World.news_of_block (heap_alloc_new x1 _)) (by simp [Value.oneCell']) (by decide) (by unfold maxLen; decide) (by decide) (Nat.le_trans B1.out.size (by simp)) _ rfl ?_; intro g cap2 x2 hown2 hgrow2 hat2 hlt2)
  have HO := hid hown2
  have B2 : Hid (Below w.heap.size w x2) := (below_alloc B1.out _).grown hgrow2 (below_alloc B1.out _).size (by simp [Value.ownBlock])
  clear hown2 hgrow2 hat2 hlt2
  rw [rounds_succ]
  go_wp2
  go_ret
  exact ⟨x2.heap.size, d, rfl, ⟨g, cap2, cell_of_row _ _ 0 _ _ _ (heap_alloc_new x2 _), (HO.out.alloc _).cellAt 0 (by decide)⟩, below_alloc B2.out _⟩

theorem assert50 (a : Addr) (w : World) : (Instr.typeAssert (.iface 50 (.pointer (some a))) 63 50 false).run Eezg.prog w = .ok (.pointer (some a)) w := by kernel_rfl

set_option maxRecDepth 100000 in
theorem arrCopy_28 (p c base : Nat) (bs : List Int) (nl np : Int) (va : Bool) (r : Option Nat) (ps : List Value) (w : World) (hb : bs.length ≤ 1048576) (hp : ps.length ≤ 65536) (h : IsFn w base c bs nl np va r ps) (ha : Arr1 w p (.iface 26 (.pointer (some ⟨c, 0, none⟩)))) :
    Calls Eezg.prog 28 #[.pointer (some ⟨p, 0, none⟩)] w fun e w' => ∃ p' d, e = .returned (.pointer (some ⟨p', 0, none⟩)) ∧ Arr1 w' p' (.iface 26 (.pointer (some ⟨d, 0, none⟩))) ∧ Below w.heap.size w w' := by
  have H := hid h
  have HA := hid ha
  clear h ha
  have k1 := assert50
  go_enter Eezg.func28, Eezg.ntmps28
  go_wp2_with fail
  refine (arrCopy_32 p c base bs nl np va r ps w hb hp H.out HA.out).mono ?_
  rintro e x1 ⟨p', d, rfl, hf, be⟩
  have HF := hid hf
  have BE := hid be
  clear hf be
  go_wp2_with fail
  go_ret
  exact ⟨p', d, rfl, HF.out, BE.out⟩

set_option maxRecDepth 100000 in
theorem arrCopy_29 (p c base : Nat) (bs : List Int) (nl np : Int) (va : Bool) (r : Option Nat) (ps : List Value) (w : World) (hb : bs.length ≤ 1048576) (hp : ps.length ≤ 65536) (h : IsFn w base c bs nl np va r ps) (ha : Arr1 w p (.iface 26 (.pointer (some ⟨c, 0, none⟩)))) :
    Calls Eezg.prog 29 #[.pointer (some ⟨p, 0, none⟩)] w fun e w' => ∃ p' d, e = .returned (.pointer (some ⟨p', 0, none⟩)) ∧ Arr1 w' p' (.iface 26 (.pointer (some ⟨d, 0, none⟩))) ∧ Below w.heap.size w w' := by
  have H := hid h
  have HA := hid ha
  clear h ha
  have k1 := assert50
  go_enter Eezg.func29, Eezg.ntmps29
  go_wp2_with fail
  refine (arrCopy_33 p c base bs nl np va r ps w hb hp H.out HA.out).mono ?_
  rintro e x1 ⟨p', d, rfl, hf, be⟩
  have HF := hid hf
  have BE := hid be
  clear hf be
  go_wp2_with fail
  go_ret
  exact ⟨p', d, rfl, HF.out, BE.out⟩

end Go.Proofs.Yoeezw
