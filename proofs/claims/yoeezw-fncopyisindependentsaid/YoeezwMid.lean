/-
  For FnCopyIsIndependent: what holds of the other blocks while the blocks of one copy are written.
-/
import Derived.Test.YoeezwWalkD
namespace Go.Proofs.Yoeezw
open Go.RowKit Go.Maps
set_option linter.unusedVariables false

/-- From block lo up to block hi alone anything has turned. -/
structure Mid (lo hi : Nat) (w w' : World) : Prop where
  os : w'.os = w.os
  tape : w'.tape = w.tape
  output : w'.output = w.output
  size : w'.heap.size = w.heap.size
  block : ∀ k, k < lo ∨ hi ≤ k → w'.heap[k]? = w.heap[k]?

theorem Mid.refl (lo hi : Nat) (w : World) : Mid lo hi w w := ⟨rfl, rfl, rfl, rfl, fun _ _ => rfl⟩
theorem Mid.drew {lo hi : Nat} {a w : World} (h : Mid lo hi a w) : Mid lo hi a w.drew := ⟨h.os, h.tape, h.output, h.size, h.block⟩
theorem Mid.drewN {lo hi : Nat} {a w : World} (h : Mid lo hi a w) (n : Nat) : Mid lo hi a (w.drewN n) := ⟨h.os, h.tape, h.output, h.size, h.block⟩
theorem Mid.setCell {lo hi : Nat} {a w : World} (h : Mid lo hi a w) {p : Addr} (h1 : lo ≤ p.block) (h2 : p.block < hi) (u : Value) : Mid lo hi a (w.setCell p u) :=
  ⟨h.os, h.tape, h.output, by rw [← h.size]; simp [World.setCell], fun k hk => (Below.heap_setCell w p u k (by omega)).trans (h.block k hk)⟩
theorem Mid.below {lo hi : Nat} {a w : World} (h : Mid lo hi a w) : Below lo a w := ⟨h.os, h.tape, h.output, Nat.le_of_eq h.size.symm, fun k hk => h.block k (.inl hk)⟩

theorem Mid.owns {lo hi : Nat} {a w : World} (h : Mid lo hi a w) {base e n c : Nat} {o : Option Addr} {xs : List Value} (ho : a.ownsRow base e 1 (.slice o n c) n xs) (hk : ∀ g, o = some ⟨g, 0, none⟩ → g < lo ∨ hi ≤ g) : w.ownsRow base e 1 (.slice o n c) n xs := by
  refine ⟨ho.1, ?_⟩
  rcases ho.2 with h2 | ⟨g, cap, cur, hv, hg, hh, r⟩
  · exact .inl h2
  · refine .inr ⟨g, cap, cur, hv, hg, ?_, r⟩
    injection hv with e1
    rw [h.block g (hk g e1)]
    exact hh

/-- The copy whose bytes and free variables are written. -/
structure Wr (B4 B5 d : Nat) (oi : Option Addr) (n ci : Nat) (nl : Int) (fo : Option Addr) (k cf : Nat) (x6 wr : World) (zs : List Int) (ps : List Value) : Prop where
  blk : wr.heap[d]? = some (fnCells oi n ci nl 0 false none fo k cf)
  ld : B4 ≤ d
  hd : d < B5
  row : wr.ownsRow B4 5 1 (.slice oi n ci) n (zs.map (Value.int .u8))
  free : wr.ownsRow B4 45 1 (.slice fo k cf) k ps
  rlt : ∀ g, oi = some ⟨g, 0, none⟩ → g < B5
  flt : ∀ g, fo = some ⟨g, 0, none⟩ → g < B5
  mid : Mid B4 B5 x6 wr

theorem Wr.drewN {B4 B5 d : Nat} {oi : Option Addr} {n ci : Nat} {nl : Int} {fo : Option Addr} {k cf : Nat} {x6 wr : World} {zs : List Int} {ps : List Value} (h : Wr B4 B5 d oi n ci nl fo k cf x6 wr zs ps) (m : Nat) :
    Wr B4 B5 d oi n ci nl fo k cf x6 (wr.drewN m) zs ps := ⟨h.blk, h.ld, h.hd, h.row, h.free, h.rlt, h.flt, h.mid.drewN m⟩
theorem Wr.drew {B4 B5 d : Nat} {oi : Option Addr} {n ci : Nat} {nl : Int} {fo : Option Addr} {k cf : Nat} {x6 wr : World} {zs : List Int} {ps : List Value} (h : Wr B4 B5 d oi n ci nl fo k cf x6 wr zs ps) :
    Wr B4 B5 d oi n ci nl fo k cf x6 wr.drew zs ps := ⟨h.blk, h.ld, h.hd, h.row, h.free, h.rlt, h.flt, h.mid.drew⟩

theorem map_set_int (zs : List Int) (j : Nat) (y : Int) : (zs.map (Value.int .u8)).set j (.int .u8 y) = (zs.set j y).map (Value.int .u8) := by
  rw [List.map_set]

/-- A byte of the copy is written. -/
theorem Wr.byte {B4 B5 d : Nat} {n ci : Nat} {nl : Int} {fo : Option Addr} {k cf g : Nat} {x6 wr : World} {zs : List Int} {ps : List Value} (h : Wr B4 B5 d (some ⟨g, 0, none⟩) n ci nl fo k cf x6 wr zs ps) (j : Nat) (y : Int) :
    Wr B4 B5 d (some ⟨g, 0, none⟩) n ci nl fo k cf x6 (wr.setCell ⟨g, j, none⟩ (.int .u8 y)) (zs.set j y) ps := by
  have hst := h.row.stored j (.int .u8 y)
  rw [map_set_int] at hst
  obtain ⟨cur, hcur⟩ : ∃ cur, wr.heap[g]? = some (.cells cur 5 (0, 0)) := by
    rcases h.row.2 with ⟨hv, _⟩ | ⟨g', cap, cur, hv, _, hh, _⟩
    · cases hv
    · injection hv with e1
      injection e1 with e1
      injection e1 with e1
      subst e1
      exact ⟨cur, hh⟩
  have hne : d ≠ g := fun e => by
    subst e
    have hh := h.blk
    rw [hcur] at hh
    unfold fnCells at hh
    injection hh with hh
    injection hh with _ hh
    cases hh
  refine ⟨(Below.heap_setCell wr _ _ d hne).trans h.blk, h.ld, h.hd, hst.1, ownsRow_other h.free hcur (by decide) hst.2, h.rlt, h.flt, h.mid.setCell ?_ (h.rlt g rfl) _⟩
  exact (h.row.lt g rfl).1

/-- A free variable of the copy is written. -/
theorem Wr.ptr {B4 B5 d : Nat} {oi : Option Addr} {n ci : Nat} {nl : Int} {k cf g : Nat} {x6 wr : World} {zs : List Int} {ps : List Value} (h : Wr B4 B5 d oi n ci nl (some ⟨g, 0, none⟩) k cf x6 wr zs ps) (j : Nat) (y : Value) :
    Wr B4 B5 d oi n ci nl (some ⟨g, 0, none⟩) k cf x6 (wr.setCell ⟨g, j, none⟩ y) zs (ps.set j y) := by
  have hst := h.free.stored j y
  obtain ⟨cur, hcur⟩ : ∃ cur, wr.heap[g]? = some (.cells cur 45 (0, 0)) := by
    rcases h.free.2 with ⟨hv, _⟩ | ⟨g', cap, cur, hv, _, hh, _⟩
    · cases hv
    · injection hv with e1
      injection e1 with e1
      injection e1 with e1
      subst e1
      exact ⟨cur, hh⟩
  have hne : d ≠ g := fun e => by
    subst e
    have hh := h.blk
    rw [hcur] at hh
    unfold fnCells at hh
    injection hh with hh
    injection hh with _ hh
    cases hh
  refine ⟨(Below.heap_setCell wr _ _ d hne).trans h.blk, h.ld, h.hd, ownsRow_other h.row hcur (by decide) hst.2, hst.1, h.rlt, h.flt, h.mid.setCell ?_ (h.flt g rfl) _⟩
  exact (h.free.lt g rfl).1

/-- The copy's count is written. -/
theorem Wr.count {B4 B5 d : Nat} {oi : Option Addr} {n ci : Nat} {nl : Int} {fo : Option Addr} {k cf : Nat} {x6 wr : World} {zs : List Int} {ps : List Value} (h : Wr B4 B5 d oi n ci nl fo k cf x6 wr zs ps) (y : Int) :
    Wr B4 B5 d oi n ci y fo k cf x6 (wr.setCell ⟨d, 1, none⟩ (.int .i64 y)) zs ps := by
  have hb : wr.heap[d]? = some (.cells #[.slice oi n ci, .int .i64 nl, .int .i64 0, .bool false, .map none, .slice fo k cf] 34 (0, 0)) := h.blk
  have hst := heap_setCell_same wr d 1 _ 34 (.int .i64 y) hb
  have hgr : wr.grownBy (wr.setCell ⟨d, 1, none⟩ (.int .i64 y)) (some d) := ⟨rfl, rfl, rfl, by simp, fun k _ hk => Below.heap_setCell wr _ _ k (fun e => hk (by rw [e]))⟩
  exact ⟨hst, h.ld, h.hd, ownsRow_other h.row hb (by decide) hgr, ownsRow_other h.free hb (by decide) hgr, h.rlt, h.flt, h.mid.setCell h.ld h.hd _⟩

theorem Wr.frozen {B4 B5 d : Nat} {oi : Option Addr} {n ci : Nat} {nl : Int} {fo : Option Addr} {k cf : Nat} {x6 wr : World} {zs : List Int} {ps : List Value} (h : Wr B4 B5 d oi n ci nl fo k cf x6 wr zs ps) : wr.frozen? ⟨d, 1, none⟩ = false :=
  frozen_of_row wr d 1 _ 34 h.blk

/-- A row that is owned, as the walk reads it. -/
theorem rd_own {k : IntKind} {w : World} {base e n c : Nat} {o : Option Addr} {zs : List Int} (h : w.ownsRow base e 1 (.slice o n c) n (zs.map (Value.int k))) (hw : ∀ v ∈ zs, (Lit.int k v).wf = true) : Rd k w o n zs := by
  have hl : zs.length = n := by simpa using h.1
  refine ⟨hl, hw, ?_⟩
  by_cases h0 : n = 0
  · exact .inl h0
  · obtain ⟨g, rfl, _, hlt, _⟩ := row_at h 0 (by omega)
    refine .inr ⟨g, 0, rfl, hlt, fun i hi => ?_⟩
    obtain ⟨g', he, _, _, hc, _⟩ := row_at h i hi
    injection he with he
    injection he with he
    subst he
    rw [Nat.zero_add, hc, bytes_at i (by omega)]

end Go.Proofs.Yoeezw
