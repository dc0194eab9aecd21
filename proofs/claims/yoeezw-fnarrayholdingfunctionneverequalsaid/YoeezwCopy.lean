/-
  CompiledFunction.Copy (31), ZZCopyCF (20): a copy in new memory.
-/
import Derived.Test.YoeezwFn
import Derived.Deep.RegionHeld3
import Derived.Deep.RegionLaw
namespace Go.Proofs.Yoeezw
open Go.RowKit Go.Maps

theorem ownsRow_below {w w' : World} {base e n : Nat} {v : Value} {xs : List Value} (h : w.ownsRow base e 1 v n xs) (hb : Below w.heap.size w w') : w'.ownsRow base e 1 v n xs := by
  refine ⟨h.1, ?_⟩
  rcases h.2 with h2 | ⟨g, cap, cur, hv, hg, hh, r⟩
  · exact .inl h2
  · exact .inr ⟨g, cap, cur, hv, hg, by rw [hb.block g (lt_of_block hh)]; exact hh, r⟩

theorem ownsRow_base {w : World} {base base' e n : Nat} {v : Value} {xs : List Value} (h : w.ownsRow base e 1 v n xs) (hb : base' ≤ base) : w.ownsRow base' e 1 v n xs := by
  refine ⟨h.1, ?_⟩
  rcases h.2 with h2 | ⟨g, cap, cur, hv, hg, r⟩
  · exact .inl h2
  · exact .inr ⟨g, cap, cur, hv, Nat.le_trans hb hg, r⟩

/-- A slice that owns its row: nil, or the head of a block. -/
theorem ownsRow_slice {w : World} {base e n : Nat} {v : Value} {xs : List Value} (h : w.ownsRow base e 1 v n xs) : ∃ o cap, v = .slice o n cap := by
  rcases h.2 with ⟨rfl, rfl⟩ | ⟨g, cap, cur, rfl, _⟩
  · exact ⟨none, 0, rfl⟩
  · exact ⟨_, _, rfl⟩

theorem empty_owned {X : World} {base e g : Nat} (hg : X.heap[g]? = some (.cells #[] e (0, 0))) (hb : base ≤ g) : X.ownsRow base e 1 (.slice (some ⟨g, 0, none⟩) 0 0) 0 [] :=
  ⟨rfl, .inr ⟨g, 0, #[], rfl, hb, hg, Nat.le_refl _, Nat.zero_le _, rfl, rfl⟩⟩

/-- 'append(v, sv...)', both owned: nil, empty or not. -/
theorem run_append_two {P : Program} {w : World} (base sb : Nat) (t ty e : TypeId) (i : TypeInfo) (z : Value) (bytes : Nat) (ht : P.underlying t = some (.slice e)) (hi : P.info? e = some i) (hz : i.zero = some z)
    (hsize : i.size = 1) (hby : i.bytes = bytes) (hzs : z.cells.size = 1) (v : Value) (n : Nat) (xs : List Value) (hown : w.ownsRow base e 1 v n xs) (sv : Value) (m : Nat) (news : List Value) (hsrc : w.ownsRow sb e 1 sv m news)
    (h1 : ∀ u ∈ news, u.oneCell' = true) (h63 : n + m ≤ maxLen) (hbytes : (n + m) * bytes ≤ 140737488355328) (hbase : base ≤ w.heap.size) :
    ∃ o cap w', (Builtin.append_ #[t, t] ty #[v, sv]).run P w = .ok (.slice o (n + m) cap) w' ∧ w'.ownsRow base e 1 (.slice o (n + m) cap) (n + m) (xs ++ news) ∧ w.grownBy w' v.ownBlock := by
  rcases hsrc.2 with ⟨rfl, rfl⟩ | ⟨g, cap, cur, rfl, _⟩
  · have hr := run_append_owned_none (P := P) (w := w) base t ty e i 1 ht hi v n xs hown
    obtain rfl : news = [] := List.eq_nil_of_length_eq_zero (by simpa using hsrc.1)
    obtain ⟨o, cap, rfl⟩ := ownsRow_slice hown
    exact ⟨o, cap, w, hr, by simpa using hown, World.grownBy.refl _ _⟩
  · obtain ⟨v', w', hr, h2, h3, _⟩ := run_append_own (P := P) w base t ty e i z 1 bytes ht hi hz hsize hby hzs (by decide) v n xs hown ⟨g, 0, none⟩ m cap news hsrc.1 (hsrc.cells rfl) h1 h63 hbytes hbase
    obtain ⟨o, cap', rfl⟩ := ownsRow_slice h2
    exact ⟨o, cap', w', hr, h2, h3⟩

/-- 'append([]T{}, sv...)' as one step of a region that draws its order: the new slice owns a copy of what sv owns. -/
theorem step_append_copy {P : Program} {w : World} {ops : Array Oper} {o : Oper} {a : Act} {K : Act → World → Prop} {Q : Exit → Act → World → Prop} {E : Prop} (hgd : o.guard = none) (s x : Operand) (t : TypeId)
    (ho : o.op = .call { callee := .builtin .append, args := #[s, x], argTypes := #[t, t] })
    (base sb : Nat) (e : TypeId) (i : TypeInfo) (z : Value) (bytes : Nat) (ht : P.underlying t = some (.slice e)) (hi : P.info? e = some i) (hz : i.zero = some z)
    (hsize : i.size = 1) (hby : i.bytes = bytes) (hzs : z.cells.size = 1) (g : Nat) (hs : a.eval s = .slice (some ⟨g, 0, none⟩) 0 0) (hg : w.heap[g]? = some (.cells #[] e (0, 0))) (hbg : base ≤ g)
    (sv : Value) (m : Nat) (news : List Value) (hx : a.eval x = sv) (hsrc : w.ownsRow sb e 1 sv m news)
    (h1 : ∀ u ∈ news, u.oneCell' = true) (h63 : m ≤ maxLen) (hbytes : m * bytes ≤ 140737488355328) (hbase : base ≤ w.heap.size)
    (h : ∀ o' cap w', w'.ownsRow base e 1 (.slice o' m cap) m news → w.grownBy w' (some g) → K (a.put o.dst (.slice o' m cap)) w') :
    if Region.wanted o (yielded ops a.tmps) = true then Oper.wp P o a w K Q else E := by
  have hw : Region.wanted o (yielded ops a.tmps) = true := by simp [Region.wanted, hgd]
  rw [if_pos hw]
  obtain ⟨o', cap, w', hr, h2, h3⟩ := run_append_two (P := P) (w := w) base sb t o.type e i z bytes ht hi hz hsize hby hzs (.slice (some ⟨g, 0, none⟩) 0 0) 0 [] (empty_owned hg hbg) sv m news hsrc h1 (by omega) (by rw [Nat.zero_add]; exact hbytes) hbase
  rw [Nat.zero_add] at hr h2
  rw [List.nil_append] at h2
  unfold Oper.wp execOp
  simp only [ho, resolve, invoke, builtin, Sem.run_bind, Sem.run_pure, Result.andThen_ok, List.map_toArray, List.map_cons, List.map_nil, hs, hx, hr]
  exact h o' cap w' h2 h3

/-- A COMPILED FUNCTION IN MEMORY: its block, the row of its instructions, the row of its free variables. -/
def IsFn (w : World) (base c : Nat) (bs : List Int) (nl np : Int) (va : Bool) (r : Option Nat) (ps : List Value) : Prop :=
  ∃ oi ci fo cf, base ≤ c ∧ w.heap[c]? = some (fnCells oi bs.length ci nl np va r fo ps.length cf) ∧ w.ownsRow base 5 1 (.slice oi bs.length ci) bs.length (bs.map (Value.int .u8)) ∧
    w.ownsRow base 45 1 (.slice fo ps.length cf) ps.length ps ∧ ∀ v ∈ ps, ∃ a, v = .pointer a

/-- What Copy's loads read. -/
def CopyS (c : Nat) (oi : Option Addr) (ni ci : Nat) (nl np : Int) (va : Bool) (fo : Option Addr) (nf cf : Nat) (w w' : World) : Prop :=
  w'.cell? ⟨c, 0, none⟩ = some (.slice oi ni ci) ∧ w'.cell? ⟨c, 1, none⟩ = some (.int .i64 nl) ∧ w'.cell? ⟨c, 2, none⟩ = some (.int .i64 np) ∧ w'.cell? ⟨c, 3, none⟩ = some (.bool va) ∧
  w'.cell? ⟨c, 5, none⟩ = some (.slice fo nf cf) ∧ Below w.heap.size w w'

theorem copyS_of {w w' : World} {c : Nat} {oi : Option Addr} {ni ci : Nat} {nl np : Int} {va : Bool} {r : Option Nat} {fo : Option Addr} {nf cf : Nat} (h : w.heap[c]? = some (fnCells oi ni ci nl np va r fo nf cf)) (hb : Below w.heap.size w w') :
    CopyS c oi ni ci nl np va fo nf cf w w' := by
  have h' : w'.heap[c]? = some (fnCells oi ni ci nl np va r fo nf cf) := by rw [hb.block c (lt_of_block h)]; exact h
  unfold fnCells at h'
  refine ⟨?_, ?_, ?_, ?_, ?_, hb⟩ <;> simp [World.cell?, h']

theorem below_alloc {w X : World} (h : Below w.heap.size w X) (o : Obj) : Below w.heap.size w (X.alloc o) := h.alloc h.size o
theorem two_old (w : World) (a b : Obj) : ((w.alloc a).alloc b).heap[w.heap.size]? = some a := (Below.heap_alloc (w.alloc a) b w.heap.size (by simp)).trans (heap_alloc_new w a)
theorem two_new (w : World) (a b : Obj) : ((w.alloc a).alloc b).heap[w.heap.size + 1]? = some b := by
  have h := heap_alloc_new (w.alloc a) b
  have e : (w.alloc a).heap.size = w.heap.size + 1 := by simp
  rwa [e] at h
theorem below_grown {w X Y : World} {g : Nat} (h : Below w.heap.size w X) (hg : X.grownBy Y (some g)) (hb : w.heap.size ≤ g) : Below w.heap.size w Y :=
  h.grown hg h.size (fun k hk => by cases hk; exact hb)
/-- What is owned stays owned while a row of other elements is written. -/
theorem ownsRow_other {X Y : World} {b e e' n g : Nat} {v : Value} {xs : List Value} {cur : Array Value} (h : X.ownsRow b e 1 v n xs) (hg : X.heap[g]? = some (.cells cur e' (0, 0))) (he : e ≠ e') (hgr : X.grownBy Y (some g)) : Y.ownsRow b e 1 v n xs := by
  refine h.kept hgr ?_
  rcases h.2 with ⟨rfl, _⟩ | ⟨g', cap, cur', rfl, _, hh, _⟩
  · exact .inl rfl
  · refine .inr fun hk => ?_
    have : g' = g := by simpa [Value.ownBlock] using hk
    subst this
    rw [hh] at hg
    injection hg with hg
    injection hg with _ hg
    exact he hg
theorem ptrs_oneCell {ps : List Value} (h : ∀ v ∈ ps, ∃ a, v = .pointer a) : ∀ u ∈ ps, u.oneCell' = true := fun u hu => by
  obtain ⟨a, rfl⟩ := h u hu
  rfl

set_option maxRecDepth 100000 in
theorem copy_at (c base : Nat) (oi : Option Addr) (ci : Nat) (fo : Option Addr) (cf : Nat) (bs : List Int) (nl np : Int) (va : Bool) (r : Option Nat) (ps : List Value) (w : World) (hb : bs.length ≤ 1048576) (hp : ps.length ≤ 65536)
    (hc : w.heap[c]? = some (fnCells oi bs.length ci nl np va r fo ps.length cf)) (h5 : w.ownsRow base 5 1 (.slice oi bs.length ci) bs.length (bs.map (Value.int .u8))) (h45 : w.ownsRow base 45 1 (.slice fo ps.length cf) ps.length ps) (hps : ∀ v ∈ ps, ∃ a, v = .pointer a) :
    Calls Eezg.prog 31 #[.pointer (some ⟨c, 0, none⟩)] w fun e w' => ∃ d, e = .returned (.iface 26 (.pointer (some ⟨d, 0, none⟩))) ∧ IsFn w' w.heap.size d bs nl np va none ps ∧ Below w.heap.size w w' := by
  have hS : CopyS c oi bs.length ci nl np va fo ps.length cf w w := copyS_of hc (Below.refl _ _)
  have HC := hid hc
  have H5 := hid h5
  have H45 := hid h45
  clear hc h5 h45
  have hb5 : bs.length ≤ maxLen := by unfold maxLen; omega
  have hp5 : ps.length ≤ maxLen := by unfold maxLen; omega
  have hb6 : bs.length * 1 ≤ 140737488355328 := by omega
  have hp6 : ps.length * 8 ≤ 140737488355328 := by omega
  have HP := hid hps
  clear hps
  obtain ⟨i5, q1, q2, q3, q4⟩ := info_parts Eezg.info5
  obtain ⟨i45, t1, t2, t3, t4⟩ := info_parts Eezg.info45
  unfold CopyS at hS
  go_enter Eezg.func31, Eezg.ntmps31
  go_wp2
  go_region_held3 (fun w' => w'.cell? ⟨c, 0, none⟩ = some (.slice oi bs.length ci) ∧ w'.cell? ⟨c, 1, none⟩ = some (.int .i64 nl) ∧ w'.cell? ⟨c, 2, none⟩ = some (.int .i64 np) ∧ w'.cell? ⟨c, 3, none⟩ = some (.bool va) ∧
      w'.cell? ⟨c, 5, none⟩ = some (.slice fo ps.length cf) ∧ Below w.heap.size w w') ((refine copyS_of HC.out ?_; first | exact (Below.refl _ _).drew | (go_split_ands; first | assumption | exact below_alloc (by assumption) _)))
    (first
      | (refine step_append_copy (by rfl) (.tmp 3) (.tmp 7) 31 (by rfl) w.heap.size base 5 i5 (.int .u8 0) 1 Eezg.underlying31 q1 q2 q3 q4 (by rfl) w.heap.size (by rfl) (by exact heap_alloc_new w _) (Nat.le_refl _) (.slice oi bs.length ci) bs.length (bs.map (Value.int .u8)) (by rfl) (ownsRow_below H5.out (by exact (below_alloc (Below.refl w.heap.size w) _).drew)) (ints_oneCell _ _) hb5 hb6 (by exact ((below_alloc (Below.refl w.heap.size w) _).drew).size) ?_; intro o1 cap1 w1 hown1 hgrow1; have be1 : Below w.heap.size w w1 := below_grown ((below_alloc (Below.refl w.heap.size w) _).drew) hgrow1 (Nat.le_refl _))
      | (refine step_append_copy (by rfl) (.tmp 3) (.tmp 7) 31 (by rfl) w.heap.size base 5 i5 (.int .u8 0) 1 Eezg.underlying31 q1 q2 q3 q4 (by rfl) w.heap.size (by rfl) (by exact two_old w _ _) (Nat.le_refl _) (.slice oi bs.length ci) bs.length (bs.map (Value.int .u8)) (by rfl) (ownsRow_below H5.out (by exact (below_alloc (below_alloc (Below.refl w.heap.size w) _) _).drew)) (ints_oneCell _ _) hb5 hb6 (by exact ((below_alloc (below_alloc (Below.refl w.heap.size w) _) _).drew).size) ?_; intro o1 cap1 w1 hown1 hgrow1; have be1 : Below w.heap.size w w1 := below_grown ((below_alloc (below_alloc (Below.refl w.heap.size w) _) _).drew) hgrow1 (Nat.le_refl _); have hB1 : w1.heap[w.heap.size + 1]? = some (.cells #[] 45 (0, 0)) := by have hq := hgrow1.block (w.heap.size + 1) (by simp) (by simp); exact hq.trans (two_new w _ _))
      | (refine step_append_copy (by rfl) (.tmp 3) (.tmp 7) 31 (by rfl) w.heap.size base 5 i5 (.int .u8 0) 1 Eezg.underlying31 q1 q2 q3 q4 (by rfl) (w.heap.size + 1) (by rfl) (by exact two_new w _ _) (Nat.le_succ _) (.slice oi bs.length ci) bs.length (bs.map (Value.int .u8)) (by rfl) (ownsRow_below H5.out (by exact (below_alloc (below_alloc (Below.refl w.heap.size w) _) _).drew)) (ints_oneCell _ _) hb5 hb6 (by exact ((below_alloc (below_alloc (Below.refl w.heap.size w) _) _).drew).size) ?_; intro o1 cap1 w1 hown1 hgrow1; have be1 : Below w.heap.size w w1 := below_grown ((below_alloc (below_alloc (Below.refl w.heap.size w) _) _).drew) hgrow1 (Nat.le_succ _); have hB1 : w1.heap[w.heap.size]? = some (.cells #[] 45 (0, 0)) := by have hq := hgrow1.block w.heap.size (by simp; omega) (by simp); exact hq.trans (two_old w _ _))
      | (refine step_append_copy (by rfl) (.tmp 21) (.tmp 25) 32 (by rfl) w.heap.size base 45 i45 (.pointer none) 8 Eezg.underlying32 t1 t2 t3 t4 (by rfl) w1.heap.size (by rfl) (by exact heap_alloc_new w1 _) be1.size (.slice fo ps.length cf) ps.length ps (by rfl) (ownsRow_below H45.out (by exact below_alloc be1 _)) (ptrs_oneCell HP.out) hp5 hp6 (by exact (below_alloc be1 _).size) ?_; intro o2 cap2 w2 hown2 hgrow2; have be2 : Below w.heap.size w w2 := below_grown (below_alloc be1 _) hgrow2 be1.size; have hown3 := ownsRow_other (hown1.alloc _) (heap_alloc_new w1 _) (by decide) hgrow2)
      | (refine step_append_copy (by rfl) (.tmp 21) (.tmp 25) 32 (by rfl) w.heap.size base 45 i45 (.pointer none) 8 Eezg.underlying32 t1 t2 t3 t4 (by rfl) (w.heap.size + 1) (by rfl) (by exact hB1) (Nat.le_succ _) (.slice fo ps.length cf) ps.length ps (by rfl) (ownsRow_below H45.out (by exact be1)) (ptrs_oneCell HP.out) hp5 hp6 (by exact (be1).size) ?_; intro o2 cap2 w2 hown2 hgrow2; have be2 : Below w.heap.size w w2 := below_grown (be1) hgrow2 (Nat.le_succ _); have hown3 := ownsRow_other (hown1) (hB1) (by decide) hgrow2)
      | (refine step_append_copy (by rfl) (.tmp 21) (.tmp 25) 32 (by rfl) w.heap.size base 45 i45 (.pointer none) 8 Eezg.underlying32 t1 t2 t3 t4 (by rfl) w.heap.size (by rfl) (by exact hB1) (Nat.le_refl _) (.slice fo ps.length cf) ps.length ps (by rfl) (ownsRow_below H45.out (by exact be1)) (ptrs_oneCell HP.out) hp5 hp6 (by exact (be1).size) ?_; intro o2 cap2 w2 hown2 hgrow2; have be2 : Below w.heap.size w w2 := below_grown (be1) hgrow2 (Nat.le_refl _); have hown3 := ownsRow_other (hown1) (hB1) (by decide) hgrow2))
  all_goals
    go_wp2
    go_ret
    exact ⟨w2.heap.size, rfl, ⟨o1, cap1, o2, cap2, be2.size, heap_alloc_new w2 _, hown3.alloc _, hown2.alloc _, HP.out⟩, below_alloc be2 _⟩

theorem copy_any (c base : Nat) (bs : List Int) (nl np : Int) (va : Bool) (r : Option Nat) (ps : List Value) (w : World) (hb : bs.length ≤ 1048576) (hp : ps.length ≤ 65536) (h : IsFn w base c bs nl np va r ps) :
    Calls Eezg.prog 31 #[.pointer (some ⟨c, 0, none⟩)] w fun e w' => ∃ d, e = .returned (.iface 26 (.pointer (some ⟨d, 0, none⟩))) ∧ IsFn w' w.heap.size d bs nl np va none ps ∧ Below w.heap.size w w' := by
  obtain ⟨oi, ci, fo, cf, _, hc, h5, h45, hps⟩ := h
  exact copy_at c base oi ci fo cf bs nl np va r ps w hb hp hc h5 h45 hps

theorem assert26 (a : Addr) (w : World) : (Instr.typeAssert (.iface 26 (.pointer (some a))) 63 26 false).run Eezg.prog w = .ok (.pointer (some a)) w := by kernel_rfl

set_option maxRecDepth 100000 in
/-- ZZCopyCF: a copy of a compiled function: all of it in new memory, no source map. -/
theorem zzCopy_any (c base : Nat) (bs : List Int) (nl np : Int) (va : Bool) (r : Option Nat) (ps : List Value) (w : World) (hb : bs.length ≤ 1048576) (hp : ps.length ≤ 65536) (h : IsFn w base c bs nl np va r ps) :
    Calls Eezg.prog 20 #[.pointer (some ⟨c, 0, none⟩)] w fun e w' => ∃ d, e = .returned (.pointer (some ⟨d, 0, none⟩)) ∧ IsFn w' w.heap.size d bs nl np va none ps ∧ Below w.heap.size w w' := by
  have H := hid h
  clear h
  have hta := assert26
  go_enter Eezg.func20, Eezg.ntmps20
  go_wp2_with fail
  refine (copy_any c base bs nl np va r ps w hb hp H.out).mono ?_
  rintro e w' ⟨d, rfl, hf, be⟩
  have HF := hid hf
  have BE := hid be
  clear hf be
  go_wp2_with fail
  go_ret
  exact ⟨d, rfl, HF.out, BE.out⟩

/-- newFn, over a row of bytes that is owned. -/
theorem newFn_any (base : Nat) (oi : Option Addr) (ci : Nat) (bs : List Int) (nl np : Int) (va : Bool) (nf : Int) (r : Option Nat) (w : World) (hle : nf ≤ 65536) (hbase : base ≤ w.heap.size) (h5 : w.ownsRow base 5 1 (.slice oi bs.length ci) bs.length (bs.map (Value.int .u8))) :
    Calls Eezg.prog 19 #[.slice oi bs.length ci, .int .i64 nl, .int .i64 np, .bool va, .int .i64 nf, .map r] w fun e w' =>
      ∃ c ps, e = .returned (.pointer (some ⟨c, 0, none⟩)) ∧ ps.length = nf.toNat ∧ IsFn w' base c bs nl np va r ps ∧ Below w.heap.size w w' := by
  by_cases h : 0 < nf
  · obtain ⟨k, rfl⟩ := Int.eq_ofNat_of_zero_le (show 0 ≤ nf by omega)
    refine (newFn_some oi bs.length ci nl np va k r w (by omega) (by omega)).mono ?_
    rintro e w' ⟨c, ps, rfl, hc, hh, hown, hps, be⟩
    have hl : ps.length = k := by simpa using hown.1
    subst hl
    exact ⟨c, ps, rfl, by simp, ⟨oi, ci, _, _, Nat.le_trans hbase hc, hh, ownsRow_below h5 be, ownsRow_base hown hbase, hps⟩, be⟩
  · refine (newFn_none oi bs.length ci nl np va nf r w h).mono ?_
    rintro e w' ⟨rfl, rfl⟩
    exact ⟨w.heap.size, [], rfl, by simp; omega, ⟨oi, ci, none, 0, hbase, heap_alloc_new w _, h5.alloc _, World.ownsRow_nil _ _ _ _, by simp⟩, (Below.refl _ _).alloc (Nat.le_refl _) _⟩

/-- cloneBytes: what comes back owns the same bytes. -/
theorem cloneBytes_own (o : Option Addr) (len cap : Nat) (zs : List Int) (w : World) (hlen : len ≤ 1048576) (ho : o = none → len = 0 ∧ cap = 0) (h : Rd .u8 w o len zs) :
    Calls Eezg.prog 18 #[.slice o len cap] w fun e w' => ∃ o' cap', e = .returned (.slice o' len cap') ∧ (o' = none → len = 0 ∧ cap' = 0) ∧ w'.ownsRow w.heap.size 5 1 (.slice o' len cap') len (zs.map (Value.int .u8)) ∧ Below w.heap.size w w' := by
  cases o with
  | none =>
    obtain ⟨rfl, rfl⟩ := ho rfl
    obtain rfl : zs = [] := List.eq_nil_of_length_eq_zero h.1
    exact (cloneBytes_nil w).mono (fun e w' ⟨he, hw⟩ => ⟨none, 0, he, fun _ => ⟨rfl, rfl⟩, World.ownsRow_nil _ _ _ _, by rw [hw]; exact Below.refl _ _⟩)
  | some x => exact (cloneBytes_some x len cap zs w hlen h).mono (fun e w' ⟨he, hown, hb⟩ => ⟨some ⟨w.heap.size, 0, none⟩, len, he, (fun h => by cases h), hown, hb⟩)

end Go.Proofs.Yoeezw
