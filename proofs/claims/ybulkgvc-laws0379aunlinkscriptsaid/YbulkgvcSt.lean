/-
  The state of LawS0379AUnlinkScript: the pool, the nodes, the marks, the model.
-/
import Derived.Test.YbulkgvcCheck
import Derived.Maps.AppendAt
namespace Go.Proofs.Ybulkgvc
open Go.RowKit
set_option linter.unusedVariables false
set_option linter.unusedSimpArgs false

theorem below_grownBy {w w' : World} (h : Below w.heap.size w w') : w.grownBy w' none := ⟨h.os, h.tape, h.output, h.size, fun k hk _ => h.block k hk⟩
theorem blk_lt {w : World} {b : Nat} {o : Obj} (h : w.heap[b]? = some o) : b < w.heap.size := (Array.getElem?_eq_some_iff.1 h).1

/-! ### a row of ints -/
def ints (L : List Nat) : List Value := L.map fun i : Nat => .int .i64 (i : Int)
def Row (B : Nat) (w : World) (g cap : Nat) (L : List Nat) : Prop := w.ownsRow B 3 1 (.slice (some ⟨g, 0, none⟩) L.length cap) L.length (ints L)
theorem Row.blk {B : Nat} {w : World} {g cap : Nat} {L : List Nat} (h : Row B w g cap L) : B ≤ g ∧ ∃ cur, w.heap[g]? = some (.cells cur 3) := by
  obtain ⟨_, h2 | ⟨g', cap', cur, h2, h3, h4, _⟩⟩ := h
  · simp at h2
  · simp at h2
    obtain ⟨rfl, rfl⟩ := h2
    exact ⟨h3, cur, h4⟩
theorem Row.same {B : Nat} {w w' : World} {g cap : Nat} {L : List Nat} (h : Row B w g cap L) (e : w'.heap[g]? = w.heap[g]?) : Row B w' g cap L := by
  obtain ⟨h1, h2 | ⟨g', cap', cur, h2, h3, h4, h5⟩⟩ := h
  · simp at h2
  · have h2' := h2
    simp at h2
    obtain ⟨rfl, rfl⟩ := h2
    exact ⟨h1, .inr ⟨g, cap, cur, h2', h3, e.trans h4, h5⟩⟩
theorem Row.cell {B : Nat} {w : World} {g cap : Nat} {L : List Nat} (h : Row B w g cap L) (j x : Nat) (hx : L[j]? = some x) : w.cell? ⟨g, j, none⟩ = some (.int .i64 (x : Int)) := by
  have hj := (List.getElem?_eq_some_iff.1 hx).1
  rw [World.ownsRow.cellAt h j (by omega)]
  simp [ints, hx]
theorem Row.zero {B : Nat} {w : World} {g cap : Nat} {L : List Nat} (h : Row B w g cap L) : Row 0 w g cap L := by
  obtain ⟨h1, h2 | ⟨g', cap', cur, h2, h3, h4, h5⟩⟩ := h
  · simp at h2
  · exact ⟨h1, .inr ⟨g', cap', cur, h2, Nat.zero_le _, h4, h5⟩⟩
theorem Row.below {B : Nat} {w w' : World} {g cap : Nat} {L : List Nat} (h : Row B w g cap L) (hb : Below w.heap.size w w') : Row B w' g cap L := by
  obtain ⟨_, cur, h1⟩ := h.blk
  exact h.same (hb.block g (blk_lt h1))

/-! ### the state -/
structure St (w0 w : World) (P N I m : Nat) (c : Nat → Nat) (n : Nat) (s : Lk) (D : Nat → Bool) : Prop where
  below : Below w0.heap.size w0 w
  base : w0.heap.size ≤ P ∧ w0.heap.size ≤ N ∧ w0.heap.size ≤ I ∧ ∀ i, i < n → w0.heap.size ≤ c i
  rep : Rep w P c n s
  nodes : ∃ cur, w.heap[N]? = some (.cells cur 28) ∧ cur.size = m ∧ ∀ i, i < n → cur[i]? = some (ptr c (some i))
  ins : ∃ cur, w.heap[I]? = some (.cells cur 4) ∧ ∀ i, i < m → cur[i]? = some (.bool (D i))

theorem Rep.below {w w' : World} {P n : Nat} {c : Nat → Nat} {s : Lk} (h : Rep w P c n s) (hb : Below w.heap.size w w') : Rep w' P c n s := by
  obtain ⟨c1, h1, h2⟩ := h.pool
  refine ⟨⟨c1, (hb.block P (blk_lt h1)).trans h1, h2⟩, fun i hi => ?_, h.inj⟩
  obtain ⟨c2, g1, g2⟩ := h.node i hi
  exact ⟨c2, (hb.block _ (blk_lt g1)).trans g1, g2⟩
theorem Turn.below {P : Nat} {c : Nat → Nat} {n : Nat} {w w' : World} (h : Turn P c n w w') {B : Nat} (hP : B ≤ P) (hc : ∀ i, i < n → B ≤ c i) : Below B w w' :=
  ⟨h.os, h.tape, h.output, by rw [h.size]; exact Nat.le_refl _, fun k hk => h.block k (by omega) (fun i hi => by have := hc i hi; omega)⟩

section
variable {w0 w w' : World} {P N I m n : Nat} {c : Nat → Nat} {s s' : Lk} {D : Nat → Bool}
theorem St.grown (h : St w0 w P N I m c n s D) (hb : Below w.heap.size w w') : St w0 w' P N I m c n s D := by
  obtain ⟨c1, g1, g2⟩ := h.nodes
  obtain ⟨c2, f1, f2⟩ := h.ins
  exact ⟨h.below.trans (hb.mono h.below.size), h.base, h.rep.below hb, ⟨c1, (hb.block _ (blk_lt g1)).trans g1, g2⟩, ⟨c2, (hb.block _ (blk_lt f1)).trans f1, f2⟩⟩
theorem St.out (h : St w0 w P N I m c n s D) {b : Nat} {cur : Array Value} {t : TypeId} (hb : w.heap[b]? = some (.cells cur t)) (h1 : t ≠ 49) (h2 : t ≠ 36) : b ≠ P ∧ ∀ i, i < n → b ≠ c i := by
  refine ⟨fun e => ?_, fun i hi e => ?_⟩
  · obtain ⟨c1, g1, _⟩ := h.rep.pool
    rw [← e, hb] at g1
    simp at g1
    exact h1 g1.2
  · obtain ⟨c1, g1, _⟩ := h.rep.node i hi
    rw [← e, hb] at g1
    simp at g1
    exact h2 g1.2
theorem St.turn (h : St w0 w P N I m c n s D) (hr : Rep w' P c n s') (ht : Turn P c n w w') : St w0 w' P N I m c n s' D := by
  obtain ⟨c1, g1, g2⟩ := h.nodes
  obtain ⟨c2, f1, f2⟩ := h.ins
  have e1 := h.out g1 (by decide) (by decide)
  have e2 := h.out f1 (by decide) (by decide)
  exact ⟨h.below.trans (ht.below h.base.1 h.base.2.2.2), h.base, hr, ⟨c1, (ht.block _ e1.1 e1.2).trans g1, g2⟩, ⟨c2, (ht.block _ e2.1 e2.2).trans f1, f2⟩⟩
theorem Row.turn {B g cap : Nat} {L : List Nat} (h : Row B w g cap L) (st : St w0 w P N I m c n s D) (ht : Turn P c n w w') : Row B w' g cap L := by
  obtain ⟨_, cur, h1⟩ := h.blk
  have e1 := st.out h1 (by decide) (by decide)
  exact h.same (ht.block _ e1.1 e1.2)

theorem St.cellN (h : St w0 w P N I m c n s D) (i : Nat) (hi : i < n) : w.cell? ⟨N, i, none⟩ = some (ptr c (some i)) := by
  obtain ⟨c1, g1, _, g2⟩ := h.nodes
  rw [blk_cell g1, g2 i hi]
theorem St.cellI (h : St w0 w P N I m c n s D) (i : Nat) (hi : i < m) : w.cell? ⟨I, i, none⟩ = some (.bool (D i)) ∧ w.frozen? ⟨I, i, none⟩ = false := by
  obtain ⟨c1, g1, g2⟩ := h.ins
  exact ⟨by rw [blk_cell g1, g2 i hi], blk_free g1 i⟩

def setB (D : Nat → Bool) (k : Nat) (b : Bool) : Nat → Bool := fun i => if i = k then b else D i
theorem St.neq (h : St w0 w P N I m c n s D) : N ≠ I ∧ P ≠ I ∧ ∀ i, i < n → c i ≠ I := by
  obtain ⟨c1, g1, _⟩ := h.nodes
  obtain ⟨c2, f1, _⟩ := h.ins
  have e2 := h.out f1 (by decide) (by decide)
  refine ⟨fun e => ?_, fun e => e2.1 e.symm, fun i hi e => e2.2 i hi e.symm⟩
  rw [e, f1] at g1
  simp at g1
theorem St.setIn (h : St w0 w P N I m c n s D) (k : Nat) (hk : k < m) (b : Bool) : St w0 (w.setCell ⟨I, k, none⟩ (.bool b)) P N I m c n s (setB D k b) := by
  obtain ⟨c1, g1, g2⟩ := h.nodes
  obtain ⟨c2, f1, f2⟩ := h.ins
  obtain ⟨e1, e2, e3⟩ := h.neq
  refine ⟨h.below.setCell (by simpa using h.base.2.2.1) _, h.base, ?_, ⟨c1, (heap_setCell_other w _ N _ e1).trans g1, g2⟩, ⟨_, heap_setCell_same w I k c2 4 _ f1, fun i hi => ?_⟩⟩
  · obtain ⟨c3, p1, p2⟩ := h.rep.pool
    refine ⟨⟨c3, (heap_setCell_other w _ P _ e2).trans p1, p2⟩, fun i hi => ?_, h.rep.inj⟩
    obtain ⟨c4, q1, q2⟩ := h.rep.node i hi
    exact ⟨c4, (heap_setCell_other w _ (c i) _ (e3 i hi)).trans q1, q2⟩
  · have hs : k < c2.size := (Array.getElem?_eq_some_iff.1 (f2 k hk)).1
    rw [Array.getElem?_setIfInBounds]
    by_cases e : k = i
    · subst e; simp [setB, hs]
    · rw [if_neg e, f2 i hi]
      have e' : i ≠ k := fun x => e x.symm
      simp [setB, e']
theorem Row.setIn {B g cap : Nat} {L : List Nat} (h : Row B w g cap L) (st : St w0 w P N I m c n s D) (k : Nat) (v : Value) : Row B (w.setCell ⟨I, k, none⟩ v) g cap L := by
  obtain ⟨_, cur, h1⟩ := h.blk
  obtain ⟨c2, f1, f2⟩ := st.ins
  refine h.same (heap_setCell_other w _ g _ (fun e => ?_))
  simp at e
  rw [e, f1] at h1
  simp at h1

/-- A node more. -/
def ext (c : Nat → Nat) (n b : Nat) : Nat → Nat := fun i => if i = n then b else c i
theorem ext_same (c : Nat → Nat) (n b : Nat) : ext c n b n = b := by simp [ext]
theorem ext_other {c : Nat → Nat} {n b i : Nat} (h : i ≠ n) : ext c n b i = c i := by simp [ext, h]
theorem ptr_ext {c : Nat → Nat} {n b : Nat} {o : Option Nat} (h : ∀ y, o = some y → y < n) : ptr (ext c n b) o = ptr c o := by
  cases o with
  | none => rfl
  | some y =>
    have := h y rfl
    simp [ptr, ext_other (show y ≠ n by omega)]
def Lk.fresh (s : Lk) (n : Nat) : Lk := ⟨s.newest, s.oldest, setAt s.newer n none, setAt s.older n none⟩
def nodeCells (n : Nat) : Array Value := #[.pointer none, .int .i64 0, .slice none 0 0, .slice none 0 0, .int .i64 (n : Int), .pointer none, .pointer none]
theorem St.more (h : St w0 w P N I m c n s D) (hn : n < m) (h1 : ∀ y, s.newest = some y → y < n) (h2 : ∀ y, s.oldest = some y → y < n) (h3 : ∀ i, i < n → (∀ y, s.newer i = some y → y < n) ∧ (∀ y, s.older i = some y → y < n)) :
    St w0 ((w.alloc (.cells (nodeCells n) 36)).setCell ⟨N, n, none⟩ (.pointer (some ⟨w.heap.size, 0, none⟩))) P N I m (ext c n w.heap.size) (n + 1) (s.fresh n) D := by
  have ha : Below w.heap.size w (w.alloc (.cells (nodeCells n) 36)) := (Below.refl _ _).alloc (Nat.le_refl _) _
  have hN := heap_alloc_new w (.cells (nodeCells n) 36)
  have ht := h.grown ha
  obtain ⟨c1, g1, gs, g2⟩ := ht.nodes
  obtain ⟨c2, f1, f2⟩ := ht.ins
  obtain ⟨c3, p1, p2, p3⟩ := ht.rep.pool
  obtain ⟨n1, n2, n3⟩ := ht.neq
  have e1 := ht.out g1 (by decide) (by decide)
  have hsN : w.heap.size ≠ N := fun e => by rw [← e, hN] at g1; simp at g1
  have hci : ∀ i, i < n → c i < w.heap.size := fun i hi => by obtain ⟨c4, q1, _⟩ := h.rep.node i hi; exact blk_lt q1
  refine ⟨ht.below.setCell (by simpa using h.base.2.1) _, ⟨h.base.1, h.base.2.1, h.base.2.2.1, fun i hi => ?_⟩, ⟨⟨c3, (heap_setCell_other _ _ P _ e1.1.symm).trans p1, ?_, ?_⟩, fun i hi => ?_, fun i j hi hj e => ?_⟩, ⟨_, heap_setCell_same _ N n c1 28 _ g1, by simpa using gs, fun i hi => ?_⟩, ⟨c2, (heap_setCell_other _ _ I _ n1.symm).trans f1, f2⟩⟩
  · by_cases e : i = n
    · rw [e, ext_same]; exact h.below.size
    · rw [ext_other e]; exact h.base.2.2.2 i (by omega)
  · rw [p2]; exact congrArg some (ptr_ext (o := s.newest) h1).symm
  · rw [p3]; exact congrArg some (ptr_ext (o := s.oldest) h2).symm
  · by_cases e : i = n
    · subst e
      refine ⟨nodeCells i, ?_, ?_, ?_⟩
      · rw [ext_same]; exact (heap_setCell_other _ _ _ _ hsN).trans hN
      · simp [nodeCells, Lk.fresh, ptr]
      · simp [nodeCells, Lk.fresh, ptr]
    · have hi' : i < n := by omega
      obtain ⟨c4, q1, q2, q3⟩ := ht.rep.node i hi'
      refine ⟨c4, ?_, ?_, ?_⟩
      · rw [ext_other e]; exact (heap_setCell_other _ _ (c i) _ (e1.2 i hi').symm).trans q1
      · rw [q2]
        simp only [Lk.fresh, setAt_other e]
        exact congrArg some (ptr_ext (h3 i hi').1).symm
      · rw [q3]
        simp only [Lk.fresh, setAt_other e]
        exact congrArg some (ptr_ext (h3 i hi').2).symm
  · by_cases ei : i = n
    · by_cases ej : j = n
      · omega
      · rw [ei, ext_same, ext_other ej] at e
        have := hci j (by omega)
        omega
    · by_cases ej : j = n
      · rw [ej, ext_same, ext_other ei] at e
        have := hci i (by omega)
        omega
      · rw [ext_other ei, ext_other ej] at e
        exact h.rep.inj i j (by omega) (by omega) e
  · rw [Array.getElem?_setIfInBounds]
    by_cases e : n = i
    · subst e
      simp [gs, hn, ptr, ext_same]
    · rw [if_neg e, g2 i (by omega)]
      exact congrArg some (ptr_ext (fun y hy => by cases hy; omega)).symm
theorem Row.more {B g cap : Nat} {L : List Nat} (h : Row B w g cap L) (st : St w0 w P N I m c n s D) (o : Obj) (k : Nat) (v : Value) : Row B ((w.alloc o).setCell ⟨N, k, none⟩ v) g cap L := by
  have hb := h.below ((Below.refl _ _).alloc (Nat.le_refl _) o)
  obtain ⟨_, cur, h1⟩ := hb.blk
  obtain ⟨c2, f1, f2⟩ := (st.grown ((Below.refl _ _).alloc (Nat.le_refl _) o)).nodes
  refine hb.same (heap_setCell_other _ _ g _ (fun e => ?_))
  simp at e
  rw [e, f1] at h1
  simp at h1
end

/-! ### the first list: n nodes, the newest first -/
def desc (n : Nat) : List Nat := (List.range n).reverse
theorem desc_succ (n : Nat) : desc (n + 1) = n :: desc n := by simp [desc, List.range_succ]
theorem mem_desc (n i : Nat) : i ∈ desc n ↔ i < n := by simp [desc]
theorem desc_length (n : Nat) : (desc n).length = n := by simp [desc]
theorem desc_nodup : ∀ n : Nat, (desc n).Nodup
  | 0 => by simp [desc]
  | n + 1 => by rw [desc_succ]; exact List.nodup_cons.2 ⟨by simp [mem_desc], desc_nodup n⟩
theorem fresh_law {s : Lk} {L : List Nat} {n : Nat} (h : IsL s L) (hn : n ∉ L) : IsL (s.fresh n) L :=
  ⟨h.new, h.old, Seg.congr (fun y hy => by have e : y ≠ n := fun e => hn (e ▸ hy); simp [Lk.fresh, setAt_other e]) h.seg⟩
theorem IsL.heads {s : Lk} {L : List Nat} (h : IsL s L) {n : Nat} (hL : ∀ i ∈ L, i < n) : (∀ y, s.newest = some y → y < n) ∧ (∀ y, s.oldest = some y → y < n) :=
  ⟨fun y hy => by rw [h.new] at hy; exact hL y (List.mem_of_head? hy), fun y hy => by rw [h.old] at hy; exact hL y (List.mem_of_getLast? hy)⟩
end Go.Proofs.Ybulkgvc
