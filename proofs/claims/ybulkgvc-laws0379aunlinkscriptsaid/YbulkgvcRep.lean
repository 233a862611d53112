/-
  The pool's list as it lies in memory.
-/
import Derived.Test.YbulkgvcList
import Derived.WalkKit
import Derived.WalkSpells
import Derived.WalkLawsBesides
import Derived.Below
import Derived.Laws.Rows
import Derived.Laws.OwnMore
namespace Go.Proofs.Ybulkgvc
open Go.RowKit
set_option linter.unusedVariables false

def ptr (c : Nat → Nat) (o : Option Nat) : Value := .pointer (o.map fun i => ⟨c i, 0, none⟩)
theorem blk_cell {w : World} {b : Nat} {cs : Array Value} {t : TypeId} {m : Nat × Nat} (h : w.heap[b]? = some (.cells cs t m)) (j : Nat) : w.cell? ⟨b, j, none⟩ = cs[j]? := by simp [World.cell?, h]
theorem blk_free {w : World} {b : Nat} {cs : Array Value} {t : TypeId} (h : w.heap[b]? = some (.cells cs t)) (j : Nat) : w.frozen? ⟨b, j, none⟩ = false := by simp [World.frozen?, h]

structure Rep (w : World) (P : Nat) (c : Nat → Nat) (n : Nat) (s : Lk) : Prop where
  pool : ∃ cur, w.heap[P]? = some (.cells cur 49) ∧ cur[5]? = some (ptr c s.newest) ∧ cur[6]? = some (ptr c s.oldest)
  node : ∀ i, i < n → ∃ cur, w.heap[c i]? = some (.cells cur 36) ∧ cur[5]? = some (ptr c (s.newer i)) ∧ cur[6]? = some (ptr c (s.older i))
  inj : ∀ i j, i < n → j < n → c i = c j → i = j

theorem Rep.ne {w : World} {P n : Nat} {c : Nat → Nat} {s : Lk} (h : Rep w P c n s) {i : Nat} (hi : i < n) : c i ≠ P := fun e => by
  obtain ⟨c1, h1, _⟩ := h.pool
  obtain ⟨c2, h2, _⟩ := h.node i hi
  rw [e, h1] at h2
  simp at h2
theorem Rep.new {w : World} {P n : Nat} {c : Nat → Nat} {s : Lk} (h : Rep w P c n s) : w.cell? ⟨P, 5, none⟩ = some (ptr c s.newest) ∧ w.cell? ⟨P, 6, none⟩ = some (ptr c s.oldest) ∧ w.frozen? ⟨P, 5, none⟩ = false ∧ w.frozen? ⟨P, 6, none⟩ = false := by
  obtain ⟨c1, h1, h2, h3⟩ := h.pool
  exact ⟨(blk_cell h1 5).trans h2, (blk_cell h1 6).trans h3, blk_free h1 5, blk_free h1 6⟩
theorem Rep.nod {w : World} {P n : Nat} {c : Nat → Nat} {s : Lk} (h : Rep w P c n s) {i : Nat} (hi : i < n) : w.cell? ⟨c i, 5, none⟩ = some (ptr c (s.newer i)) ∧ w.cell? ⟨c i, 6, none⟩ = some (ptr c (s.older i)) ∧ w.frozen? ⟨c i, 5, none⟩ = false ∧ w.frozen? ⟨c i, 6, none⟩ = false := by
  obtain ⟨c1, h1, h2, h3⟩ := h.node i hi
  exact ⟨(blk_cell h1 5).trans h2, (blk_cell h1 6).trans h3, blk_free h1 5, blk_free h1 6⟩
theorem Rep.drew {w : World} {P n : Nat} {c : Nat → Nat} {s : Lk} (h : Rep w P c n s) : Rep w.drew P c n s := ⟨h.pool, h.node, h.inj⟩

theorem set5 {cur : Array Value} {a b v : Value} (h1 : cur[5]? = some a) (h2 : cur[6]? = some b) : (cur.setIfInBounds 5 v)[5]? = some v ∧ (cur.setIfInBounds 5 v)[6]? = some b := by
  have := (Array.getElem?_eq_some_iff.1 h1).1
  constructor
  · rw [Array.getElem?_setIfInBounds]; simp [this]
  · rw [Array.getElem?_setIfInBounds]; simp [h2]
theorem set6 {cur : Array Value} {a b v : Value} (h1 : cur[5]? = some a) (h2 : cur[6]? = some b) : (cur.setIfInBounds 6 v)[5]? = some a ∧ (cur.setIfInBounds 6 v)[6]? = some v := by
  have := (Array.getElem?_eq_some_iff.1 h2).1
  constructor
  · rw [Array.getElem?_setIfInBounds]; simp [h1]
  · rw [Array.getElem?_setIfInBounds]; simp [this]

theorem Rep.setNew {w : World} {P n : Nat} {c : Nat → Nat} {s : Lk} (h : Rep w P c n s) (o : Option Nat) : Rep (w.setCell ⟨P, 5, none⟩ (ptr c o)) P c n ⟨o, s.oldest, s.newer, s.older⟩ := by
  obtain ⟨c1, h1, h2, h3⟩ := h.pool
  refine ⟨⟨_, heap_setCell_same w P 5 c1 49 _ h1, (set5 h2 h3).1, (set5 h2 h3).2⟩, fun i hi => ?_, h.inj⟩
  obtain ⟨c2, g1, g2, g3⟩ := h.node i hi
  exact ⟨c2, (heap_setCell_other w _ (c i) _ (h.ne hi)).trans g1, g2, g3⟩
theorem Rep.setOld {w : World} {P n : Nat} {c : Nat → Nat} {s : Lk} (h : Rep w P c n s) (o : Option Nat) : Rep (w.setCell ⟨P, 6, none⟩ (ptr c o)) P c n ⟨s.newest, o, s.newer, s.older⟩ := by
  obtain ⟨c1, h1, h2, h3⟩ := h.pool
  refine ⟨⟨_, heap_setCell_same w P 6 c1 49 _ h1, (set6 h2 h3).1, (set6 h2 h3).2⟩, fun i hi => ?_, h.inj⟩
  obtain ⟨c2, g1, g2, g3⟩ := h.node i hi
  exact ⟨c2, (heap_setCell_other w _ (c i) _ (h.ne hi)).trans g1, g2, g3⟩
theorem Rep.setNewer {w : World} {P n : Nat} {c : Nat → Nat} {s : Lk} (h : Rep w P c n s) {x : Nat} (hx : x < n) (o : Option Nat) : Rep (w.setCell ⟨c x, 5, none⟩ (ptr c o)) P c n ⟨s.newest, s.oldest, setAt s.newer x o, s.older⟩ := by
  obtain ⟨c1, h1, h2, h3⟩ := h.pool
  refine ⟨⟨c1, (heap_setCell_other w _ P _ (h.ne hx).symm).trans h1, h2, h3⟩, fun i hi => ?_, h.inj⟩
  obtain ⟨c2, g1, g2, g3⟩ := h.node i hi
  by_cases e : i = x
  · subst e
    exact ⟨_, heap_setCell_same w (c i) 5 c2 36 _ g1, by simpa using (set5 g2 g3).1, (set5 g2 g3).2⟩
  · refine ⟨c2, (heap_setCell_other w _ (c i) _ (fun e2 => e (h.inj i x hi hx e2))).trans g1, ?_, g3⟩
    simpa [setAt_other e] using g2
theorem Rep.setOlder {w : World} {P n : Nat} {c : Nat → Nat} {s : Lk} (h : Rep w P c n s) {x : Nat} (hx : x < n) (o : Option Nat) : Rep (w.setCell ⟨c x, 6, none⟩ (ptr c o)) P c n ⟨s.newest, s.oldest, s.newer, setAt s.older x o⟩ := by
  obtain ⟨c1, h1, h2, h3⟩ := h.pool
  refine ⟨⟨c1, (heap_setCell_other w _ P _ (h.ne hx).symm).trans h1, h2, h3⟩, fun i hi => ?_, h.inj⟩
  obtain ⟨c2, g1, g2, g3⟩ := h.node i hi
  by_cases e : i = x
  · subst e
    exact ⟨_, heap_setCell_same w (c i) 6 c2 36 _ g1, (set6 g2 g3).1, by simpa using (set6 g2 g3).2⟩
  · refine ⟨c2, (heap_setCell_other w _ (c i) _ (fun e2 => e (h.inj i x hi hx e2))).trans g1, g2, ?_⟩
    simpa [setAt_other e] using g3

/-- Nothing but the pool and the nodes has turned. -/
structure Turn (P : Nat) (c : Nat → Nat) (n : Nat) (w w' : World) : Prop where
  os : w'.os = w.os
  tape : w'.tape = w.tape
  output : w'.output = w.output
  size : w'.heap.size = w.heap.size
  block : ∀ b, b ≠ P → (∀ i, i < n → b ≠ c i) → w'.heap[b]? = w.heap[b]?
theorem Turn.refl (P : Nat) (c : Nat → Nat) (n : Nat) (w : World) : Turn P c n w w := ⟨rfl, rfl, rfl, rfl, fun _ _ _ => rfl⟩
theorem Turn.drew {P : Nat} {c : Nat → Nat} {n : Nat} {w w' : World} (h : Turn P c n w w') : Turn P c n w w'.drew := ⟨h.os, h.tape, h.output, h.size, h.block⟩
theorem Turn.setP {P : Nat} {c : Nat → Nat} {n : Nat} {w w' : World} (h : Turn P c n w w') (o : Nat) (v : Value) : Turn P c n w (w'.setCell ⟨P, o, none⟩ v) :=
  ⟨h.os, h.tape, h.output, by simp [h.size], fun b h1 h2 => (heap_setCell_other w' _ b v h1).trans (h.block b h1 h2)⟩
theorem Turn.setC {P : Nat} {c : Nat → Nat} {n : Nat} {w w' : World} (h : Turn P c n w w') {x : Nat} (hx : x < n) (o : Nat) (v : Value) : Turn P c n w (w'.setCell ⟨c x, o, none⟩ v) :=
  ⟨h.os, h.tape, h.output, by simp [h.size], fun b h1 h2 => (heap_setCell_other w' _ b v (h2 x hx)).trans (h.block b h1 h2)⟩
end Go.Proofs.Ybulkgvc
