/-
  One event of LawS0362CChains: its stamp, and the store of its ten cells into the row.
-/
import Derived.Test.YbulkglyChain
import Derived.Laws.Rows
namespace Go.Proofs.Ybulkgly
open Go.RowKit Go.Maps
set_option linter.unusedVariables false

theorem setCells_other (b : Nat) : ∀ (vs : List Value) (o : Nat) (w : World) (k : Nat), k ≠ b → (w.setCells b o vs).heap[k]? = w.heap[k]?
  | [], _, _, _, _ => rfl
  | v :: vs, o, w, k, h => by
    rw [World.setCells, setCells_other b vs _ _ k h]
    exact heap_setCell_other w _ k v h
theorem setCells_same (b : Nat) (t : TypeId) : ∀ (vs : List Value) (o : Nat) (w : World) (cur : Array Value), w.heap[b]? = some (.cells cur t (0, 0)) → ∃ cur', (w.setCells b o vs).heap[b]? = some (.cells cur' t (0, 0)) ∧ cur'.size = cur.size
  | [], _, _, cur, h => ⟨cur, h, rfl⟩
  | v :: vs, o, w, cur, h => by
    rw [World.setCells]
    obtain ⟨cur', h1, h2⟩ := setCells_same b t vs (o + 1) (w.setCell ⟨b, o, none⟩ v) _ (heap_setCell_same w b o cur t v h)
    exact ⟨cur', h1, by rw [h2]; simp⟩
theorem setCells_grown (b : Nat) : ∀ (vs : List Value) (o : Nat) (w : World), w.grownBy (w.setCells b o vs) (some b)
  | [], _, w => ⟨rfl, rfl, rfl, Nat.le_refl _, fun _ _ _ => rfl⟩
  | v :: vs, o, w => by
    rw [World.setCells]
    have h := setCells_grown b vs (o + 1) (w.setCell ⟨b, o, none⟩ v)
    exact ⟨h.os, h.tape, h.output, by have := h.size; simpa using this, fun k hk hne => (h.block k (by simpa using hk) hne).trans (heap_setCell_other w _ k v (fun e => hne (by rw [e])))⟩

/-- The row of k events, j of them laid. -/
structure Inn (w : World) (B g k j : Nat) : Prop where
  row : ∃ cur, w.heap[g]? = some (.cells cur 41) ∧ cur.size = k * 10
  evs : ∀ l : Nat, l < j → EvB w B g (l * 10) l
theorem Inn.there {w : World} {B g k j : Nat} (h : Inn w B g k j) (i : Nat) (hi : i < k) : w.there g (i * 10) 10 := fun l hl => by
  obtain ⟨cur, h1, h2⟩ := h.row
  have h3 : i * 10 + l < cur.size := by omega
  constructor
  · rw [cell_of_row w g _ cur 41 (0, 0) h1, Array.getElem?_eq_getElem h3]; rfl
  · simp [World.frozen?, h1]
theorem Inn.below {w w' : World} {B g k j : Nat} (h : Inn w B g k j) (hb : Below w.heap.size w w') : Inn w' B g k j := by
  obtain ⟨cur, h1, h2⟩ := h.row
  exact ⟨⟨cur, (hb.block g (Array.getElem?_eq_some_iff.1 h1).1).trans h1, h2⟩, fun l hl => (h.evs l hl).keep ⟨cur, h1⟩ (Keep.of_below hb)⟩
theorem ins (w : World) (ds : List Nat) (hl : ds.length ≤ 1000000) (c : Int) : ∃ w', (Instr.mapUpdate 33 (.map (some w.heap.size)) (.string (text ds)) (.int .u64 c)).run Yba.prog (w.alloc (.map #[] 0)) = .ok () w' ∧ (∃ D, w'.ownsMap Yba.prog 9 u64R w.heap.size 1 D ∧ D = (DataW.map []).put (key ds) (.held (.int .u64 c))) ∧ Below w.heap.size w w' := by
  obtain ⟨w', h1, h2, h3⟩ := (World.ownsMap_made w Yba.prog 9 u64R).update (e := 35) law9 Yba.underlying33 (by unfold maxLen; omega) (key_of ds hl) (show u64R (.int .u64 c) = some (.held (.int .u64 c), []) from rfl)
  exact ⟨w', h1, ⟨_, h2, rfl⟩, ((Below.refl _ _).alloc (Nat.le_refl _) _).grown h3 (by simp) (fun k hk => by cases hk; exact Nat.le_refl _)⟩
theorem Inn.step {w w' : World} {B g k j sb : Nat} (h : Inn w B g k j) (hj : j < k) (hk : k ≤ 255) {ds : List Nat} {D : DataW Value} (ho : w'.ownsMap Yba.prog 9 u64R sb 1 D) (hD : D = (DataW.map []).put (key ds) (.held (.int .u64 ((j : Int) + 1)))) (hsb : sb = w.heap.size) (hB : B < w.heap.size) (hb : Below w.heap.size w w') (pr : ByteArray) (c : Int) :
    Inn (w'.setCells g (j * 10) (evCells pr c sb)) B g k (j + 1) := by
  have h' := h.below hb
  obtain ⟨cur, h1, h2⟩ := h'.row
  have hth := h'.there j hj
  have hgl : g < w.heap.size := by obtain ⟨c0, e, _⟩ := h.row; exact (Array.getElem?_eq_some_iff.1 e).1
  have hgr := setCells_grown g (evCells pr c sb) (j * 10) w'
  have hmp : ∀ s n (D' : DataW Value), w'.ownsMap Yba.prog 9 u64R s n D' → (w'.setCells g (j * 10) (evCells pr c sb)).ownsMap Yba.prog 9 u64R s n D' := fun s n D' hs => by
    refine hs.kept hgr (fun e => ?_)
    obtain ⟨es, cl, e2, _⟩ := hs
    simp at e
    subst e
    rw [h1] at e2
    cases e2
  have hGo : Good (DataW.map [] : DataW Value) := ⟨[], rfl, by simp, by simp⟩
  refine ⟨?_, fun l hl => ?_⟩
  · obtain ⟨cur', h3, h4⟩ := setCells_same g 41 (evCells pr c sb) (j * 10) w' cur h1
    exact ⟨cur', h3, by omega⟩
  · by_cases e : l = j
    · subst e
      refine ⟨pr, c, sb, 1, D, World.rangeAt_setCells_same w' g _ _ hth, by omega, hmp _ _ _ ho, by omega, ?_, ?_⟩
      · rw [hD]
        exact Bnd.put (fun es e p hp => by cases e; cases hp) hGo (by rw [num_held]; omega)
      · rw [hD, tot_put _ hGo, num_held]
        simp [rest, tot, totL]
    · obtain ⟨pr', c', sb', n', D', g1, g2, g3, g4⟩ := h'.evs l (by omega)
      exact ⟨pr', c', sb', n', D', World.rangeAt_setCells_apart g1 g _ _ (.inr (by simp [evCells]; omega)), g2, hmp _ _ _ g3, g4⟩
end Go.Proofs.Ybulkgly
