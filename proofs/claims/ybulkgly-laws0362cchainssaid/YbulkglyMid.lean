/-
  LawS0362CChains, between the append onto the processes and the store of the new group into the log's map.
-/
import Derived.Test.YbulkglyRound
namespace Go.Proofs.Ybulkgly
open Go.RowKit Go.Maps
set_option linter.unusedVariables false

theorem Yba.info9 : (Yba.prog.info? 9).map (fun i => (i.zero, i.size, i.bytes)) = some (some (.string ⟨#[]⟩), 1, 16) := by kernel_rfl

/-- The name laid, and the row of processes grown by it: the log's block is as it was. -/
theorem log_kept {w1 w2 : World} {B j : Nat} {pv : Value} {xs : List Value} {o : Obj} (hlog : w1.heap[B + 1]? = some (.cells #[pv, .map (some B)] 28)) (hrow : w1.ownsRow (B + 2) 9 1 pv j xs) (hg : (w1.alloc o).grownBy w2 pv.ownBlock) :
    w2.heap[B + 1]? = some (.cells #[pv, .map (some B)] 28) := by
  refine blk_kept hg (blk_kept (World.grownBy_alloc w1 o none) hlog (by simp)) (fun e => ?_)
  have := (hrow.lt (B + 1) e.symm).1
  omega

structure Mid (w0 wr w3 : World) (B i : Nat) (pv : Value) (D : DataW Value) : Prop where
  keep : Keep B wr w3
  below : Below B w0 w3
  log : w3.heap[B + 1]? = some (.cells #[pv, .map (some B)] 28)
  proc : ∃ xs, w3.ownsRow (B + 2) 9 1 pv (i + 1) xs
  own : w3.ownsMap Yba.prog 9 sliceR B i D

theorem Mid.lt {w0 wr w3 : World} {B i : Nat} {pv : Value} {D : DataW Value} (h : Mid w0 wr w3 B i pv D) : B + 1 < w3.heap.size := (Array.getElem?_eq_some_iff.1 h.log).1

theorem Mid.kept {w0 wr w3 w4 : World} {B i : Nat} {pv : Value} {D : DataW Value} (h : Mid w0 wr w3 B i pv D) (hb : Below w3.heap.size w3 w4) : Mid w0 wr w4 B i pv D := by
  have hg := below_grownBy hb
  have := h.lt
  obtain ⟨xs, hx⟩ := h.proc
  exact ⟨h.keep.trans (Keep.of_below hb), h.below.trans (hb.mono (by omega)), blk_kept hg h.log (by simp), ⟨xs, hx.kept hg (Classical.em _)⟩, h.own.kept hg (by simp)⟩

/-- Behind the append and the store of the new row. -/
theorem Mid.of {w0 wr w1 w2 : World} {B i : Nat} {pv pv' : Value} {D : DataW Value} {T : Lit → List Int} {xs ys : List Value} {o : Obj} (h : CInv w0 wr B i pv D T) (hb : Below wr.heap.size wr w1)
    (hrow : w1.ownsRow (B + 2) 9 1 pv i xs) (hg : (w1.alloc o).grownBy w2 pv.ownBlock) (hown : w2.ownsRow (B + 2) 9 1 pv' (i + 1) ys) (hat : pv'.ownBlock = pv.ownBlock ∨ pv'.ownBlock = some (w1.alloc o).heap.size) :
    Mid w0 wr (w2.setCell ⟨B + 1, 0, none⟩ pv') B i pv' D := by
  have hlog1 : w1.heap[B + 1]? = some (.cells #[pv, .map (some B)] 28) := blk_kept (below_grownBy hb) h.log (by simp)
  have hlog2 := log_kept hlog1 hrow hg
  have hlt : B + 1 < wr.heap.size := (Array.getElem?_eq_some_iff.1 h.log).1
  have hsz : wr.heap.size ≤ w1.heap.size := hb.size
  have hbk : ∀ k, pv.ownBlock = some k → B + 2 ≤ k ∧ k < w1.heap.size := hrow.lt
  have hset : ∀ k, k ≠ B + 1 → (w2.setCell ⟨B + 1, 0, none⟩ pv').heap[k]? = w2.heap[k]? := fun k hk => heap_setCell_other w2 _ k pv' hk
  have hK1 : Keep B w1 (w1.alloc o) := Keep.of_grown (World.grownBy_alloc w1 o none) (fun k hk => by cases hk)
  have hK2 : Keep B (w1.alloc o) w2 := Keep.of_grown hg (fun k hk => by
    refine .inr ?_
    obtain ⟨_, h2 | ⟨g, cap, cur, h2, h3, h4, _⟩⟩ := hrow.alloc o
    · rw [h2.1] at hk; cases hk
    · rw [h2] at hk
      cases hk
      exact ⟨cur, 9, _, h4, by decide⟩)
  have hK3 : Keep B w2 (w2.setCell ⟨B + 1, 0, none⟩ pv') := fun b hb' => by
    refine hset b (fun e => ?_)
    subst e
    rcases hb' with ⟨_, e⟩ | ⟨_, _, _, e⟩
    · rw [hlog2] at e; simp at e
    · rw [hlog2] at e; cases e
  have hgs : w2.grownBy (w2.setCell ⟨B + 1, 0, none⟩ pv') (some (B + 1)) := ⟨rfl, rfl, rfl, by simp, fun k hk hne => hset k (fun e => hne (by rw [e]))⟩
  have hb1 : Below B w0 w2 := ((h.below.trans (hb.mono (by omega))).alloc (by omega) o).grown hg (by simp; omega) (fun k hk => by have := hbk k hk; omega)
  refine ⟨((Keep.of_below hb).trans hK1).trans (hK2.trans hK3), hb1.setCell (by simp) _, ?_, ⟨ys, hown.kept hgs (.inr (fun e => ?_))⟩, ?_⟩
  · have := heap_setCell_same w2 (B + 1) 0 _ 28 pv' hlog2
    simpa using this
  · have := (hown.lt _ e).1
    omega
  · refine World.ownsMap.setCell ?_ (by simp) _
    refine ((h.own.kept (below_grownBy hb) (by simp)).alloc o).kept hg (fun e => ?_)
    have := hbk B e.symm
    omega

/-- The new group stored. -/
theorem Mid.last {w0 wr w4 : World} {B i k g : Nat} {pv pv' : Value} {D : DataW Value} {T : Lit → List Int} (h : Mid w0 wr w4 B i pv' D) (inv : CInv w0 wr B i pv D T) (hi : i ≤ 256) {ds : List Nat} (hd : dec ds = i) (hg : ∀ d ∈ ds, 48 ≤ d ∧ d ≤ 57) (hl : ds.length ≤ 1000000) (hk : k ≤ 255) (hin : Inn w4 B g k k) (hgB : g ≠ B) :
    ∃ w5 D' T', (Instr.mapUpdate 26 (.map (some B)) (.string (text ds)) (.slice (some ⟨g, 0, none⟩) k k)).run Yba.prog w4 = .ok () w5 ∧ CInv w0 w5 B (i + 1) pv' D' T' ∧ tot (val_ T') D' = tot (val_ T) D + (k : Int) * ((k : Int) - 1) / 2 ∧ tot (cnt_ T') D' = tot (cnt_ T) D + k := by
  obtain ⟨w5, h1, h2, h3⟩ := h.own.update (e := 36) law9 Yba.underlying26 (by unfold maxLen; omega) (key_of ds hl) (show sliceR (.slice (some ⟨g, 0, none⟩) k k) = some (.held (.slice (some ⟨g, 0, none⟩) k k), []) from rfl)
  obtain ⟨es, cl, hB, _⟩ := h.own
  have hK : Keep B w4 w5 := Keep.of_grown h3 (fun k' hk' => by cases hk'; exact .inl ⟨rfl, es, cl, hB⟩)
  obtain ⟨cur, hc1, hc2⟩ := hin.row
  obtain ⟨xs, hx⟩ := h.proc
  have hlt := h.lt
  have := inv.next (w6 := w5) (h.keep.trans hK) (h.below.grown h3 (by omega) (fun k' hk' => by cases hk'; exact Nat.le_refl _)) (blk_kept h3 h.log (by simp)) (hx.kept h3 (.inr (fun e => by have := (hx.lt _ e).1; omega))) hd hg h2 hk (blk_kept h3 hc1 (by simpa using hgB)) (fun l hl' => (hin.evs l hl').keep ⟨cur, hc1⟩ hK)
  exact ⟨w5, _, _, h1, this.1, this.2.1, this.2.2⟩

theorem row_form {w : World} {base e size n : Nat} {v : Value} {xs : List Value} (h : w.ownsRow base e size v (n + 1) xs) : ∃ g cap, v = .slice (some ⟨g, 0, none⟩) (n + 1) cap := by
  obtain ⟨_, h2 | ⟨g, cap, cur, h2, _⟩⟩ := h
  · omega
  · exact ⟨g, cap, h2⟩

/-- The row of k events made. -/
theorem Inn.made {w w' : World} {B k : Nat} {z : List Value} (h : w'.ownsRow 0 41 10 (.slice (some ⟨w.heap.size, 0, none⟩) k k) k z) : Inn w' B w.heap.size k 0 := by
  obtain ⟨_, h2 | ⟨g, cap, cur, h2, h3, h4, h5, h6, h7, _⟩⟩ := h
  · simp at h2
  · simp at h2
    obtain ⟨rfl, rfl⟩ := h2
    exact ⟨⟨cur, h4, h7⟩, fun l hl => by omega⟩
end Go.Proofs.Ybulkgly
