/-
  The sort's words for a row turned to ours, and back.
-/
import Derived.Test.YbulkgnoLaw
namespace Go.Proofs.Ybulkgno
open Go.RowKit Go.Lib Go.Sort
set_option linter.unusedVariables false
set_option linter.unusedSimpArgs false

theorem holds_of {w : World} {g : Nat} {L : List RefV} (h : RefsAt w g L) (ht : w.there g 0 (L.length * 2)) : HoldsK enc 2 w g 0 L.toArray := by
  intro j hj
  rw [size_flatK] at hj
  have hj' : j < L.length * 2 := by simpa using hj
  refine ⟨?_, by simpa using (ht j hj').2⟩
  rw [get_flatK enc 2 _ j hj]
  have hlt : j / 2 < L.length := by omega
  have hx : L[j / 2]? = some L.toArray[j / 2]! := by
    rw [getElem!_pos L.toArray (j / 2) (by simpa using hlt), List.getElem?_eq_getElem hlt]
    simp
  obtain ⟨h1, h2⟩ := h _ _ hx
  generalize L.toArray[j / 2]! = x at *
  rcases Nat.mod_two_eq_zero_or_one j with e | e
  · rw [show 0 + j = j / 2 * 2 by omega, h1, e]; rfl
  · rw [show 0 + j = j / 2 * 2 + 1 by omega, h2, e]; rfl
theorem of_holds {w : World} {g : Nat} {d : Array RefV} (h : HoldsK enc 2 w g 0 d) : RefsAt w g d.toList ∧ w.there g 0 (d.size * 2) := by
  refine ⟨fun j x hx => ?_, fun j hj => ?_⟩
  · have hlt : j < d.size := by have := (List.getElem?_eq_some_iff.1 hx).1; simpa using this
    have hxe : x = d[j]! := by
      rw [getElem!_pos d j hlt]
      obtain ⟨_, rfl⟩ := List.getElem?_eq_some_iff.1 hx
      simp
    subst hxe
    have h1 := (h.cell hlt (show 0 < 2 by omega)).1
    have h2 := (h.cell hlt (show 1 < 2 by omega)).1
    simp only [Nat.zero_add, Nat.add_zero] at h1 h2
    exact ⟨h1, h2⟩
  · have h1 := h j (by rw [size_flatK]; exact hj)
    refine ⟨by rw [h1.1]; rfl, h1.2⟩
theorem sort_grown (w : World) (g n : Nat) (d : Array RefV) (os : Array Obj) : w.grownBy (sortWorldK enc 2 w g 0 n d os) (some g) := by
  refine ⟨rfl, rfl, rfl, ?_, fun k hk hne => ?_⟩
  · unfold sortWorldK grow
    simp [size_putRowK, Sort.ahead]
  · have hne' : k ≠ g := fun e => hne (by rw [e])
    unfold sortWorldK grow
    show ((putRowK enc 2 (Sort.ahead w n) g 0 d).heap ++ os)[k]? = _
    rw [Array.getElem?_append_left (by rw [size_putRowK]; exact hk)]
    simp [putRowK, putRow, mapBlock, Array.getElem?_modify, Sort.ahead]
    intro e
    exact absurd e.symm hne'
theorem sorted_of (self : ByteArray) (side : Int) {n : Nat} {d : Array RefV} (hn : d.size = n) (h : SortedIn (ltOf (cf self side)) 0 n d) : SortedL self side d.toList := fun i x y hx hy => by
  have hi := (List.getElem?_eq_some_iff.1 hy).1
  simp at hi
  have hs := h i (i + 1) (Nat.zero_le _) (by omega) (by omega)
  rw [getElem!_pos d i (by omega), getElem!_pos d (i + 1) (by omega)] at hs
  obtain ⟨_, rfl⟩ := List.getElem?_eq_some_iff.1 hx
  obtain ⟨_, rfl⟩ := List.getElem?_eq_some_iff.1 hy
  simp only [Array.getElem_toList]
  rw [lt_iff] at hs
  have h2 : ¬ cf self side d[i + 1] d[i] < 0 := of_decide_eq_false hs
  rw [cf_neg self side d[i] d[i + 1]] at h2
  omega
end Go.Proofs.Ybulkgno
