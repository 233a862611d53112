/-
  What the sort, the compaction and the search make of a list, plainly.
-/
import Derived.Test.YbulkgnoAdmit
namespace Go.Proofs.Ybulkgno
open Go.RowKit Go.Lib Go.Sort
set_option linter.unusedVariables false
set_option linter.unusedSimpArgs false

section
variable (self : ByteArray) (side : Int)
theorem cf_refl (x : RefV) : cf self side x x = 0 := ord_refl _ _ _
theorem cf_neg (x y : RefV) : cf self side y x = - cf self side x y := ord_neg _ _ _ _
theorem cf_eq {x y : RefV} (h : cf self side x y = 0) : cut x.1 = cut y.1 := ord_eq _ _ h
theorem cf_left {x y : RefV} (h : cut x.1 = cut y.1) (z : RefV) : cf self side x z = cf self side y z := by unfold cf; rw [h]
theorem cf_right {x y : RefV} (h : cut x.1 = cut y.1) (z : RefV) : cf self side z x = cf self side z y := by unfold cf; rw [h]
theorem cf_trans {x y z : RefV} (h1 : cf self side x y < 0) (h2 : cf self side y z < 0) : cf self side x z < 0 := ord_trans _ _ h1 h2
theorem toList_eq {s t : ByteArray} : (s.toList == t.toList) = true ↔ s = t := by
  constructor
  · intro h
    have h1 := eq_of_beq h
    rw [ByteArray.toList_eq, ByteArray.toList_eq] at h1
    cases s; cases t
    simp at h1
    simp [h1]
  · rintro rfl
    simp
theorem same_iff (x y : RefV) : same x y = true ↔ cut x.1 = cut y.1 := toList_eq
theorem same_cf (x y : RefV) : same x y = true ↔ cf self side x y = 0 :=
  ⟨fun h => by have := (same_iff x y).1 h; rw [cf_left self side this, cf_refl], fun h => (same_iff x y).2 (cf_eq self side h)⟩

/-- Sorted, none twice. -/
def Strict (C : List RefV) : Prop := C.Pairwise (fun x y => cf self side x y < 0)
def SortedL (D : List RefV) : Prop := ∀ (i : Nat) (x y : RefV), D[i]? = some x → D[i + 1]? = some y → cf self side x y ≤ 0

theorem comp_strict {D : List RefV} (hD : SortedL self side D) : ∀ m, m < D.length → Strict self side (comp D (m + 1)) ∧ ∃ A l y, comp D (m + 1) = A ++ [l] ∧ D[m]? = some y ∧ cut l.1 = cut y.1
  | 0, h => by
    match D, h with
    | d :: r, _ => exact ⟨by simp [comp, Strict], [], d, d, by simp [comp], rfl, rfl⟩
  | m + 1, h => by
    obtain ⟨h1, A, l, y, h2, h3, h4⟩ := comp_strict hD m (by omega)
    have hx : D[m + 1]? = some (D[m + 1]'h) := List.getElem?_eq_getElem _
    generalize D[m + 1]'h = x at hx
    have hst := comp_step hx h3
    by_cases hs : same x y = true
    · rw [if_pos hs, List.append_nil] at hst
      rw [hst]
      exact ⟨h1, A, l, x, h2, hx, h4.trans ((same_iff x y).1 hs).symm⟩
    · rw [if_neg hs] at hst
      rw [hst]
      refine ⟨?_, comp D (m + 1), x, x, rfl, hx, rfl⟩
      unfold Strict at *
      rw [List.pairwise_append]
      have hle := hD m y x h3 hx
      have hne : cf self side y x ≠ 0 := fun e => hs ((same_iff x y).2 (cf_eq self side e).symm)
      have hyx : cf self side y x < 0 := by omega
      have hlx : cf self side l x < 0 := by rw [cf_left self side h4]; exact hyx
      refine ⟨h1, by simp, fun a ha z hz => ?_⟩
      simp at hz
      subst hz
      rw [h2] at ha h1
      rcases List.mem_append.1 ha with ha | ha
      · have := (List.pairwise_append.1 h1).2.2 a ha l (by simp)
        exact cf_trans self side this hlx
      · simp at ha
        subst ha
        exact hlx

theorem comp_all {D : List RefV} {n : Nat} (hn : D.length = n) (hD : SortedL self side D) : Strict self side (comp D n) := by
  cases n with
  | zero => simp [comp, Strict]
  | succ m => exact (comp_strict self side hD m (by omega)).1
theorem comp_len (D : List RefV) : ∀ n, (comp D n).length ≤ n
  | 0 => by simp [comp]
  | 1 => by simp [comp]; omega
  | n + 2 => by
    have := comp_len D (n + 1)
    simp only [comp, List.length_append]
    split
    · split <;> simp <;> omega
    · simp; omega

theorem Strict.at {C : List RefV} (h : Strict self side C) {i j : Nat} {x y : RefV} (hij : i < j) (hx : C[i]? = some x) (hy : C[j]? = some y) : cf self side x y < 0 := by
  obtain ⟨h1, rfl⟩ := List.getElem?_eq_some_iff.1 hx
  obtain ⟨h2, rfl⟩ := List.getElem?_eq_some_iff.1 hy
  exact List.pairwise_iff_getElem.1 h i j h1 h2 hij
theorem Strict.mono {C : List RefV} (h : Strict self side C) (r : RefV) (i j : Nat) (x y : RefV) (hij : i ≤ j) (hx : C[i]? = some x) (hy : C[j]? = some y) (hc : cf self side y r < 0) : cf self side x r < 0 := by
  rcases Nat.lt_or_eq_of_le hij with h1 | h1
  · exact cf_trans self side (h.at self side h1 hx hy) hc
  · subst h1
    rw [hx] at hy
    cases hy
    exact hc
theorem found_iff {C : List RefV} (h : Strict self side C) {r : RefV} {i : Nat} {b : Bool} (h1 : ∀ (t : Nat) (x : RefV), t < i → C[t]? = some x → cf self side x r < 0) (h2 : ∀ (t : Nat) (x : RefV), i ≤ t → C[t]? = some x → 0 ≤ cf self side x r) (h3 : b = true ↔ ∃ x, C[i]? = some x ∧ cf self side x r = 0) :
    b = true ↔ ∃ e ∈ C, cf self side e r = 0 := by
  rw [h3]
  constructor
  · rintro ⟨x, hx, hc⟩
    exact ⟨x, List.mem_of_getElem? hx, hc⟩
  · rintro ⟨e, he, hc⟩
    obtain ⟨t, ht⟩ := List.getElem?_of_mem he
    rcases Nat.lt_trichotomy t i with hlt | rfl | hgt
    · have := h1 t e hlt ht; omega
    · exact ⟨e, ht, hc⟩
    · have hil : i < C.length := by have := (List.getElem?_eq_some_iff.1 ht).1; omega
      have hx : C[i]? = some (C[i]'hil) := List.getElem?_eq_getElem _
      have ha := h.at self side hgt hx ht
      have hb := h2 i _ (Nat.le_refl _) hx
      rw [cf_right self side (cf_eq self side hc)] at ha
      omega

/-- What the law itself expects, t elements looked at. -/
def expd (C : List RefV) (r : RefV) (i t : Nat) : List RefV := if t ≤ i then C.take t else C.take i ++ r :: (C.take t).drop i
theorem expd_end {C : List RefV} {r : RefV} {i : Nat} (hi : i ≤ C.length) (h : ¬ C.length ≤ i) : expd C r i C.length = C.take i ++ r :: C.drop i := by
  unfold expd
  rw [if_neg h, List.take_length]
theorem expd_end2 {C : List RefV} {r : RefV} : expd C r C.length C.length ++ [r] = C.take C.length ++ r :: C.drop C.length := by
  unfold expd
  rw [if_pos (Nat.le_refl _), List.drop_length]
theorem expd_step {C : List RefV} {r e : RefV} {i t : Nat} (he : C[t]? = some e) (ht : t < i) : expd C r i (t + 1) = expd C r i t ++ [e] := by
  unfold expd
  rw [if_pos (by omega), if_pos (by omega), List.take_add_one, he]
  rfl
theorem expd_put {C : List RefV} {r e : RefV} {i : Nat} (he : C[i]? = some e) : expd C r i (i + 1) = expd C r i i ++ [r] ++ [e] := by
  unfold expd
  rw [if_neg (by omega), if_pos (Nat.le_refl _), List.take_add_one, he, List.drop_append]
  have hl : (C.take i).length = i := by
    rw [List.length_take]
    have := (List.getElem?_eq_some_iff.1 he).1
    omega
  simp [hl, List.drop_of_length_le (show (C.take i).length ≤ i by omega)]
theorem expd_more {C : List RefV} {r e : RefV} {i t : Nat} (he : C[t]? = some e) (ht : i < t) : expd C r i (t + 1) = expd C r i t ++ [e] := by
  unfold expd
  rw [if_neg (by omega), if_neg (by omega), List.take_add_one, he, List.drop_append]
  have hl : (C.take t).length = t := by
    rw [List.length_take]
    have := (List.getElem?_eq_some_iff.1 he).1
    omega
  simp [hl, show i - t = 0 by omega]
end
end Go.Proofs.Ybulkgno
