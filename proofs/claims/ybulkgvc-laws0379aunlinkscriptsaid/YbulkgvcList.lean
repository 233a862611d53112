/-
  The pool's list, with no Go in sight: the links as plain functions, what 'link' and 'unlink' make of them, and that the list stays the model's.
-/
import Derived.Test.YbulkgvcRows
namespace Go.Proofs.Ybulkgvc
set_option linter.unusedVariables false

structure Lk where
  newest : Option Nat
  oldest : Option Nat
  newer : Nat → Option Nat
  older : Nat → Option Nat

def setAt (f : Nat → Option Nat) (x : Nat) (v : Option Nat) : Nat → Option Nat := fun y => if y = x then v else f y
@[simp] theorem setAt_same (f : Nat → Option Nat) (x : Nat) (v : Option Nat) : setAt f x v x = v := by simp [setAt]
theorem setAt_other {f : Nat → Option Nat} {x y : Nat} {v : Option Nat} (h : y ≠ x) : setAt f x v y = f y := by simp [setAt, h]

def Lk.link (s : Lk) (x : Nat) : Lk :=
  match s.newest with
  | some y => ⟨some x, s.oldest, setAt (setAt s.newer x none) y (some x), setAt s.older x s.newest⟩
  | none => ⟨some x, some x, setAt s.newer x none, setAt s.older x s.newest⟩

def Lk.off1 (s : Lk) (x : Nat) : Lk :=
  match s.newer x with
  | some y => ⟨s.newest, s.oldest, s.newer, setAt s.older y (s.older x)⟩
  | none => ⟨s.older x, s.oldest, s.newer, s.older⟩
def Lk.off2 (s : Lk) (x : Nat) : Lk :=
  match s.older x with
  | some z => ⟨s.newest, s.oldest, setAt s.newer z (s.newer x), s.older⟩
  | none => ⟨s.newest, s.newer x, s.newer, s.older⟩
def Lk.off3 (s : Lk) (x : Nat) : Lk := ⟨s.newest, s.oldest, setAt s.newer x none, setAt s.older x none⟩
def Lk.unlink (s : Lk) (x : Nat) : Lk := ((s.off1 x).off2 x).off3 x

/-- The nodes of a list, p ahead of them and n behind. -/
def Seg (s : Lk) : Option Nat → List Nat → Option Nat → Prop
  | _, [], _ => True
  | p, x :: xs, n => s.newer x = p ∧ s.older x = xs.head?.or n ∧ Seg s (some x) xs n
theorem Seg.congr {s s' : Lk} : ∀ {A : List Nat} {p n : Option Nat}, (∀ y ∈ A, s'.newer y = s.newer y ∧ s'.older y = s.older y) → Seg s p A n → Seg s' p A n
  | [], _, _, _, _ => trivial
  | x :: xs, p, n, h, ⟨h1, h2, h3⟩ => by
    have hx := h x (by simp)
    exact ⟨hx.1.trans h1, hx.2.trans h2, Seg.congr (fun y hy => h y (by simp [hy])) h3⟩
theorem seg_append (s : Lk) (B : List Nat) (n : Option Nat) : ∀ (A : List Nat) (p : Option Nat), Seg s p (A ++ B) n ↔ Seg s p A (B.head?.or n) ∧ Seg s (A.getLast?.or p) B n
  | [], p => by simp [Seg]
  | x :: xs, p => by
    have ih := seg_append s B n xs (some x)
    have e1 : (xs ++ B).head?.or n = xs.head?.or (B.head?.or n) := by cases xs <;> simp
    have e2 : (x :: xs).getLast?.or p = xs.getLast?.or (some x) := by
      cases xs with
      | nil => simp
      | cons y ys =>
        rw [List.getLast?_cons_cons]
        cases hh : (y :: ys).getLast? with
        | none => simp at hh
        | some z => simp
    simp only [List.cons_append, Seg, ih, e1, e2]
    constructor
    · rintro ⟨h1, h2, h3, h4⟩; exact ⟨⟨h1, h2, h3⟩, h4⟩
    · rintro ⟨⟨h1, h2, h3⟩, h4⟩; exact ⟨h1, h2, h3, h4⟩

structure IsL (s : Lk) (L : List Nat) : Prop where
  new : s.newest = L.head?
  old : s.oldest = L.getLast?
  seg : Seg s none L none

theorem link_law {s : Lk} {L : List Nat} {x : Nat} (h : IsL s L) (hx : x ∉ L) (hn : L.Nodup) : IsL (s.link x) (x :: L) := by
  cases L with
  | nil =>
    have h1 := h.new
    simp at h1
    refine ⟨?_, ?_, ?_⟩ <;> simp [Lk.link, h1, Seg]
  | cons y ys =>
    have h1 := h.new
    simp at h1
    obtain ⟨g1, g2, g3⟩ := h.seg
    have hxy : x ≠ y := fun e => hx (by simp [e])
    have hyn : y ∉ ys := (List.nodup_cons.1 hn).1
    refine ⟨by simp [Lk.link, h1], ?_, ?_⟩
    · have := h.old
      rw [List.getLast?_cons_cons]
      simp [Lk.link, h1, this]
    · refine ⟨?_, ?_, ?_, ?_, ?_⟩
      · simp [Lk.link, h1, setAt_other hxy]
      · simp [Lk.link, h1]
      · simp [Lk.link, h1]
      · simp only [Lk.link, h1, setAt_other hxy.symm]; exact g2
      · refine Seg.congr (fun z hz => ?_) g3
        have e1 : z ≠ y := fun e => hyn (e ▸ hz)
        have e2 : z ≠ x := fun e => hx (by simp [← e, hz])
        simp [Lk.link, h1, setAt_other e1, setAt_other e2]

theorem seg_last {s s' : Lk} {A : List Nat} {y : Nat} {p n n' : Option Nat} (h : Seg s p (A ++ [y]) n) (h1 : ∀ z ∈ A, s'.newer z = s.newer z ∧ s'.older z = s.older z) (h2 : s'.newer y = s.newer y) (h3 : s'.older y = n') : Seg s' p (A ++ [y]) n' := by
  rw [seg_append] at h ⊢
  obtain ⟨g1, g2, g3, _⟩ := h
  exact ⟨Seg.congr h1 g1, h2.trans g2, by simpa using h3, trivial⟩
theorem seg_first {s s' : Lk} {B : List Nat} {z : Nat} {p p' n : Option Nat} (h : Seg s p (z :: B) n) (h1 : ∀ y ∈ B, s'.newer y = s.newer y ∧ s'.older y = s.older y) (h2 : s'.older z = s.older z) (h3 : s'.newer z = p') : Seg s' p' (z :: B) n := by
  obtain ⟨g1, g2, g3⟩ := h
  exact ⟨h3, h2.trans g2, Seg.congr h1 g3⟩

theorem unlink_law {s : Lk} {A B : List Nat} {x : Nat} (h : IsL s (A ++ x :: B)) (hn : (A ++ x :: B).Nodup) :
    IsL (s.unlink x) (A ++ B) ∧ (s.unlink x).newer x = none ∧ (s.unlink x).older x = none := by
  refine ⟨?_, by simp [Lk.unlink, Lk.off3], by simp [Lk.unlink, Lk.off3]⟩
  have hs := h.seg
  rw [seg_append] at hs
  obtain ⟨sA, hxn, hxo, sB⟩ := hs
  simp only [Option.or_none, List.head?_cons] at hxn hxo sA
  obtain ⟨nA, nxB, hd⟩ := List.nodup_append.1 hn
  obtain ⟨nx, nB⟩ := List.nodup_cons.1 nxB
  have hxA : x ∉ A := fun e => hd x e x (by simp) rfl
  have hAB : ∀ a ∈ A, ∀ b ∈ B, a ≠ b := fun a ha b hb => hd a ha b (by simp [hb])
  have hnew := h.new
  have hold := h.old
  rcases List.eq_nil_or_concat A with rfl | ⟨A', y, rfl⟩
  · simp only [List.nil_append, List.getLast?_nil] at *
    cases B with
    | nil =>
      simp at hxo
      refine ⟨?_, ?_, trivial⟩ <;> simp [Lk.unlink, Lk.off1, Lk.off2, Lk.off3, hxn, hxo]
    | cons z B' =>
      simp at hxo
      have hzx : z ≠ x := fun e => nx (by simp [e])
      have hzB : z ∉ B' := (List.nodup_cons.1 nB).1
      refine ⟨by simp [Lk.unlink, Lk.off1, Lk.off2, Lk.off3, hxn, hxo], ?_, ?_⟩
      · rw [List.getLast?_cons_cons] at hold
        simp [Lk.unlink, Lk.off1, Lk.off2, Lk.off3, hxn, hxo, hold]
      · refine seg_first sB (fun u hu => ?_) ?_ ?_
        · have e1 : u ≠ z := fun e => hzB (e ▸ hu)
          have e2 : u ≠ x := fun e => nx (by simp [← e, hu])
          simp [Lk.unlink, Lk.off1, Lk.off2, Lk.off3, hxn, hxo, setAt_other e1, setAt_other e2]
        · simp [Lk.unlink, Lk.off1, Lk.off2, Lk.off3, hxn, hxo, setAt_other hzx]
        · simp [Lk.unlink, Lk.off1, Lk.off2, Lk.off3, hxn, hxo, setAt_other hzx]
  · simp only [List.concat_eq_append] at *
    have hyx : y ≠ x := fun e => hxA (by simp [e])
    have hyA : y ∉ A' := fun e => (List.nodup_append.1 nA).2.2 y e y (by simp) rfl
    have hxn' : s.newer x = some y := by rw [hxn]; simp
    have hhead : (A' ++ [y] ++ x :: B).head? = (A' ++ [y] ++ B).head? := by cases A' <;> simp
    rw [hhead] at hnew
    cases B with
    | nil =>
      simp at hxo
      refine ⟨?_, ?_, ?_⟩
      · simp [Lk.unlink, Lk.off1, Lk.off2, Lk.off3, hxn', hxo, hnew, setAt_other hyx.symm]
      · simp [Lk.unlink, Lk.off1, Lk.off2, Lk.off3, hxn', hxo, setAt_other hyx.symm]
      · rw [List.append_nil]
        refine seg_last sA (fun u hu => ?_) ?_ ?_
        · have e1 : u ≠ y := fun e => hyA (e ▸ hu)
          have e2 : u ≠ x := fun e => hxA (by simp [← e, hu])
          simp [Lk.unlink, Lk.off1, Lk.off2, Lk.off3, hxn', hxo, setAt_other e1, setAt_other e2, setAt_other hyx.symm]
        · simp [Lk.unlink, Lk.off1, Lk.off2, Lk.off3, hxn', hxo, setAt_other hyx, setAt_other hyx.symm]
        · simp [Lk.unlink, Lk.off1, Lk.off2, Lk.off3, hxn', hxo, setAt_other hyx, setAt_other hyx.symm]
    | cons z B' =>
      simp at hxo
      have hzx : z ≠ x := fun e => nx (by simp [e])
      have hzB : z ∉ B' := (List.nodup_cons.1 nB).1
      have hyz : y ≠ z := hAB y (by simp) z (by simp)
      have hyB : y ∉ B' := fun e => hAB y (by simp) y (by simp [e]) rfl
      have hzA : z ∉ A' := fun e => hAB z (by simp [e]) z (by simp) rfl
      refine ⟨?_, ?_, ?_⟩
      · simp [Lk.unlink, Lk.off1, Lk.off2, Lk.off3, hxn', hxo, hnew, setAt_other hyx.symm]
      · have e : (A' ++ [y] ++ x :: z :: B').getLast? = (A' ++ [y] ++ z :: B').getLast? := by
          simp [List.getLast?_append, List.getLast?_cons_cons]
        rw [e] at hold
        simp only [Lk.unlink, Lk.off1, Lk.off2, Lk.off3, hxn', hxo, setAt_other hyx.symm]
        exact hold
      · rw [seg_append]
        refine ⟨seg_last sA (fun u hu => ?_) ?_ ?_, seg_first sB (fun u hu => ?_) ?_ ?_⟩
        · have e1 : u ≠ y := fun e => hyA (e ▸ hu)
          have e2 : u ≠ x := fun e => hxA (by simp [← e, hu])
          have e3 : u ≠ z := fun e => hzA (e ▸ hu)
          simp [Lk.unlink, Lk.off1, Lk.off2, Lk.off3, hxn', hxo, setAt_other e1, setAt_other e2, setAt_other e3, setAt_other hyx.symm]
        · simp [Lk.unlink, Lk.off1, Lk.off2, Lk.off3, hxn', hxo, setAt_other hyx, setAt_other hyx.symm, setAt_other hyz]
        · simp [Lk.unlink, Lk.off1, Lk.off2, Lk.off3, hxn', hxo, setAt_other hyx, setAt_other hyx.symm]
        · have e1 : u ≠ y := fun e => hyB (e ▸ hu)
          have e2 : u ≠ x := fun e => nx (by simp [← e, hu])
          have e3 : u ≠ z := fun e => hzB (e ▸ hu)
          simp [Lk.unlink, Lk.off1, Lk.off2, Lk.off3, hxn', hxo, setAt_other e1, setAt_other e2, setAt_other e3, setAt_other hyx.symm]
        · simp [Lk.unlink, Lk.off1, Lk.off2, Lk.off3, hxn', hxo, setAt_other hyx.symm, setAt_other hzx, setAt_other hyz.symm]
        · simp [Lk.unlink, Lk.off1, Lk.off2, Lk.off3, hxn', hxo, setAt_other hyx.symm, setAt_other hzx]

theorem filter_mid {A B : List Nat} {x : Nat} (hn : (A ++ x :: B).Nodup) : (A ++ x :: B).filter (fun y => y != x) = A ++ B := by
  obtain ⟨nA, nxB, hd⟩ := List.nodup_append.1 hn
  obtain ⟨nx, nB⟩ := List.nodup_cons.1 nxB
  have h1 : A.filter (fun y => y != x) = A := List.filter_eq_self.2 (fun a ha => by simpa using fun e : a = x => hd a ha x (by simp) e)
  have h2 : B.filter (fun y => y != x) = B := List.filter_eq_self.2 (fun a ha => by simpa using fun e : a = x => nx (e ▸ ha))
  simp [List.filter_append, h1, h2]

theorem unlink_filter {s : Lk} {L : List Nat} {x : Nat} (h : IsL s L) (hn : L.Nodup) (hx : x ∈ L) :
    IsL (s.unlink x) (L.filter (fun y => y != x)) ∧ (s.unlink x).newer x = none ∧ (s.unlink x).older x = none := by
  obtain ⟨A, B, rfl⟩ := List.append_of_mem hx
  rw [filter_mid hn]
  exact unlink_law h hn

/-- A neighbour of a node of the list is a node of the list. -/
theorem IsL.nbr {s : Lk} {L : List Nat} {x : Nat} (h : IsL s L) (hx : x ∈ L) : (∀ y, s.newer x = some y → y ∈ L) ∧ (∀ y, s.older x = some y → y ∈ L) := by
  obtain ⟨A, B, rfl⟩ := List.append_of_mem hx
  have hs := h.seg
  rw [seg_append] at hs
  obtain ⟨_, hxn, hxo, _⟩ := hs
  simp only [Option.or_none] at hxn hxo
  refine ⟨fun y hy => ?_, fun y hy => ?_⟩
  · rw [hxn] at hy
    have := List.mem_of_getLast? hy
    simp [this]
  · rw [hxo] at hy
    have := List.mem_of_head? hy
    simp [this]
end Go.Proofs.Ybulkgvc
