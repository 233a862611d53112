/-
  Sums over the entries of a map as it reads: while it is ranged over in whatever order, and behind a store.
-/
import Derived.Test.YbulkglyRows
import Derived.WalkKit
import Derived.WalkSpells
import Derived.WalkLawsBesides
import Derived.Maps.RangeWalk
import Derived.Maps.OwnOps
import Derived.Maps.OwnSet
namespace Go.Proofs.Ybulkgly
open Go.RowKit Go.Maps
set_option linter.unusedVariables false

variable {H : Type}

/-- Entries, no key twice, each key a key. -/
def Good (D : DataW H) : Prop := ∃ es, D = .map es ∧ es.Pairwise (fun p q => p.1 ≠ q.1) ∧ ∀ p ∈ es, WideAt.IsKeyLit p.1

def totL (f : Lit × DataW H → Int) : List (Lit × DataW H) → Int
  | [] => 0
  | p :: l => f p + totL f l
def tot (f : Lit × DataW H → Int) : DataW H → Int
  | .map es => totL f es
  | _ => 0
/-- Of those no longer to come. -/
def part (f : Lit × DataW H → Int) (left : Lit → Bool) (D : DataW H) : Int := tot (fun p => if left p.1 then 0 else f p) D
/-- Of those under other keys. -/
def rest (f : Lit × DataW H → Int) (kl : Lit) (D : DataW H) : Int := tot (fun p => if p.1.sameKey kl then 0 else f p) D

theorem totL_congr {f g : Lit × DataW H → Int} : ∀ (l : List (Lit × DataW H)), (∀ p ∈ l, f p = g p) → totL f l = totL g l
  | [], _ => rfl
  | p :: l, h => by rw [totL, totL, h p (by simp), totL_congr l (fun q hq => h q (by simp [hq]))]
theorem totL_add (f g : Lit × DataW H → Int) : ∀ l : List (Lit × DataW H), totL (fun p => f p + g p) l = totL f l + totL g l
  | [] => rfl
  | p :: l => by rw [totL, totL, totL, totL_add f g l]; omega
theorem totL_zero {f : Lit × DataW H → Int} : ∀ (l : List (Lit × DataW H)), (∀ p ∈ l, f p = 0) → totL f l = 0
  | [], _ => rfl
  | p :: l, h => by rw [totL, h p (by simp), totL_zero l (fun q hq => h q (by simp [hq]))]; rfl
theorem totL_filter (f : Lit × DataW H → Int) (c : Lit × DataW H → Bool) : ∀ l : List (Lit × DataW H), totL f (l.filter c) = totL (fun p => if c p then f p else 0) l
  | [] => rfl
  | p :: l => by
    rw [List.filter_cons]
    split
    · rw [totL, totL, totL_filter f c l]; simp [*]
    · rw [totL_filter f c l, totL]; simp [*]
theorem totL_insert (f : Lit × DataW H → Int) (x : Lit × DataW H) : ∀ l : List (Lit × DataW H), totL f (DataW.insert x l) = f x + totL f l
  | [] => rfl
  | p :: l => by
    unfold DataW.insert
    split
    · rfl
    · rw [totL, totL, totL_insert f x l]; omega
theorem totL_bounds {f : Lit × DataW H → Int} {lo hi : Int} : ∀ (l : List (Lit × DataW H)), (∀ p ∈ l, lo ≤ f p ∧ f p ≤ hi) → lo * l.length ≤ totL f l ∧ totL f l ≤ hi * l.length
  | [], _ => by simp [totL]
  | p :: l, h => by
    have h1 := h p (by simp)
    have h2 := totL_bounds l (fun q hq => h q (by simp [hq]))
    simp only [totL, List.length_cons, Int.natCast_add, Int.mul_add]
    omega

/-- The entry under a key, alone. -/
theorem totL_key (f : Lit × DataW H → Int) (kl : Lit) : ∀ (l : List (Lit × DataW H)), l.Pairwise (fun p q => p.1 ≠ q.1) → ∀ y, l.find? (fun p => p.1.sameKey kl) = some y → totL (fun p => if p.1.sameKey kl then f p else 0) l = f y
  | [], _, y, h => by simp at h
  | p :: l, hp, y, h => by
    rw [List.pairwise_cons] at hp
    rw [List.find?_cons] at h
    rw [totL]
    cases hs : p.1.sameKey kl with
    | true =>
      rw [hs] at h
      simp at h
      subst h
      rw [totL_zero l (fun q hq => ?_)]
      · simp
      · have : q.1.sameKey kl = false := by
          cases hq2 : q.1.sameKey kl with
          | false => rfl
          | true => exact absurd ((WideAt.sameKey_eq hs).trans (WideAt.sameKey_eq hq2).symm) (hp.1 q hq)
        simp [this]
    | false =>
      rw [hs] at h
      simp at h
      rw [totL_key f kl l hp.2 y h]
      simp
theorem totL_nokey (f : Lit × DataW H → Int) (kl : Lit) (l : List (Lit × DataW H)) (h : l.find? (fun p => p.1.sameKey kl) = none) : totL (fun p => if p.1.sameKey kl then f p else 0) l = 0 :=
  totL_zero l (fun q hq => by
    have := List.find?_eq_none.1 h q hq
    simp at this
    simp [this])

theorem find_of_atKey {es : List (Lit × DataW H)} {kl : Lit} {y : DataW H} (h : ∀ z, (DataW.map es).atKey kl z = y) : ∃ p, es.find? (fun p => p.1.sameKey kl) = some p ∧ p.1 = kl ∧ p.2 = y := by
  have hh := has_true_of_atKey h
  rw [has_eq] at hh
  cases hf : es.find? (fun p => p.1.sameKey kl) with
  | none =>
    obtain ⟨q, hq, hs⟩ := List.any_eq_true.1 hh
    exact absurd hs (List.find?_eq_none.1 hf q hq)
  | some p =>
    have h1 := List.find?_some hf
    have h2 := h .nil
    simp only [DataW.atKey, hf] at h2
    exact ⟨p, rfl, WideAt.sameKey_eq h1, h2⟩

/-- THE STEP: one entry more has come. -/
theorem part_step (f : Lit × DataW H → Int) {D : DataW H} (hD : Good D) {left : Lit → Bool} {kl : Lit} (hl : left kl = true) {y : DataW H} (h : ∀ z, D.atKey kl z = y) :
    part f (fun z => left z && !z.sameKey kl) D = part f left D + f (kl, y) := by
  obtain ⟨es, rfl, hp, hk⟩ := hD
  obtain ⟨p, hf, e1, e2⟩ := find_of_atKey h
  have hy := totL_key f kl es hp p hf
  obtain rfl : p = (kl, y) := by rw [← e1, ← e2]
  unfold part tot
  rw [← hy, ← totL_add]
  refine totL_congr es (fun q hq => ?_)
  cases hs : q.1.sameKey kl with
  | true => rw [WideAt.sameKey_eq hs] at *; simp [hl, hs]
  | false => simp [hs]
theorem part_start (f : Lit × DataW H → Int) {D : DataW H} (hD : Good D) : part f (has D) D = 0 := by
  obtain ⟨es, rfl, hp, hk⟩ := hD
  refine totL_zero es (fun q hq => ?_)
  have : has (DataW.map es) q.1 = true := List.any_eq_true.2 ⟨q, hq, WideAt.sameKey_self (hk q hq)⟩
  simp [this]
theorem part_end (f : Lit × DataW H → Int) {D : DataW H} {left : Lit → Bool} (h : ∀ kl, left kl = false) : part f left D = tot f D := by
  unfold part
  congr 1
  funext p
  simp [h]
theorem Good.of_owns {w : World} {P : Program} {k : TypeId} {R : Value → Option (DataW H × List MemPlace)} {b n : Nat} {D : DataW H} (h : w.ownsMap P k R b n D) (K : Keyed P k) : Good D := h.entries K

/-- Behind a store. -/
theorem tot_put (f : Lit × DataW H → Int) {D : DataW H} (hD : Good D) (kl : Lit) (d : DataW H) : tot f (D.put kl d) = f (kl, d) + rest f kl D := by
  obtain ⟨es, rfl, hp, hk⟩ := hD
  show totL f (DataW.insert (kl, d) (es.filter fun p => !p.1.sameKey kl)) = _
  rw [totL_insert, totL_filter]
  congr 1
  unfold rest tot
  refine totL_congr es (fun q hq => ?_)
  cases q.1.sameKey kl <;> simp
theorem tot_rest (f : Lit × DataW H → Int) {D : DataW H} (hD : Good D) {kl : Lit} {y : DataW H} (h : ∀ z, D.atKey kl z = y) : tot f D = rest f kl D + f (kl, y) := by
  obtain ⟨es, rfl, hp, hk⟩ := hD
  obtain ⟨p, hf, e1, e2⟩ := find_of_atKey h
  have hy := totL_key f kl es hp p hf
  obtain rfl : p = (kl, y) := by rw [← e1, ← e2]
  rw [← hy]
  unfold rest tot
  rw [← totL_add]
  refine totL_congr es (fun q hq => ?_)
  cases q.1.sameKey kl <;> simp
theorem tot_rest_none (f : Lit × DataW H → Int) {D : DataW H} (hD : Good D) {kl : Lit} (h : has D kl = false) : tot f D = rest f kl D := by
  obtain ⟨es, rfl, hp, hk⟩ := hD
  rw [has_eq] at h
  unfold rest tot
  refine totL_congr es (fun q hq => ?_)
  have : q.1.sameKey kl = false := by
    cases hs : q.1.sameKey kl with
    | false => rfl
    | true => rw [List.any_eq_true.2 ⟨q, hq, hs⟩] at h; cases h
  simp [this]
theorem rest_congr {f g : Lit × DataW H → Int} (kl : Lit) (D : DataW H) (h : ∀ p, p.1.sameKey kl = false → f p = g p) : rest f kl D = rest g kl D := by
  unfold rest
  congr 1
  funext p
  cases hs : p.1.sameKey kl with
  | true => simp
  | false => simp [h p hs]
end Go.Proofs.Ybulkgly
