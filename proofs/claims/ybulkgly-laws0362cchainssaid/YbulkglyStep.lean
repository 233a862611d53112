/-
  What one event more makes of the log of LawS0362CSums, with no walk in sight.
-/
import Derived.Test.YbulkglyInv
namespace Go.Proofs.Ybulkgly
open Go.RowKit Go.Maps
set_option linter.unusedVariables false

theorem Stamp.kept {w w' : World} {mb sb : Nat} {t : Int} {r : Option Nat} (h : Stamp w mb sb t) (hg : w.grownBy w' r) (hne : some sb ≠ r) : Stamp w' mb sb t := by
  obtain ⟨h1, n, D, ho, rest⟩ := h
  exact ⟨h1, n, D, ho.kept hg hne, rest⟩
/-- A stamp's block is no row of events. -/
theorem Stamp.not_row {w : World} {mb sb base n : Nat} {t : Int} {v : Value} {xs : List Value} (h : Stamp w mb sb t) (ho : w.ownsRow base 41 10 v n xs) : some sb ≠ v.ownBlock := by
  obtain ⟨_, n', D, ⟨es, clock, hb, _⟩, _⟩ := h
  rcases ho.2 with ⟨rfl, _⟩ | ⟨g, cap, cur, rfl, _, hg, _⟩
  · simp [Value.ownBlock]
  · intro e
    simp [Value.ownBlock] at e
    subst e
    rw [hb] at hg
    cases hg
theorem Grp.kept {w w' : World} {base mb : Nat} {v : Value} {ts : List Int} {r : Option Nat} (h : Grp w base mb v ts) (hg : w.grownBy w' r) (hne : v.ownBlock = none ∨ v.ownBlock ≠ r) (hs : ∀ sb t, Stamp w mb sb t → some sb ≠ r) : Grp w' base mb v ts := by
  obtain ⟨ao, cap, xs, e, ho, hl⟩ := h
  exact ⟨ao, cap, xs, e, ho.kept hg hne, hl.mono (fun sb t h => h.kept hg (hs sb t h))⟩
theorem Grp.lt {w : World} {base mb : Nat} {v : Value} {ts : List Int} (h : Grp w base mb v ts) : ∀ k, v.ownBlock = some k → base ≤ k ∧ k < w.heap.size := by
  obtain ⟨ao, cap, xs, e, ho, hl⟩ := h
  exact ho.lt

theorem SInv.lt {w0 wr : World} {B i : Nat} {pv : Value} {D : DataW Value} {T : Lit → List Int} (h : SInv w0 wr B i pv D T) : B + 3 < wr.heap.size := (Array.getElem?_eq_some_iff.1 h.log).1

/-- All that was there stays. -/
theorem SInv.kept {w0 wr w1 : World} {B i : Nat} {pv : Value} {D : DataW Value} {T : Lit → List Int} (h : SInv w0 wr B i pv D T) (hb : Below wr.heap.size wr w1) : SInv w0 w1 B i pv D T := by
  have hlt := h.lt
  have hg := below_grownBy hb
  exact ⟨h.below.trans (hb.mono (by omega)), (hb.block _ (by omega)).trans h.names, (hb.block _ hlt).trans h.log, h.own.kept hg (by simp), fun kl hk => by
    obtain ⟨v, h1, h2⟩ := h.grp kl hk
    exact ⟨v, h1, h2.kept hg (by cases hv : v.ownBlock <;> simp) (by simp)⟩, h.non, h.apart, h.cnt, h.max, h.bnd⟩

/-- What lies under a key. -/
theorem SInv.look {w0 wr : World} {B i : Nat} {pv : Value} {D : DataW Value} {T : Lit → List Int} (h : SInv w0 wr B i pv D T) (kl : Lit) : ∃ v, D.atKey kl (.held (.slice none 0 0)) = .held v ∧ Grp wr (B + 4) (B + 2) v (T kl) ∧
    (∀ kl' v', kl' ≠ kl → (∀ z, D.atKey kl' z = .held v') → v.ownBlock = none ∨ v'.ownBlock ≠ v.ownBlock) ∧ (has D kl = true → ∀ z, D.atKey kl z = .held v) := by
  cases hh : has D kl with
  | true =>
    obtain ⟨v, h1, h2⟩ := h.grp kl hh
    exact ⟨v, h1 _, h2, fun kl' v' hne hv' => .inr (h.apart kl' kl v' v hne hv' h1), fun _ => h1⟩
  | false =>
    have e := h.non kl hh
    refine ⟨.slice none 0 0, atKey_of_not_has hh _, ⟨none, 0, [], by rw [e]; rfl, by rw [e]; exact World.ownsRow_nil _ _ _ _, by rw [e]; rfl⟩, fun _ _ _ _ => .inl rfl, fun h => by cases h⟩

/-- ONE EVENT MORE: the worlds behind the laying of the event, behind the append, behind the store into the map. -/
theorem SInv.next {w0 w2 w3 w4 w5 : World} {B i : Nat} {pv : Value} {D : DataW Value} {T : Lit → List Int} (h : SInv w0 w2 B i pv D T) (kl : Lit) (hkl : WideAt.IsKeyLit kl) {v : Value} {xs : List Value} {ao : Option Addr} {cp : Nat} (he : v = .slice ao (T kl).length cp) (ho : w2.ownsRow (B + 4) 41 10 v (T kl).length xs) (hl : EvList w2 (B + 2) (T kl) xs)
    (hap : ∀ kl' v', kl' ≠ kl → (∀ z, D.atKey kl' z = .held v') → v.ownBlock = none ∨ v'.ownBlock ≠ v.ownBlock) (hat : has D kl = true → ∀ z, D.atKey kl z = .held v)
    (h23 : w2.grownBy w3 none) (h34 : w3.grownBy w4 v.ownBlock) (h45 : w4.grownBy w5 (some (B + 2))) {g cap sb : Nat} {pr : ByteArray} {c t : Int} (hg : v.ownBlock = some g ∨ g = w3.heap.size) (hs : Stamp w2 (B + 2) sb t)
    (how : w4.ownsRow (B + 4) 41 10 (.slice (some ⟨g, 0, none⟩) ((T kl).length + 1) cap) ((T kl).length + 1) (xs ++ evCells pr c sb))
    (hm : w5.ownsMap Yba.prog 9 sliceR (B + 2) (i + 1) (D.put kl (.held (.slice (some ⟨g, 0, none⟩) ((T kl).length + 1) cap)))) (ht : -1 ≤ t ∧ t ≤ 196604) :
    SInv w0 w5 B (i + 1) pv (D.put kl (.held (.slice (some ⟨g, 0, none⟩) ((T kl).length + 1) cap))) (push T kl t) ∧ tot (val_ (push T kl t)) (D.put kl (.held (.slice (some ⟨g, 0, none⟩) ((T kl).length + 1) cap))) = tot (val_ T) D + t := by
  have hlt := h.lt
  have hG := Good.of_owns h.own law9
  have hIM : IsMap D := h.own.isMap
  have hs3 := h23.size
  have hs4 := h34.size
  have hvl := ho.lt
  have hgB : B + 4 ≤ g := by
    rcases hg with e | e
    · exact (hvl g e).1
    · omega
  have hvb : ∀ k, k < B + 4 → some k ≠ v.ownBlock := fun k hk e => by have := (hvl k e.symm).1; omega
  have bl : ∀ k, k < w2.heap.size → some k ≠ v.ownBlock → k ≠ B + 2 → w5.heap[k]? = w2.heap[k]? := fun k h1 h2 h3 =>
    ((h45.block k (by omega) (by simpa using h3)).trans (h34.block k (by omega) h2)).trans (h23.block k h1 (by simp))
  have hst : ∀ sb t, Stamp w2 (B + 2) sb t → Stamp w5 (B + 2) sb t := fun sb t h0 => by
    have h3 := h0.kept h23 (by simp)
    have h4 := h3.kept h34 (h0.not_row ho)
    exact h4.kept h45 (by have := h0.1; simp; omega)
  have hvnew : (Value.slice (some ⟨g, 0, none⟩) ((T kl).length + 1) cap).ownBlock = some g := rfl
  have hgrp5 : Grp w5 (B + 4) (B + 2) (.slice (some ⟨g, 0, none⟩) ((T kl).length + 1) cap) (push T kl t kl) := by
    rw [push_same hkl]
    refine ⟨some ⟨g, 0, none⟩, cap, _, by simp, by rw [List.length_append]; exact how.kept h45 (.inr (by rw [hvnew]; simp; omega)), (hl.snoc hs (pr := pr) (c := c)).mono hst⟩
  refine ⟨⟨?_, ?_, ?_, hm, fun kl' hk' => ?_, fun kl' hk' => ?_, fun k1 k2 v1 v2 hne h1 h2 => ?_, ?_, fun k => ?_, fun k t' ht' => ?_⟩, ?_⟩
  · exact ((h.below.grown h23 (by omega) (by simp)).grown h34 (by omega) (fun k hk => by have := (hvl k hk).1; omega)).grown h45 (by omega) (fun k hk => by cases hk; omega)
  · exact (bl B (by omega) (hvb B (by omega)) (by omega)).trans h.names
  · exact (bl (B + 3) hlt (hvb _ (by omega)) (by omega)).trans h.log
  · by_cases e : kl' = kl
    · subst e
      exact ⟨_, fun z => atKey_put_same hIM hkl _ _, hgrp5⟩
    · rw [has_put_other e] at hk'
      obtain ⟨v', h1, h2⟩ := h.grp kl' hk'
      refine ⟨v', fun z => by rw [atKey_put_other e]; exact h1 z, ?_⟩
      rw [push_other e]
      have g3 := h2.kept h23 (by cases hv : v'.ownBlock <;> simp) (by simp)
      obtain ⟨ao', cap', xs', e1, o1, l1⟩ := h2
      have hne1 : v'.ownBlock = none ∨ v'.ownBlock ≠ v.ownBlock := by
        rcases hap kl' v' e h1 with h0 | h0
        · rw [h0]; cases hv : v'.ownBlock <;> simp
        · exact .inr h0
      have hne2 : v'.ownBlock = none ∨ v'.ownBlock ≠ some (B + 2) := by
        cases hv : v'.ownBlock with
        | none => exact .inl rfl
        | some k => refine .inr (fun e => ?_); have := (o1.lt k hv).1; simp at e; omega
      exact ⟨ao', cap', xs', e1, ((o1.kept h23 (by cases hv : v'.ownBlock <;> simp)).kept h34 hne1).kept h45 hne2, l1.mono hst⟩
  · by_cases e : kl' = kl
    · subst e
      rw [has_put_same hIM hkl] at hk'
      cases hk'
    · rw [has_put_other e] at hk'
      rw [push_other e]
      exact h.non kl' hk'
  · have key : ∀ k' v', k' ≠ kl → (∀ z, D.atKey k' z = .held v') → v'.ownBlock ≠ some g := fun k' v' hne' hv' e => by
      have hh := has_true_of_atKey hv'
      obtain ⟨v'', h1', h2'⟩ := h.grp k' hh
      obtain rfl : v'' = v' := by
        have := (h1' .nil).symm.trans (hv' .nil)
        simpa using this
      have hl' := (h2'.lt g e).2
      rcases hg with e2 | e2
      · rcases hap k' v'' hne' hv' with h0 | h0
        · rw [h0] at e2; cases e2
        · exact h0 (e.trans e2.symm)
      · omega
    by_cases e1 : k1 = kl
    · subst e1
      have e3 : DataW.held v1 = DataW.held (Value.slice (some ⟨g, 0, none⟩) ((T k1).length + 1) cap) := (h1 .nil).symm.trans (atKey_put_same hIM hkl _ _)
      simp at e3
      subst e3
      intro e4
      exact key k2 v2 (Ne.symm hne) (fun z => by rw [← h2 z, atKey_put_other (Ne.symm hne)]) e4.symm
    · by_cases e2 : k2 = kl
      · subst e2
        have e3 : DataW.held v2 = DataW.held (Value.slice (some ⟨g, 0, none⟩) ((T k2).length + 1) cap) := (h2 .nil).symm.trans (atKey_put_same hIM hkl _ _)
        simp at e3
        subst e3
        intro e4
        exact key k1 v1 hne (fun z => by rw [← h1 z, atKey_put_other hne]) e4
      · exact h.apart k1 k2 v1 v2 hne (fun z => by rw [← h1 z, atKey_put_other e1]) (fun z => by rw [← h2 z, atKey_put_other e2])
  · have := tot_push (fun l => (l.length : Int)) 1 hG (T := T) (kl := kl) (t := t) hkl (h.non kl) rfl (by simp) (fun hh => ⟨v, hat hh⟩) (.slice (some ⟨g, 0, none⟩) ((T kl).length + 1) cap)
    have hc := h.cnt
    unfold cnt_ at hc ⊢
    rw [this, hc]
    omega
  · have hm1 := h.max k
    have hm2 := h.max kl
    unfold push
    split <;> simp <;> omega
  · unfold push at ht'
    split at ht'
    · rcases List.mem_append.1 ht' with h1 | h1
      · exact h.bnd kl t' h1
      · simp at h1; omega
    · exact h.bnd k t' ht'
  · exact tot_push sumL t hG (T := T) (kl := kl) (t := t) hkl (h.non kl) rfl (by rw [sumL_append]; simp [sumL]) (fun hh => ⟨v, hat hh⟩) _
end Go.Proofs.Ybulkgly
