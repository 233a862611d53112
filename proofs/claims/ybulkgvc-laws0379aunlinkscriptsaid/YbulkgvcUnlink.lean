/-
  unlink, walked.
-/
import Derived.Test.YbulkgvcLink
import Derived.Deep.RegionHeld3
namespace Go.Proofs.Ybulkgvc
open Go.RowKit
set_option linter.unusedVariables false
set_option linter.unusedSimpArgs false

theorem off1_same {s : Lk} {x : Nat} (hy : ∀ y, s.newer x = some y → y ≠ x) : (s.off1 x).newer x = s.newer x ∧ (s.off1 x).older x = s.older x := by
  unfold Lk.off1
  split
  · rename_i y e
    exact ⟨rfl, setAt_other (hy y e).symm⟩
  · exact ⟨rfl, rfl⟩

theorem off2_same {s : Lk} {x : Nat} (hy : ∀ y, s.older x = some y → y ≠ x) : (s.off2 x).newer x = s.newer x ∧ (s.off2 x).older x = s.older x := by
  unfold Lk.off2
  split
  · rename_i y e
    exact ⟨setAt_other (hy y e).symm, rfl⟩
  · exact ⟨rfl, rfl⟩

set_option maxRecDepth 100000 in
set_option maxHeartbeats 2000000 in
theorem unlink_any (w : World) (P : Nat) (c : Nat → Nat) (n x : Nat) (s : Lk) (h : Rep w P c n s) (hx : x < n) (hy : ∀ y, s.newer x = some y → y < n ∧ y ≠ x) (hz : ∀ y, s.older x = some y → y < n ∧ y ≠ x) :
    Calls Yba.prog 7 #[.pointer (some ⟨P, 0, none⟩), .pointer (some ⟨c x, 0, none⟩)] w fun e w' => e = .returned (.tuple #[]) ∧ Rep w' P c n (s.unlink x) ∧ Turn P c n w w' := by
  have H0 : Hid (Rep w P c n s) := h
  have HO : Hid _ := off1_same (s := s) (x := x) (fun y e => (hy y e).2)
  obtain ⟨a1, a2, a3, a4⟩ := h.new
  obtain ⟨b1, b2, b3, b4⟩ := h.nod hx
  clear h
  go_enter Yba.func7, Yba.ntmps7
  cases hs : s.newer x with
  | none =>
    have HS : Hid (s.newer x = none) := hs
    simp only [hs, ptr, Option.map_some, Option.map_none] at b1
    have H1 : Hid (Rep (w.setCell ⟨P, 5, none⟩ (ptr c (s.older x))) P c n (s.off1 x)) := by
      have := H0.out.setNew (s.older x)
      simp only [Lk.off1, hs]
      exact this
    have HT1 : Hid (Turn P c n w (w.setCell ⟨P, 5, none⟩ (ptr c (s.older x)))) := (Turn.refl P c n w).setP 5 (ptr c (s.older x))
    clear hs
    simp only [ptr] at a1 a2 b1 b2 H1 HT1
    generalize (s.older x).map (fun i => (⟨c i, 0, none⟩ : Addr)) = po at *
    go_upto_region 3 with fail
    generalize w.setCell ⟨P, 5, none⟩ (.pointer po) = w1 at *
    clear a1 a2 a3 a4 b1 b2 b3 b4
    obtain ⟨ho1, ho2⟩ := HO.out
    obtain ⟨a1, a2, a3, a4⟩ := H1.out.new
    obtain ⟨b1, b2, b3, b4⟩ := H1.out.nod hx
    rw [ho1, HS.out] at b1
    rw [ho2] at b2
    cases hs2 : s.older x with
    | none =>
      have HS2 : Hid (s.older x = none) := hs2
      have H2 : Hid (Rep (w1.setCell ⟨P, 6, none⟩ (ptr c (none))) P c n ((s.off1 x).off2 x)) := by
        have := H1.out.setOld (none)
        simp only [Lk.off2, ho2, hs2, ho1, HS.out]
        exact this
      have HT2 : Hid (Turn P c n w (w1.setCell ⟨P, 6, none⟩ (ptr c (none)))) := HT1.out.setP 6 _
      rw [hs2] at b2
      clear hs2 ho1 ho2
      simp only [ptr, Option.map_some, Option.map_none] at a1 a2 b1 b2 H2 HT2
      go_upto_region 6 with fail
      generalize w1.setCell ⟨P, 6, none⟩ (.pointer none) = w2 at *
      have H3 : Hid (Rep _ P c n _) := H2.out.setNewer hx none
      have HT3 : Hid (Turn P c n w _) := HT2.out.setC hx 5 (ptr c none)
      obtain ⟨f1, f2, f3, f4⟩ := H2.out.nod hx
      obtain ⟨g1, g2, g3, g4⟩ := H3.out.nod hx
      have H4 : Hid (Rep _ P c n (s.unlink x)) := H3.out.setOlder hx none
      have HT4 : Hid (Turn P c n w _) := HT3.out.setC hx 6 (ptr c none)
      clear H3 HT3
      simp only [ptr, Option.map_some, Option.map_none] at f1 f2 f3 f4 g1 g2 g3 g4 H4 HT4
      go_wp2_with fail
      go_end0
      exact ⟨rfl, H4.out, HT4.out⟩
    | some z =>
      have HS2 : Hid (s.older x = some z) := hs2
      have hzn := (hz z hs2).1
      have ho3 := off2_same (s := s.off1 x) (x := x) (fun y e => by rw [ho2] at e; exact (hz y e).2)
      have H2 : Hid (Rep ((w1.setCell ⟨c z, 5, none⟩ (ptr c (none))).drew) P c n ((s.off1 x).off2 x)) := by
        have := (H1.out.setNewer hzn (none)).drew
        simp only [Lk.off2, ho2, hs2, ho1, HS.out]
        exact this
      have HT2 : Hid (Turn P c n w ((w1.setCell ⟨c z, 5, none⟩ (ptr c (none))).drew)) := (HT1.out.setC hzn 5 _).drew
      rw [hs2] at b2
      obtain ⟨k1, k2, _, _⟩ := H2.out.nod hx
      rw [ho3.1, ho1, HS.out] at k1
      rw [ho3.2, ho2, hs2] at k2
      clear hs2 ho1 ho2 ho3
      obtain ⟨d1, d2, d3, d4⟩ := H1.out.drew.nod hzn
      simp only [ptr, Option.map_some, Option.map_none] at a1 a2 b1 b2 d1 d2 k1 k2 H2 HT2
      go_upto_region 4 with fail
      go_region_held3 (fun w' => w'.cell? ⟨c x, 5, none⟩ = some (.pointer none) ∧ w'.cell? ⟨c x, 6, none⟩ = some (.pointer (some ⟨c z, 0, none⟩)))
        (first | exact ⟨b1, b2⟩ | exact ⟨k1, k2⟩) (fail)
      generalize (w1.setCell ⟨c z, 5, none⟩ (.pointer none)).drew = w2 at *
      clear d1 d2 d3 d4 k1 k2
      have H3 : Hid (Rep _ P c n _) := H2.out.setNewer hx none
      have HT3 : Hid (Turn P c n w _) := HT2.out.setC hx 5 (ptr c none)
      obtain ⟨f1, f2, f3, f4⟩ := H2.out.nod hx
      obtain ⟨g1, g2, g3, g4⟩ := H3.out.nod hx
      have H4 : Hid (Rep _ P c n (s.unlink x)) := H3.out.setOlder hx none
      have HT4 : Hid (Turn P c n w _) := HT3.out.setC hx 6 (ptr c none)
      clear H3 HT3
      simp only [ptr, Option.map_some, Option.map_none] at f1 f2 f3 f4 g1 g2 g3 g4 H4 HT4
      go_wp2_with fail
      go_end0
      exact ⟨rfl, H4.out, HT4.out⟩
  | some y =>
    have HS : Hid (s.newer x = some y) := hs
    obtain ⟨hyn, hyx⟩ := hy y hs
    rw [hs] at b1
    obtain ⟨ho1, ho2⟩ := HO.out
    obtain ⟨d1, d2, d3, d4⟩ := H0.out.nod hyn
    cases hs2 : s.older x with
    | none =>
      have ra : Rep (w.setCell ⟨c y, 6, none⟩ (ptr c none)) P c n (s.off1 x) := by
        have := H0.out.setOlder hyn none
        simp only [Lk.off1, hs, hs2]
        exact this
      have ta : Turn P c n w (w.setCell ⟨c y, 6, none⟩ (ptr c none)) := (Turn.refl P c n w).setC hyn 6 (ptr c none)
      obtain ⟨p1, p2, p3, p4⟩ := ra.new
      obtain ⟨k1, k2, k3, k4⟩ := ra.nod hx
      rw [ho1, hs] at k1
      rw [ho2, hs2] at k2
      rw [hs2] at b2
      have rb : Rep ((w.setCell ⟨c y, 6, none⟩ (ptr c none)).setCell ⟨P, 6, none⟩ (ptr c (some y))) P c n ((s.off1 x).off2 x) := by
        have := ra.setOld (some y)
        simp only [Lk.off2, ho2, ho1, hs, hs2]
        exact this
      have rc := rb.setNewer hx none
      have rd := rc.setOlder hx none
      obtain ⟨f1, f2, f3, f4⟩ := rb.nod hx
      obtain ⟨g1, g2, g3, g4⟩ := rc.nod hx
      have H4 : Hid (Rep _ P c n (s.unlink x)) := rd
      have HT4 : Hid (Turn P c n w _) := ((ta.setP 6 (ptr c (some y))).setC hx 5 (ptr c none)).setC hx 6 (ptr c none)
      clear hs hs2 ho1 ho2 ra ta rb rc rd
      simp only [ptr, Option.map_some, Option.map_none] at *
      go_upto_region 1 with fail
      go_region_held3 (fun w' => w'.cell? ⟨c x, 5, none⟩ = some (.pointer (some ⟨c y, 0, none⟩)) ∧ w'.cell? ⟨c x, 6, none⟩ = some (.pointer none))
        (first | exact ⟨b1, b2⟩ | exact ⟨k1, k2⟩) (fail)
      go_wp2_with fail
      go_end0
      exact ⟨rfl, H4.out.drew, HT4.out.drew⟩
    | some z =>
      obtain ⟨hzn, hzx⟩ := hz z hs2
      have ra : Rep (w.setCell ⟨c y, 6, none⟩ (ptr c (some z))) P c n (s.off1 x) := by
        have := H0.out.setOlder hyn (some z)
        simp only [Lk.off1, hs, hs2]
        exact this
      have ta : Turn P c n w (w.setCell ⟨c y, 6, none⟩ (ptr c (some z))) := (Turn.refl P c n w).setC hyn 6 (ptr c (some z))
      have ho3 := off2_same (s := s.off1 x) (x := x) (fun y e => by rw [ho2] at e; exact (hz y e).2)
      obtain ⟨p1, p2, p3, p4⟩ := ra.nod hzn
      obtain ⟨k1, k2, k3, k4⟩ := ra.nod hx
      rw [ho1, hs] at k1
      rw [ho2, hs2] at k2
      rw [hs2] at b2
      have rb : Rep ((w.setCell ⟨c y, 6, none⟩ (ptr c (some z))).setCell ⟨c z, 5, none⟩ (ptr c (some y))) P c n ((s.off1 x).off2 x) := by
        have := ra.setNewer hzn (some y)
        simp only [Lk.off2, ho2, ho1, hs, hs2]
        exact this
      have rc := rb.setNewer hx none
      have rd := rc.setOlder hx none
      obtain ⟨f1, f2, f3, f4⟩ := rb.nod hx
      rw [ho3.1, ho1, hs] at f1
      rw [ho3.2, ho2, hs2] at f2
      obtain ⟨g1, g2, g3, g4⟩ := rc.nod hx
      have H4 : Hid (Rep _ P c n (s.unlink x)) := rd
      have HT4 : Hid (Turn P c n w _) := ((ta.setC hzn 5 (ptr c (some y))).setC hx 5 (ptr c none)).setC hx 6 (ptr c none)
      clear hs hs2 ho1 ho2 ho3 ra ta rb rc rd
      simp only [ptr, Option.map_some, Option.map_none] at *
      go_upto_region 1 with fail
      go_region_held3 (fun w' => w'.cell? ⟨c x, 5, none⟩ = some (.pointer (some ⟨c y, 0, none⟩)) ∧ w'.cell? ⟨c x, 6, none⟩ = some (.pointer (some ⟨c z, 0, none⟩)))
        (first | exact ⟨b1, b2⟩ | exact ⟨k1, k2⟩) (fail)
      go_upto_region 4 with fail
      go_region_held3 (fun w' => w'.cell? ⟨c x, 5, none⟩ = some (.pointer (some ⟨c y, 0, none⟩)) ∧ w'.cell? ⟨c x, 6, none⟩ = some (.pointer (some ⟨c z, 0, none⟩)))
        (first | exact ⟨k1, k2⟩ | exact ⟨f1, f2⟩) (fail)
      go_wp2_with fail
      go_end0
      exact ⟨rfl, H4.out.drew.drew, HT4.out.drew.drew⟩
end Go.Proofs.Ybulkgvc
