/-
  link, walked.
-/
import Derived.Test.YbulkgvcRep
import Derived.Deep.Cut
namespace Go.Proofs.Ybulkgvc
open Go.RowKit
set_option linter.unusedVariables false
set_option linter.unusedSimpArgs false

set_option maxRecDepth 100000 in
set_option maxHeartbeats 1000000 in
theorem link_any (w : World) (P : Nat) (c : Nat → Nat) (n x : Nat) (s : Lk) (h : Rep w P c n s) (hx : x < n) (hy : ∀ y, s.newest = some y → y < n) :
    Calls Yba.prog 5 #[.pointer (some ⟨P, 0, none⟩), .pointer (some ⟨c x, 0, none⟩)] w fun e w' => e = .returned (.tuple #[]) ∧ Rep w' P c n (s.link x) ∧ Turn P c n w w' := by
  have H0 : Hid (Rep w P c n s) := h
  obtain ⟨a1, a2, a3, a4⟩ := h.new
  obtain ⟨b1, b2, b3, b4⟩ := h.nod hx
  have h1 := h.setNewer hx none
  have T1 := (Turn.refl P c n w).setC hx 5 (ptr c none)
  obtain ⟨_, d2, _, d4⟩ := h1.nod hx
  have h2 := h1.setOlder hx s.newest
  have T2 := T1.setC hx 6 (ptr c s.newest)
  clear h h1 T1
  have H2 : Hid (Rep _ P c n _) := h2
  have HT2 : Hid (Turn P c n w _) := T2
  clear h2 T2
  cases hs : s.newest with
  | none =>
    have HS : Hid (s.newest = none) := hs
    simp only [hs, ptr, Option.map_some, Option.map_none] at a1 a2 b1 b2 d2 H2 HT2
    clear hs
    go_enter Yba.func5, Yba.ntmps5
    go_upto_region 1 with fail
    generalize (w.setCell ⟨c x, 5, none⟩ (.pointer none)).setCell ⟨c x, 6, none⟩ (.pointer none) = w2 at *
    clear a1 a2 a3 a4 b1 b2 b3 b4 d2 d4
    obtain ⟨a1, a2, a3, a4⟩ := H2.out.new
    have h3 := H2.out.setOld (some x)
    have T3 := HT2.out.setP 6 (ptr c (some x))
    obtain ⟨e1, e2, e3, e4⟩ := h3.new
    have H4 : Hid (Rep _ P c n _) := h3.setNew (some x)
    have HT4 : Hid (Turn P c n w _) := T3.setP 5 (ptr c (some x))
    clear h3 T3
    simp only [ptr, Option.map_some, Option.map_none] at *
    go_wp2_with fail
    go_end0
    refine ⟨rfl, ?_, HT4.out⟩
    simp only [Lk.link, HS.out]
    exact H4.out
  | some y =>
    have HS : Hid (s.newest = some y) := hs
    have hyn := hy y hs
    simp only [hs, ptr, Option.map_some, Option.map_none] at a1 a2 b1 b2 d2 H2 HT2
    clear hs
    go_enter Yba.func5, Yba.ntmps5
    go_upto_region 1 with fail
    generalize (w.setCell ⟨c x, 5, none⟩ (.pointer none)).setCell ⟨c x, 6, none⟩ (.pointer (some ⟨c y, 0, none⟩)) = w2 at *
    clear a1 a2 a3 a4 b1 b2 b3 b4 d2 d4
    obtain ⟨a1, a2, a3, a4⟩ := H2.out.new
    obtain ⟨b1, b2, b3, b4⟩ := H2.out.nod hyn
    have h3 := H2.out.setNewer hyn (some x)
    have T3 := HT2.out.setC hyn 5 (ptr c (some x))
    obtain ⟨e1, e2, e3, e4⟩ := h3.new
    have H4 : Hid (Rep _ P c n _) := h3.setNew (some x)
    have HT4 : Hid (Turn P c n w _) := T3.setP 5 (ptr c (some x))
    clear h3 T3
    simp only [ptr, Option.map_some, Option.map_none] at *
    go_wp2_with fail
    go_end0
    refine ⟨rfl, ?_, HT4.out⟩
    simp only [Lk.link, HS.out]
    exact H4.out
end Go.Proofs.Ybulkgvc
