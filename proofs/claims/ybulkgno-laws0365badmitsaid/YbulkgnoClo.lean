/-
  The three closures, walked: two that compare, one that asks whether two names are one.
-/
import Derived.Test.YbulkgnoOrd
import Derived.Sort.Grow
import Derived.Deep.RegionWith
import Derived.Laws.AppendOwn
namespace Go.Proofs.Ybulkgno
open Go.RowKit Go.Sort
set_option linter.unusedVariables false
set_option linter.unusedSimpArgs false

abbrev RefV := ByteArray × ByteArray
def cut (s : ByteArray) : ByteArray := if s.size ≤ 9223372036854775807 then s else ByteArray.empty
theorem cut_le (s : ByteArray) : (cut s).size ≤ 9223372036854775807 := by
  unfold cut
  split
  · assumption
  · decide
def enc (x : RefV) : List Value := [.string (cut x.1), .string x.2]
def cf (self : ByteArray) (side : Int) (x y : RefV) : Int := ord self side (cut x.1) (cut y.1)

theorem two_grow (W : World) (o1 o2 : Obj) (q : Nat) : ∃ q' os, ((W.alloc o1).alloc o2).drewN q = grow (W.drewN q') os := ⟨q, #[o1, o2], by
  rw [alloc_eq_grow, alloc_eq_grow, grow_grow]; rfl⟩

theorem keep2 {W : World} {a : Addr} {v : Value} (h : W.cell? a = some v) (o1 o2 : Obj) : ((W.alloc o1).alloc o2).cell? a = some v :=
  (World.grownBy_alloc _ o2 none).cell ((World.grownBy_alloc W o1 none).cell h (by simp)) (by simp)

set_option maxRecDepth 100000 in
set_option maxHeartbeats 1000000 in
theorem clo8 (self : ByteArray) (side : Int) (bs bd : Nat) (x y : RefV) (W : World) (hs : self.size ≤ 9223372036854775807) (h0 : side = 0 ∨ side = 1) (c1 : W.cell? ⟨bs, 0, none⟩ = some (.string self)) (c2 : W.cell? ⟨bd, 0, none⟩ = some (.int .i64 side)) :
    Calls Yba.prog 8 #[.agg #[.string (cut x.1), .string x.2], .agg #[.string (cut y.1), .string y.2], .pointer (some ⟨bs, 0, none⟩), .pointer (some ⟨bd, 0, none⟩)] W fun e w' => e = .returned (.int .i64 (cf self side x y)) ∧ ∃ q os, w' = grow (W.drewN q) os := by
  have HO : Hid (∀ W', Calls Yba.prog 9 #[.string self, .int .i64 side, .string (cut x.1), .string (cut y.1)] W' fun e w' => e = .returned (.int .i64 (cf self side x y)) ∧ ∃ q, w' = W'.drewN q) := fun W' => ord_any self _ _ side W' hs (cut_le _) (cut_le _) h0
  have d1 : ((W.alloc (.cells #[.string (cut x.1), .string x.2] 26)).alloc (.cells #[.string (cut y.1), .string y.2] 26)).cell? ⟨bs, 0, none⟩ = some (.string self) := keep2 c1 _ _
  have d2 : ((W.alloc (.cells #[.string (cut x.1), .string x.2] 26)).alloc (.cells #[.string (cut y.1), .string y.2] 26)).cell? ⟨bd, 0, none⟩ = some (.int .i64 side) := keep2 c2 _ _
  go_enter Yba.func8, Yba.ntmps8
  go_wp2_with (go_at_call 9; refine Calls.mono (HO.out _) ?_; rintro e w' ⟨rfl, q, rfl⟩)
  go_ret
  exact ⟨rfl, two_grow W _ _ q⟩

set_option maxRecDepth 100000 in
set_option maxHeartbeats 1000000 in
theorem clo11 (x y : RefV) (W : World) :
    Calls Yba.prog 11 #[.agg #[.string (cut x.1), .string x.2], .agg #[.string (cut y.1), .string y.2]] W fun e w' => e = .returned (.bool ((cut x.1).toList == (cut y.1).toList)) ∧ ∃ q os, w' = grow (W.drewN q) os := by
  go_enter Yba.func11, Yba.ntmps11
  go_wp2_with fail
  go_ret
  exact ⟨rfl, two_grow W _ _ 0⟩

set_option maxRecDepth 100000 in
set_option maxHeartbeats 1000000 in
theorem clo36 (self : ByteArray) (side : Int) (bs bd : Nat) (x y : RefV) (W : World) (hs : self.size ≤ 9223372036854775807) (h0 : side = 0 ∨ side = 1) (c1 : W.cell? ⟨bs, 0, none⟩ = some (.string self)) (c2 : W.cell? ⟨bd, 0, none⟩ = some (.int .i64 side)) :
    Calls Yba.prog 36 #[.agg #[.string (cut x.1), .string x.2], .agg #[.string (cut y.1), .string y.2], .pointer (some ⟨bs, 0, none⟩), .pointer (some ⟨bd, 0, none⟩)] W fun e w' => e = .returned (.int .i64 (cf self side x y)) ∧ ∃ q os, w' = grow (W.drewN q) os := by
  have d1 : ((W.alloc (.cells #[.string (cut x.1), .string x.2] 26)).alloc (.cells #[.string (cut y.1), .string y.2] 26)).cell? ⟨bs, 0, none⟩ = some (.string self) := keep2 c1 _ _
  have d2 : ((W.alloc (.cells #[.string (cut x.1), .string x.2] 26)).alloc (.cells #[.string (cut y.1), .string y.2] 26)).cell? ⟨bd, 0, none⟩ = some (.int .i64 side) := keep2 c2 _ _
  have d3 : ((W.alloc (.cells #[.string (cut x.1), .string x.2] 26)).alloc (.cells #[.string (cut y.1), .string y.2] 26)).cell? ⟨W.heap.size, 0, none⟩ = some (.string (cut x.1)) := by simp
  have d4 : ((W.alloc (.cells #[.string (cut x.1), .string x.2] 26)).alloc (.cells #[.string (cut y.1), .string y.2] 26)).cell? ⟨W.heap.size + 1, 0, none⟩ = some (.string (cut y.1)) := by simp
  have HG : Hid (∀ q, ∃ q' os, ((W.alloc (.cells #[.string (cut x.1), .string x.2] 26)).alloc (.cells #[.string (cut y.1), .string y.2] 26)).drewN q = grow (W.drewN q') os) := fun q => two_grow W _ _ q
  have HXS : Hid (∀ W', Calls Yba.prog 20 #[.string (cut x.1), .string self] W' fun e w' => e = .returned (.int .i64 (cmpS (cut x.1) self)) ∧ ∃ q, w' = W'.drewN q) := fun W' => cmp_any _ _ W' (cut_le _) hs
  have HYS : Hid (∀ W', Calls Yba.prog 20 #[.string (cut y.1), .string self] W' fun e w' => e = .returned (.int .i64 (cmpS (cut y.1) self)) ∧ ∃ q, w' = W'.drewN q) := fun W' => cmp_any _ _ W' (cut_le _) hs
  have HXY : Hid (∀ W', Calls Yba.prog 20 #[.string (cut x.1), .string (cut y.1)] W' fun e w' => e = .returned (.int .i64 (cmpS (cut x.1) (cut y.1))) ∧ ∃ q, w' = W'.drewN q) := fun W' => cmp_any _ _ W' (cut_le _) (cut_le _)
  have HYX : Hid (∀ W', Calls Yba.prog 20 #[.string (cut y.1), .string (cut x.1)] W' fun e w' => e = .returned (.int .i64 (cmpS (cut y.1) (cut x.1))) ∧ ∃ q, w' = W'.drewN q) := fun W' => cmp_any _ _ W' (cut_le _) (cut_le _)
  have HCF : Hid (cf self side x y = ord self side (cut x.1) (cut y.1)) := rfl
  go_enter Yba.func36, Yba.ntmps36
  go_upto_region 1 with fail
  generalize (W.alloc (.cells #[.string (cut x.1), .string x.2] 26)).alloc (.cells #[.string (cut y.1), .string y.2] 26) = W2 at *
  clear c1 c2
  generalize cut x.1 = a at *
  generalize cut y.1 = b at *
  go_quiet (first | (go_at_call_of 20 (Value.string a); exact Calls.quiet_of (HXS.out _)) | (go_at_call_of 20 (Value.string b); exact Calls.quiet_of (HYS.out _)))
  have e1 : ∀ W' : World, ∀ q, W'.drewN q = W'.drewN q := fun _ _ => rfl
  clear e1 HXS HYS
  rcases h0 with rfl | rfl
  · by_cases hp : cmpS a self < 0
    · by_cases hq : cmpS b self < 0
      · have hd1 : decide (cmpS a self < 0) = true := by simp [hp]
        have hd2 : decide (cmpS b self < 0) = true := by simp [hq]
        have HV : Hid (cf self 0 x y = cmpS b a) := HCF.out.trans (by simp [ord, grp, hp, hq])
        clear hp hq
        go_wp2_with (first | (go_at_call 20; refine Calls.mono (HYX.out _) ?_; rintro e w' ⟨rfl, q, rfl⟩))
        go_ret
        exact ⟨by rw [HV.out]; rfl, HG.out _⟩
      · have hd1 : decide (cmpS a self < 0) = true := by simp [hp]
        have hd2 : decide (cmpS b self < 0) = false := by simp [hq]
        have HV : Hid (cf self 0 x y = -1) := HCF.out.trans (by simp [ord, grp, hp, hq])
        clear hp hq
        go_wp2_with fail
        go_ret
        exact ⟨by rw [HV.out]; rfl, HG.out _⟩
    · by_cases hq : cmpS b self < 0
      · have hd1 : decide (cmpS a self < 0) = false := by simp [hp]
        have hd2 : decide (cmpS b self < 0) = true := by simp [hq]
        have HV : Hid (cf self 0 x y = 1) := HCF.out.trans (by simp [ord, grp, hp, hq])
        clear hp hq
        go_wp2_with fail
        go_ret
        exact ⟨by rw [HV.out]; rfl, HG.out _⟩
      · have hd1 : decide (cmpS a self < 0) = false := by simp [hp]
        have hd2 : decide (cmpS b self < 0) = false := by simp [hq]
        have HV : Hid (cf self 0 x y = cmpS b a) := HCF.out.trans (by simp [ord, grp, hp, hq])
        clear hp hq
        go_wp2_with (first | (go_at_call 20; refine Calls.mono (HYX.out _) ?_; rintro e w' ⟨rfl, q, rfl⟩))
        go_ret
        exact ⟨by rw [HV.out]; rfl, HG.out _⟩
  · by_cases hp : cmpS a self < 0
    · by_cases hq : cmpS b self < 0
      · have hd1 : decide (cmpS a self < 0) = true := by simp [hp]
        have hd2 : decide (cmpS b self < 0) = true := by simp [hq]
        have HV : Hid (cf self 1 x y = cmpS a b) := HCF.out.trans (by simp [ord, grp, hp, hq])
        clear hp hq
        go_wp2_with (first | (go_at_call 20; refine Calls.mono (HXY.out _) ?_; rintro e w' ⟨rfl, q, rfl⟩))
        go_ret
        exact ⟨by rw [HV.out]; rfl, HG.out _⟩
      · have hd1 : decide (cmpS a self < 0) = true := by simp [hp]
        have hd2 : decide (cmpS b self < 0) = false := by simp [hq]
        have HV : Hid (cf self 1 x y = 1) := HCF.out.trans (by simp [ord, grp, hp, hq])
        clear hp hq
        go_wp2_with fail
        go_ret
        exact ⟨by rw [HV.out]; rfl, HG.out _⟩
    · by_cases hq : cmpS b self < 0
      · have hd1 : decide (cmpS a self < 0) = false := by simp [hp]
        have hd2 : decide (cmpS b self < 0) = true := by simp [hq]
        have HV : Hid (cf self 1 x y = -1) := HCF.out.trans (by simp [ord, grp, hp, hq])
        clear hp hq
        go_wp2_with fail
        go_ret
        exact ⟨by rw [HV.out]; rfl, HG.out _⟩
      · have hd1 : decide (cmpS a self < 0) = false := by simp [hp]
        have hd2 : decide (cmpS b self < 0) = false := by simp [hq]
        have HV : Hid (cf self 1 x y = cmpS a b) := HCF.out.trans (by simp [ord, grp, hp, hq])
        clear hp hq
        go_wp2_with (first | (go_at_call 20; refine Calls.mono (HXY.out _) ?_; rintro e w' ⟨rfl, q, rfl⟩))
        go_ret
        exact ⟨by rw [HV.out]; rfl, HG.out _⟩
end Go.Proofs.Ybulkgno
