/-
  CompareNames, walked; and what it answers.
-/
import Derived.Test.YbulkgnoRows
import Derived.WalkKit
import Derived.WalkSpells
import Derived.WalkLawsBesides
import Derived.Below
import Derived.BigQuiet
import Derived.Deep.QuietTactic
import Derived.Deep.Cut
namespace Go.Proofs.Ybulkgno
open Go.RowKit
set_option linter.unusedVariables false
set_option linter.unusedSimpArgs false

def rank (c : Int) : Int := if c = 47 then -1 else c
set_option maxRecDepth 100000 in
theorem rank_any (c : Int) (w : World) (h0 : 0 ≤ c) (h1 : c ≤ 255) : Calls Yba.prog 35 #[.int .u8 c] w fun e w' => e = .returned (.int .i64 (rank c)) ∧ w' = w := by
  unfold rank
  by_cases h : c = 47
  · subst h
    go_enter Yba.func35, Yba.ntmps35
    go_wp2_with fail
    go_ret
    exact ⟨rfl, rfl⟩
  · rw [if_neg h]
    go_enter Yba.func35, Yba.ntmps35
    go_wp2_with fail
    go_ret
    exact ⟨rfl, rfl⟩

theorem drewN_add (w : World) (a b : Nat) : (w.drewN a).drewN b = w.drewN (a + b) := by simp [World.drewN, Nat.add_assoc]
theorem rank_byte (b : UInt8) (w : World) : Calls Yba.prog 35 #[.int .u8 (b.toNat : Int)] w fun e w' => e = .returned (.int .i64 (rank b.toNat)) ∧ w' = w :=
  rank_any _ w (by omega) (by have := UInt8.toNat_lt b; omega)
/-- What CompareNames answers. -/
def cmpL : List UInt8 → List UInt8 → Int
  | [], [] => 0
  | [], _ :: _ => -1
  | _ :: _, [] => 1
  | a :: xs, b :: ys => if (a.toNat : Int) = b.toNat then cmpL xs ys else if rank a.toNat < rank b.toNat then -1 else 1
def cmpS (s t : ByteArray) : Int := cmpL s.data.toList t.data.toList
theorem drop_at (s : ByteArray) (j : Nat) (h : j < s.size) : s.data.toList.drop j = s[j] :: s.data.toList.drop (j + 1) := by
  have h' : j < s.data.toList.length := by rw [Array.length_toList]; exact h
  rw [List.drop_eq_getElem_cons h']
  rfl
theorem drop_end (s : ByteArray) (j : Nat) (h : s.size ≤ j) : s.data.toList.drop j = [] := by
  apply List.drop_eq_nil_of_le
  rw [Array.length_toList]
  exact h

set_option maxRecDepth 100000 in
set_option maxHeartbeats 1000000 in
theorem cmp_any (s t : ByteArray) (w : World) (hs : s.size ≤ 9223372036854775807) (ht : t.size ≤ 9223372036854775807) : Calls Yba.prog 20 #[.string s, .string t] w fun e w' => e = .returned (.int .i64 (cmpS s t)) ∧ ∃ q, w' = w.drewN q := by
  go_enter Yba.func20, Yba.ntmps20
  go_wp2_with fail
  all_goals
    go_loopw [6] (fun v wr => ∃ j q : Nat, j ≤ s.size ∧ j ≤ t.size ∧ v = .int .i64 (j : Int) ∧ cmpS s t = cmpL (s.data.toList.drop j) (t.data.toList.drop j) ∧ wr = w.drewN q) (fun v _ => s.size - (intOf v).toNat)
    case atStart => exact ⟨0, 0, Nat.zero_le _, Nat.zero_le _, rfl, rfl, rfl⟩
    case round =>
      obtain ⟨j, q, hj1, hj2, rfl, hinv, hwr⟩ := hrel
      have HWR : Hid (wr = w.drewN q) := hwr
      clear hwr
      by_cases hlt : j < s.size ∧ j < t.size
      · obtain ⟨hl1, hl2⟩ := hlt
        have hl1' : (j : Int) < s.size := by omega
        have hl2' : (j : Int) < t.size := by omega
        rw [drop_at s j hl1, drop_at t j hl2, cmpL] at hinv
        have hx : s[j].toNat ≤ 255 := by have := UInt8.toNat_lt s[j]; omega
        have hy : t[j].toNat ≤ 255 := by have := UInt8.toNat_lt t[j]; omega
        have HINV : Hid _ := hinv
        clear hinv
        go_upto_region 5 with fail
        go_quiet (fail)
        by_cases hxy : (s[j].toNat : Int) = t[j].toNat
        · have HI : Hid (cmpS s t = cmpL (s.data.toList.drop (j + 1)) (t.data.toList.drop (j + 1))) := HINV.out.trans (if_pos hxy)
          go_wp2_with fail
          go_roundw
          case rel => exact ⟨j + 1, q + nq, by omega, by omega, by go_num, HI.out, by rw [HWR.out]; exact drewN_add w q nq⟩
          case measure => simp [intOf]; omega
        · have HI : Hid (cmpS s t = if rank s[j].toNat < rank t[j].toNat then -1 else 1) := HINV.out.trans (if_neg hxy)
          clear HINV
          go_upto_region 6 with fail
          have HW5 : Hid (∃ r, wr.drewN nq = w.drewN r) := ⟨_, by rw [HWR.out, drewN_add]⟩
          generalize wr.drewN nq = w5 at *
          go_quiet (first | (go_at_call 35; exact Calls.quiet_of_same (rank_byte _ _)))
          have HW2 : Hid (∃ r, w5.drewN nq = w.drewN r) := by obtain ⟨r, hr⟩ := HW5.out; exact ⟨r + nq, by rw [hr, drewN_add]⟩
          by_cases hr : rank s[j].toNat < rank t[j].toNat
          · rw [if_pos hr] at HI
            go_wp2_with fail
            go_ret
            exact ⟨by rw [HI.out]; rfl, HW2.out⟩
          · rw [if_neg hr] at HI
            go_wp2_with fail
            go_ret
            exact ⟨by rw [HI.out]; rfl, HW2.out⟩
      · have HW2 : Hid (∃ r, wr = w.drewN r) := ⟨q, HWR.out⟩
        rcases Nat.lt_trichotomy s.size t.size with h | h | h
        · first
          | (exfalso; omega)
          | (have hi : (s.size : Int) < t.size := by omega
             obtain rfl : j = s.size := by omega
             rw [drop_end s _ (Nat.le_refl _), drop_at t _ h, cmpL] at hinv
             have HI : Hid (cmpS s t = -1) := hinv
             clear hinv
             go_wp2_with fail
             go_ret
             exact ⟨by rw [HI.out]; rfl, HW2.out⟩)
        · first
          | (exfalso; omega)
          | (have hi : (s.size : Int) = t.size := by omega
             obtain rfl : j = s.size := by omega
             rw [drop_end s _ (Nat.le_refl _), drop_end t _ (by omega), cmpL] at hinv
             have HI : Hid (cmpS s t = 0) := hinv
             clear hinv
             have hi2 : ¬ (s.size : Int) < t.size := by omega
             have hi3 : ¬ (t.size : Int) < s.size := by omega
             go_wp2_with fail
             go_ret
             exact ⟨by rw [HI.out]; rfl, HW2.out⟩)
        · first
          | (exfalso; omega)
          | (have hi : (t.size : Int) < s.size := by omega
             obtain rfl : j = t.size := by omega
             rw [drop_end t _ (Nat.le_refl _), drop_at s _ h, cmpL] at hinv
             have HI : Hid (cmpS s t = 1) := hinv
             clear hinv
             have hi2 : ¬ (s.size : Int) < t.size := by omega
             go_wp2_with fail
             go_ret
             exact ⟨by rw [HI.out]; rfl, HW2.out⟩)
end Go.Proofs.Ybulkgno
