/-
  The order of names round the ring, plainly; and the walks of the functions that reckon it.
-/
import Derived.Test.YbulkgnoCmp
namespace Go.Proofs.Ybulkgno
open Go.RowKit
set_option linter.unusedVariables false
set_option linter.unusedSimpArgs false

theorem rank_inj {a b : UInt8} (h : rank a.toNat = rank b.toNat) : (a.toNat : Int) = b.toNat := by
  unfold rank at h
  split at h <;> split at h <;> omega
theorem cmpL_refl : ∀ x : List UInt8, cmpL x x = 0
  | [] => rfl
  | a :: x => by simp [cmpL, cmpL_refl x]
theorem cmpL_eq : ∀ {x y : List UInt8}, cmpL x y = 0 → x = y
  | [], [], _ => rfl
  | [], _ :: _, h => by simp [cmpL] at h
  | _ :: _, [], h => by simp [cmpL] at h
  | a :: x, b :: y, h => by
    simp only [cmpL] at h
    split at h
    · rename_i e
      have : a = b := UInt8.toNat.inj (by omega)
      rw [this, cmpL_eq h]
    · split at h <;> omega
theorem cmpL_neg : ∀ (x y : List UInt8), cmpL y x = - cmpL x y
  | [], [] => rfl
  | [], _ :: _ => rfl
  | _ :: _, [] => rfl
  | a :: x, b :: y => by
    simp only [cmpL]
    by_cases e : (a.toNat : Int) = b.toNat
    · rw [if_pos e, if_pos e.symm, cmpL_neg x y]
    · rw [if_neg e, if_neg (fun h => e h.symm)]
      have hne : rank a.toNat ≠ rank b.toNat := fun h => e (rank_inj h)
      by_cases h : rank a.toNat < rank b.toNat
      · rw [if_pos h, if_neg (by omega)]; rfl
      · rw [if_neg h, if_pos (by omega)]
theorem cmpL_range : ∀ (x y : List UInt8), cmpL x y = -1 ∨ cmpL x y = 0 ∨ cmpL x y = 1
  | [], [] => by simp [cmpL]
  | [], _ :: _ => by simp [cmpL]
  | _ :: _, [] => by simp [cmpL]
  | a :: x, b :: y => by
    simp only [cmpL]
    split
    · exact cmpL_range x y
    · split <;> simp
theorem cmpL_trans : ∀ {x y z : List UInt8}, cmpL x y < 0 → cmpL y z < 0 → cmpL x z < 0
  | [], [], _, h, _ => by simp [cmpL] at h
  | [], _ :: _, [], _, h => by simp [cmpL] at h
  | [], _ :: _, _ :: _, _, _ => by simp [cmpL]
  | _ :: _, [], _, h, _ => by simp [cmpL] at h
  | _ :: _, _ :: _, [], _, h => by simp [cmpL] at h
  | a :: x, b :: y, c :: z, h1, h2 => by
    simp only [cmpL] at *
    by_cases e1 : (a.toNat : Int) = b.toNat
    · rw [if_pos e1] at h1
      by_cases e2 : (b.toNat : Int) = c.toNat
      · rw [if_pos e2] at h2
        rw [if_pos (e1.trans e2)]
        exact cmpL_trans h1 h2
      · rw [if_neg e2] at h2
        rw [if_neg (fun h => e2 (e1.symm.trans h)), e1]
        exact h2
    · rw [if_neg e1] at h1
      by_cases e2 : (b.toNat : Int) = c.toNat
      · rw [if_neg (fun h => e1 (h.trans e2.symm)), ← e2]
        exact h1
      · rw [if_neg e2] at h2
        have r1 : rank a.toNat < rank b.toNat := by
          by_cases h : rank a.toNat < rank b.toNat
          · exact h
          · rw [if_neg h] at h1; omega
        have r2 : rank b.toNat < rank c.toNat := by
          by_cases h : rank b.toNat < rank c.toNat
          · exact h
          · rw [if_neg h] at h2; omega
        rw [if_neg (fun h => by rw [h] at r1; omega), if_pos (by omega)]
        omega

theorem cmpS_refl (s : ByteArray) : cmpS s s = 0 := cmpL_refl _
theorem cmpS_eq {s t : ByteArray} (h : cmpS s t = 0) : s = t := by
  have := cmpL_eq h
  cases s; cases t
  simp at this
  simp [this]
theorem cmpS_neg (s t : ByteArray) : cmpS t s = - cmpS s t := cmpL_neg _ _
theorem cmpS_range (s t : ByteArray) : cmpS s t = -1 ∨ cmpS s t = 0 ∨ cmpS s t = 1 := cmpL_range _ _
theorem cmpS_trans {s t u : ByteArray} (h1 : cmpS s t < 0) (h2 : cmpS t u < 0) : cmpS s u < 0 := cmpL_trans h1 h2

/-- 1 where a is reached only by wrapping round. -/
def grp (self : ByteArray) (side : Int) (a : ByteArray) : Int := if cmpS a self < 0 then (if side = 0 then 0 else 1) else (if side = 0 then 1 else 0)
/-- The order of distance. -/
def ord (self : ByteArray) (side : Int) (a b : ByteArray) : Int :=
  if grp self side a = grp self side b then (if side = 1 then cmpS a b else cmpS b a) else grp self side a - grp self side b
theorem grp_range (self : ByteArray) (side : Int) (a : ByteArray) : grp self side a = 0 ∨ grp self side a = 1 := by
  unfold grp
  split <;> split <;> simp
section
variable (self : ByteArray) (side : Int)
theorem ord_refl (a : ByteArray) : ord self side a a = 0 := by
  simp [ord, cmpS_refl]
theorem ord_eq {a b : ByteArray} (h : ord self side a b = 0) : a = b := by
  unfold ord at h
  split at h
  · split at h
    · exact cmpS_eq h
    · exact (cmpS_eq h).symm
  · omega
theorem ord_neg (a b : ByteArray) : ord self side b a = - ord self side a b := by
  unfold ord
  by_cases e : grp self side a = grp self side b
  · rw [if_pos e, if_pos e.symm]
    split
    · exact cmpS_neg _ _
    · exact cmpS_neg _ _
  · rw [if_neg e, if_neg (fun h => e h.symm)]
    omega
theorem ord_range (a b : ByteArray) : ord self side a b = -1 ∨ ord self side a b = 0 ∨ ord self side a b = 1 := by
  unfold ord
  split
  · split <;> exact cmpS_range _ _
  · have := grp_range self side a
    have := grp_range self side b
    omega
theorem ord_trans {a b c : ByteArray} (h1 : ord self side a b < 0) (h2 : ord self side b c < 0) : ord self side a c < 0 := by
  have ga := grp_range self side a
  have gb := grp_range self side b
  have gc := grp_range self side c
  unfold ord at *
  by_cases e1 : grp self side a = grp self side b
  · rw [if_pos e1] at h1
    by_cases e2 : grp self side b = grp self side c
    · rw [if_pos e2] at h2
      rw [if_pos (e1.trans e2)]
      by_cases hs : side = 1
      · simp only [hs, if_true] at *
        exact cmpS_trans h1 h2
      · simp only [hs, if_false] at *
        exact cmpS_trans h2 h1
    · rw [if_neg e2] at h2
      rw [if_neg (by omega)]
      omega
  · rw [if_neg e1] at h1
    by_cases e2 : grp self side b = grp self side c
    · rw [if_neg (by omega)]
      omega
    · rw [if_neg e2] at h2
      omega
end

set_option maxRecDepth 100000 in
set_option maxHeartbeats 1000000 in
theorem grp_any (self a : ByteArray) (side : Int) (w : World) (hs : self.size ≤ 9223372036854775807) (ha : a.size ≤ 9223372036854775807) (h0 : side = 0 ∨ side = 1) : Calls Yba.prog 19 #[.string self, .int .i64 side, .string a] w fun e w' => e = .returned (.int .i64 (grp self side a)) ∧ ∃ q, w' = w.drewN q := by
  have HC : Hid _ := cmp_any a self w ha hs
  unfold grp
  by_cases hc : cmpS a self < 0
  · rcases h0 with rfl | rfl
    · simp only [if_pos hc]
      go_enter Yba.func19, Yba.ntmps19
      go_wp2_with (go_at_call 20; refine Calls.mono HC.out ?_; rintro e w' ⟨rfl, q, rfl⟩)
      go_ret
      exact ⟨rfl, q, rfl⟩
    · simp only [if_pos hc]
      go_enter Yba.func19, Yba.ntmps19
      go_wp2_with (go_at_call 20; refine Calls.mono HC.out ?_; rintro e w' ⟨rfl, q, rfl⟩)
      go_ret
      exact ⟨rfl, q, rfl⟩
  · have hd : decide (cmpS a self < 0) = false := decide_eq_false hc
    rcases h0 with rfl | rfl
    · simp only [if_neg hc]
      go_enter Yba.func19, Yba.ntmps19
      go_wp2_with (go_at_call 20; refine Calls.mono HC.out ?_; rintro e w' ⟨rfl, q, rfl⟩)
      go_ret
      exact ⟨rfl, q, rfl⟩
    · simp only [if_neg hc]
      go_enter Yba.func19, Yba.ntmps19
      go_wp2_with (go_at_call 20; refine Calls.mono HC.out ?_; rintro e w' ⟨rfl, q, rfl⟩)
      go_ret
      exact ⟨rfl, q, rfl⟩

set_option maxRecDepth 100000 in
set_option maxHeartbeats 1000000 in
theorem ord_any (self a b : ByteArray) (side : Int) (w : World) (hs : self.size ≤ 9223372036854775807) (ha : a.size ≤ 9223372036854775807) (hb : b.size ≤ 9223372036854775807) (h0 : side = 0 ∨ side = 1) : Calls Yba.prog 9 #[.string self, .int .i64 side, .string a, .string b] w fun e w' => e = .returned (.int .i64 (ord self side a b)) ∧ ∃ q, w' = w.drewN q := by
  have HA : Hid (∀ W, Calls Yba.prog 19 #[.string self, .int .i64 side, .string a] W fun e w' => e = .returned (.int .i64 (grp self side a)) ∧ ∃ q, w' = W.drewN q) := fun W => grp_any self a side W hs ha h0
  have HB : Hid (∀ W, Calls Yba.prog 19 #[.string self, .int .i64 side, .string b] W fun e w' => e = .returned (.int .i64 (grp self side b)) ∧ ∃ q, w' = W.drewN q) := fun W => grp_any self b side W hs hb h0
  have HC : Hid (∀ W, Calls Yba.prog 20 #[.string a, .string b] W fun e w' => e = .returned (.int .i64 (cmpS a b)) ∧ ∃ q, w' = W.drewN q) := fun W => cmp_any a b W ha hb
  have HD : Hid (∀ W, Calls Yba.prog 20 #[.string b, .string a] W fun e w' => e = .returned (.int .i64 (cmpS b a)) ∧ ∃ q, w' = W.drewN q) := fun W => cmp_any b a W hb ha
  have ga := grp_range self side a
  have gb := grp_range self side b
  unfold ord
  generalize grp self side a = x at *
  generalize grp self side b = y at *
  generalize cmpS a b = u at *
  generalize cmpS b a = v at *
  by_cases e : x = y
  · rw [if_pos e]
    rcases h0 with rfl | rfl
    · rw [if_neg (by omega)]
      go_enter Yba.func9, Yba.ntmps9
      go_wp2_with fail
      refine Calls.mono (HA.out _) ?_; rintro e w1 ⟨rfl, q1, rfl⟩
      go_wp2_with fail
      refine Calls.mono (HB.out _) ?_; rintro e w1 ⟨rfl, q2, rfl⟩
      go_wp2_with fail
      refine Calls.mono (HD.out _) ?_; rintro e w1 ⟨rfl, q3, rfl⟩
      go_wp2_with fail
      go_ret
      exact ⟨rfl, _, rfl⟩
    · rw [if_pos rfl]
      go_enter Yba.func9, Yba.ntmps9
      go_wp2_with fail
      refine Calls.mono (HA.out _) ?_; rintro e w1 ⟨rfl, q1, rfl⟩
      go_wp2_with fail
      refine Calls.mono (HB.out _) ?_; rintro e w1 ⟨rfl, q2, rfl⟩
      go_wp2_with fail
      refine Calls.mono (HC.out _) ?_; rintro e w1 ⟨rfl, q3, rfl⟩
      go_wp2_with fail
      go_ret
      exact ⟨rfl, _, rfl⟩
  · rw [if_neg e]
    go_enter Yba.func9, Yba.ntmps9
    go_wp2_with fail
    refine Calls.mono (HA.out _) ?_; rintro e w1 ⟨rfl, q1, rfl⟩
    go_wp2_with fail
    refine Calls.mono (HB.out _) ?_; rintro e w1 ⟨rfl, q2, rfl⟩
    go_wp2_with fail
    go_ret
    exact ⟨rfl, _, rfl⟩
end Go.Proofs.Ybulkgno
