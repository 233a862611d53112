/-
  distanceOrder, and the function of Node that lets a Ref into a side, walked.
-/
import Derived.Test.YbulkgnoInsert
import Derived.Deep.RegionHeld3
namespace Go.Proofs.Ybulkgno
open Go.Shelf Go.RowKit Go.Lib Go.Sort
set_option linter.unusedVariables false
set_option linter.unusedSimpArgs false

set_option maxRecDepth 100000 in
theorem dist_any (s : ByteArray) (side : Int) (w : World) : Calls Yba.prog 22 #[.string s, .int .i64 side] w fun e w' => e = .returned (.func (.func 36) #[] #[.pointer (some ⟨w.heap.size, 0, none⟩), .pointer (some ⟨w.heap.size + 1, 0, none⟩)]) ∧ w' = (w.alloc (.cells #[.string s] 9)).alloc (.cells #[.int .i64 side] 23) := by
  go_enter Yba.func22, Yba.ntmps22
  go_wp2_with fail
  go_ret
  exact ⟨rfl, rfl⟩

def Admitted (w : World) (self : ByteArray) (side : Int) (g n cap : Nat) (L : List RefV) (r : RefV) (e : Ending) (w' : World) : Prop :=
  ∃ (i : Nat) (b : Bool), i ≤ n ∧ (∀ (t : Nat) (x : RefV), t < i → L[t]? = some x → cf self side x r < 0) ∧ (∀ (t : Nat) (x : RefV), i ≤ t → L[t]? = some x → 0 ≤ cf self side x r) ∧ (b = true ↔ ∃ x, L[i]? = some x ∧ cf self side x r = 0) ∧ Below w.heap.size w w' ∧
    ((b = true ∧ e = .returned (.slice (some ⟨g, 0, none⟩) n cap)) ∨ (b = false ∧ ∃ g' c', e = .returned (.slice (some ⟨g', 0, none⟩) (min (n + 1) 8) c') ∧ RefsAt w' g' ((L.take i ++ r :: L.drop i).take (min (n + 1) 8))))

theorem RefsAt.take {w : World} {g : Nat} {L : List RefV} (h : RefsAt w g L) (n : Nat) : RefsAt w g (L.take n) := fun j x hx => by
  rw [List.getElem?_take] at hx
  split at hx
  · exact h j x hx
  · cases hx
theorem below_grow (w : World) (n : Nat) (os : Array Obj) : Below w.heap.size w (grow (w.drewN n) os) := (Below.refl _ w).grown (grow_grown w n os) (Nat.le_refl _) (fun k hk => by cases hk)
theorem RefsAt.below {w w' : World} {g : Nat} {L : List RefV} (h : RefsAt w g L) (hb : Below w.heap.size w w') : RefsAt w' g L := fun j x hx => by
  obtain ⟨h1, h2⟩ := h j x hx
  exact ⟨(hb.cell (p := ⟨g, j * 2, none⟩) (World.block_lt_of_cell? _ _ h1)).trans h1, (hb.cell (p := ⟨g, j * 2 + 1, none⟩) (World.block_lt_of_cell? _ _ h2)).trans h2⟩
theorem cell_below {w w' : World} {a : Addr} {v : Value} (h : w.cell? a = some v) (hb : Below w.heap.size w w') : w'.cell? a = some v := (hb.cell (World.block_lt_of_cell? _ _ h)).trans h
theorem below_alloc (w : World) (o : Obj) : Below w.heap.size w (w.alloc o) := (Below.refl _ _).alloc (Nat.le_refl _) o
theorem below_trans {a b c : World} (h : Below a.heap.size a b) (k : Below b.heap.size b c) : Below a.heap.size a c := h.trans (k.mono h.size)
theorem below_drew (w : World) : Below w.heap.size w w.drew := (Below.refl _ _).drew

set_option maxRecDepth 100000 in
set_option maxHeartbeats 4000000 in
theorem admit_any (self : ByteArray) (side : Int) (nb g n cap : Nat) (L : List RefV) (r : RefV) (w : World) (hs : self.size ≤ 9223372036854775807) (h0 : side = 0 ∨ side = 1) (hnb : w.cell? ⟨nb, 0, none⟩ = some (.string self)) (hLn : L.length = n) (hn : n ≤ 256) (hcap : n ≤ cap) (hc2 : cap ≤ 1000)
    (hrow : RefsAt w g L) (hmono : ∀ (i j : Nat) (x y : RefV), i ≤ j → L[i]? = some x → L[j]? = some y → cf self side y r < 0 → cf self side x r < 0) :
    Calls Yba.prog 13 #[.pointer (some ⟨nb, 0, none⟩), .int .i64 side, .slice (some ⟨g, 0, none⟩) n cap, .agg #[.string (cut r.1), .string r.2]] w fun e w' => Admitted w self side g n cap L r e w' := by
  have mixed := Yba.mixed
  have HM : Hid _ := hmono
  have HR : Hid (RefsAt w g L) := hrow
  have HLN : Hid (L.length = n) := hLn
  have HB1 : Hid (Below w.heap.size w (w.alloc (.cells #[.string (cut r.1), .string r.2] 26))) := below_alloc w _
  have d0 : (w.alloc (.cells #[.string (cut r.1), .string r.2] 26)).cell? ⟨nb, 0, none⟩ = some (.string self) := cell_below hnb (below_alloc w _)
  have d1 : (w.alloc (.cells #[.string (cut r.1), .string r.2] 26)).cell? ⟨w.heap.size, 0, none⟩ = some (.string (cut r.1)) := by simp
  have d2 : (w.alloc (.cells #[.string (cut r.1), .string r.2] 26)).cell? ⟨w.heap.size, 1, none⟩ = some (.string r.2) := by simp
  have HR1 : Hid (RefsAt (w.alloc (.cells #[.string (cut r.1), .string r.2] 26)) g L) := hrow.below (below_alloc w _)
  clear hmono hrow hLn hnb
  go_enter Yba.func13, Yba.ntmps13
  go_upto_region 1 with fail
  generalize w.alloc (.cells #[.string (cut r.1), .string r.2] 26) = w1 at *
  generalize hbx : w.heap.size = bx at d1 d2 ⊢
  clear hbx
  have HS : Hid (∀ W : World, RefsAt W g L → Calls Yba.prog 21 #[.slice (some ⟨g, 0, none⟩) n cap, .agg #[.string (cut r.1), .string r.2], .func (.func 36) #[] #[.pointer (some ⟨W.heap.size, 0, none⟩), .pointer (some ⟨W.heap.size + 1, 0, none⟩)]] ((W.alloc (.cells #[.string self] 9)).alloc (.cells #[.int .i64 side] 23)) fun e w' => Found self side L r n ((W.alloc (.cells #[.string self] 9)).alloc (.cells #[.int .i64 side] 23)) e w') := fun W hW => by
    have h := search_any self side W.heap.size (W.heap.size + 1) g cap L r ((W.alloc (.cells #[.string self] 9)).alloc (.cells #[.int .i64 side] 23)) hs h0 (by simp) (by simp) ((hW.below (below_alloc W _)).below (below_alloc _ _)) (by rw [HLN.out]; exact hn) HM.out
    rw [HLN.out] at h
    exact h
  have k1 := cell_below d0 (below_drew w1)
  go_region_held3 (fun w' => w'.cell? ⟨bx, 0, none⟩ = some (.string (cut r.1)) ∧ w'.cell? ⟨bx, 1, none⟩ = some (.string r.2) ∧ w'.cell? ⟨nb, 0, none⟩ = some (.string self))
    (first | exact ⟨d1, d2, d0⟩ | exact ⟨keep2 d1 _ _, keep2 d2 _ _, keep2 d0 _ _⟩ | exact ⟨cell_grow2 (keep2 d1 _ _) _ _, cell_grow2 (keep2 d2 _ _) _ _, cell_grow2 (keep2 d0 _ _) _ _⟩)
    (first | (go_at_call 22; refine Calls.mono (dist_any _ _ _) ?_; rintro e w' ⟨rfl, rfl⟩) | (go_at_call 21; refine Calls.mono (HS.out w1.drew (HR1.out.below (below_drew w1))) ?_; rintro e w' ⟨i, b, rfl, hi1, hi2, hi3, hi4, q, os, rfl⟩))
  have e1 := cell_grow2 (keep2 d1 (.cells #[.string self] 9) (.cells #[.int .i64 side] 23)) (1 + q) os
  have e2 := cell_grow2 (keep2 d2 (.cells #[.string self] 9) (.cells #[.int .i64 side] 23)) (1 + q) os
  have HBW : Hid (Below w.heap.size w (grow (((w1.alloc (.cells #[.string self] 9)).alloc (.cells #[.int .i64 side] 23)).drewN (1 + q)) os)) := below_trans (below_trans (below_trans HB1.out (below_alloc _ _)) (below_alloc _ _)) (below_grow _ _ _)
  have HRW : Hid (RefsAt (grow (((w1.alloc (.cells #[.string self] 9)).alloc (.cells #[.int .i64 side] 23)).drewN (1 + q)) os) g L) := ((HR1.out.below (below_alloc _ _)).below (below_alloc _ _)).below (below_grow _ _ _)
  have HI : Hid (i ≤ n ∧ (∀ (t : Nat) (x : RefV), t < i → L[t]? = some x → cf self side x r < 0) ∧ (∀ (t : Nat) (x : RefV), i ≤ t → L[t]? = some x → 0 ≤ cf self side x r) ∧ (b = true ↔ ∃ x, L[i]? = some x ∧ cf self side x r = 0)) := ⟨hi1, hi2, hi3, hi4⟩
  generalize grow (((w1.alloc (.cells #[.string self] 9)).alloc (.cells #[.int .i64 side] 23)).drewN (1 + q)) os = W3 at *
  have hin : i ≤ n := hi1
  clear hi1 hi2 hi3 hi4 d0 d1 d2 k1 HS HR1 HB1
  cases b with
  | true =>
    go_wp2_with fail
    go_ret
    exact ⟨i, true, HI.out.1, HI.out.2.1, HI.out.2.2.1, by simpa using HI.out.2.2.2, HBW.out, .inl ⟨rfl, rfl⟩⟩
  | false =>
    have HINS : Hid (∀ W : World, RefsAt W g L → Calls Yba.prog 23 #[.slice (some ⟨g, 0, none⟩) n n, .int .i64 (i : Int), .slice (some ⟨W.heap.size, 0, none⟩) 1 1] (W.alloc (.cells #[.string (cut r.1), .string r.2] 26)) fun e w' => Inserted (W.alloc (.cells #[.string (cut r.1), .string r.2] 26)) L r i n e w') := fun W hW => by
      have hv : RefsAt (W.alloc (.cells #[.string (cut r.1), .string r.2] 26)) W.heap.size [r] := fun j x hx => by
        match j, hx with
        | 0, hx => simp at hx; subst hx; simp
        | j + 1, hx => simp at hx
      by_cases hi : i = L.length
      · have h := insert_end L r g W.heap.size (W.alloc (.cells #[.string (cut r.1), .string r.2] 26)) (by rw [HLN.out]; exact hn) (hW.below (below_alloc _ _)) hv
        rw [← hi] at h
        rw [hi, HLN.out] at h ⊢
        exact h
      · have h := insert_mid L r g W.heap.size i (W.alloc (.cells #[.string (cut r.1), .string r.2] 26)) (by have := HLN.out; omega) (by rw [HLN.out]; exact hn) (hW.below (below_alloc _ _)) hv
        rw [HLN.out] at h
        exact h
    have p1 := cell_below e1 (below_alloc W3 (.cells #[.string (cut r.1), .string r.2] 26))
    have p2 := cell_below e2 (below_alloc W3 (.cells #[.string (cut r.1), .string r.2] 26))
    go_upto_region 4 with fail
    go_region_held3 (fun w' => w'.cell? ⟨bx, 0, none⟩ = some (.string (cut r.1)) ∧ w'.cell? ⟨bx, 1, none⟩ = some (.string r.2))
      (first | exact ⟨e1, e2⟩ | exact ⟨p1, p2⟩ | exact ⟨cell_below (cell_below e1 (below_drew W3)) (below_alloc _ _), cell_below (cell_below e2 (below_drew W3)) (below_alloc _ _)⟩ | exact ⟨cell_below p1 (below_drew _), cell_below p2 (below_drew _)⟩ | exact ⟨cell_below e1 (below_trans (below_trans (below_drew W3) (below_alloc _ _)) HBI.out), cell_below e2 (below_trans (below_trans (below_drew W3) (below_alloc _ _)) HBI.out)⟩)
      (first | (go_at_call 24; refine Calls.mono (clip_any g n cap _ hcap hc2) ?_; rintro e w' ⟨rfl, rfl⟩) | (go_at_call 23; refine Calls.mono (HINS.out W3.drew (HRW.out.below (below_drew W3))) ?_; rintro e w' ⟨g', c', rfl, hc1', hc2', hr', hb'⟩; have HBI : Hid (RowKit.Below (W3.drew.alloc (.cells #[.string (cut r.1), .string r.2] 26)).heap.size (W3.drew.alloc (.cells #[.string (cut r.1), .string r.2] 26)) w') := hb'; have HRI : Hid (RefsAt w' g' (L.take i ++ r :: L.drop i)) := hr'; clear hr' hb'))
    all_goals
      have HB4 : Hid (RowKit.Below w.heap.size w w') := below_trans HBW.out (below_trans (below_trans (below_drew W3) (below_alloc _ _)) HBI.out)
      have HADM : Hid (∀ e, e = .returned (.slice (some ⟨g', 0, none⟩) (min (n + 1) 8) c') → Admitted w self side g n cap L r e w') := fun e he => ⟨i, false, HI.out.1, HI.out.2.1, HI.out.2.2.1, by simpa using HI.out.2.2.2, HB4.out, .inr ⟨rfl, g', c', he, HRI.out.take _⟩⟩
      clear e1 e2 p1 p2
      by_cases hm : n + 1 ≤ 8
      · have hm1 : ¬ (8 : Int) < (n : Int) + 1 := by omega
        have hm2 : (n : Int) + 1 ≤ 8 := by omega
        have hm3 : ((n : Int) + 1).toNat = n + 1 := by omega
        go_wp2_with fail
        go_ret
        exact HADM.out _ (by show Ending.returned (Value.slice (some ⟨g', 0, none⟩) (min ((n : Int) + 1) 8).toNat c') = _; rw [show (min ((n : Int) + 1) 8).toNat = min (n + 1) 8 by omega])
      · have hm1 : (8 : Int) < (n : Int) + 1 := by omega
        have hm3 : 8 ≤ c' := by omega
        go_wp2_with fail
        go_ret
        exact HADM.out _ (by show Ending.returned (Value.slice (some ⟨g', 0, none⟩) (min ((n : Int) + 1) 8).toNat c') = _; rw [show (min ((n : Int) + 1) 8).toNat = min (n + 1) 8 by omega])
end Go.Proofs.Ybulkgno
