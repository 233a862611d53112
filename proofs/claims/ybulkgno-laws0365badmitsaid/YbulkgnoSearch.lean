/-
  slices.BinarySearchFunc at the project's struct, walked.
-/
import Derived.Test.YbulkgnoSort
import Derived.Shelf.SlSortCmp.QuietGrown
namespace Go.Proofs.Ybulkgno
open Go.RowKit Go.Sort
set_option linter.unusedVariables false
set_option linter.unusedSimpArgs false

theorem Yba.mixed : Yba.prog.follows .mixedOrders = true := by kernel_rfl

theorem drew_on (w : World) (n m : Nat) (os : Array Obj) : (grow (w.drewN n) os).drewN m = grow (w.drewN (n + m)) os := by
  show grow ((w.drewN n).drewN m) os = _
  rw [World.drewN_drewN]
/-- A row of Refs, told by its cells. -/
def RefsAt (w : World) (g : Nat) (L : List RefV) : Prop := ∀ (j : Nat) (x : RefV), L[j]? = some x → w.cell? ⟨g, j * 2, none⟩ = some (.string (cut x.1)) ∧ w.cell? ⟨g, j * 2 + 1, none⟩ = some (.string x.2)
theorem cell_grow2 {w : World} {a : Addr} {v : Value} (h : w.cell? a = some v) (n : Nat) (os : Array Obj) : (grow (w.drewN n) os).cell? a = some v := cell_grown (World.block_lt_of_cell? _ _ h) h n os
theorem RefsAt.grow {w : World} {g : Nat} {L : List RefV} (h : RefsAt w g L) (n : Nat) (os : Array Obj) : RefsAt (grow (w.drewN n) os) g L := fun j x hx => ⟨cell_grow2 (h j x hx).1 n os, cell_grow2 (h j x hx).2 n os⟩
theorem grow_on (w : World) (n m : Nat) (os os' : Array Obj) : grow ((grow (w.drewN n) os).drewN m) os' = grow (w.drewN (n + m)) (os ++ os') := by
  show grow (grow ((w.drewN n).drewN m) os) os' = _
  rw [grow_grow, World.drewN_drewN]

def Found (self : ByteArray) (side : Int) (L : List RefV) (r : RefV) (ll : Nat) (w : World) (e : Ending) (w' : World) : Prop :=
  ∃ (i : Nat) (b : Bool), e = .returned (.tuple #[.int .i64 (i : Int), .bool b]) ∧ i ≤ ll ∧ (∀ (t : Nat) (x : RefV), t < i → L[t]? = some x → cf self side x r < 0) ∧ (∀ (t : Nat) (x : RefV), i ≤ t → L[t]? = some x → 0 ≤ cf self side x r) ∧ (b = true ↔ ∃ x, L[i]? = some x ∧ cf self side x r = 0) ∧ ∃ q os, w' = grow (w.drewN q) os

set_option maxRecDepth 100000 in
set_option maxHeartbeats 2000000 in
theorem search_any (self : ByteArray) (side : Int) (bs bd g cap : Nat) (L : List RefV) (r : RefV) (w : World) (hs : self.size ≤ 9223372036854775807) (h0 : side = 0 ∨ side = 1) (c1 : w.cell? ⟨bs, 0, none⟩ = some (.string self)) (c2 : w.cell? ⟨bd, 0, none⟩ = some (.int .i64 side))
    (hrow : RefsAt w g L) (hL : L.length ≤ 256) (hmono : ∀ (i j : Nat) (x y : RefV), i ≤ j → L[i]? = some x → L[j]? = some y → cf self side y r < 0 → cf self side x r < 0) :
    Calls Yba.prog 21 #[.slice (some ⟨g, 0, none⟩) L.length cap, .agg #[.string (cut r.1), .string r.2], .func (.func 36) #[] #[.pointer (some ⟨bs, 0, none⟩), .pointer (some ⟨bd, 0, none⟩)]] w fun e w' =>
      Found self side L r L.length w e w' := by
  have mixed := Yba.mixed
  have eg : ∀ args w, (callFunc 36 args).run Yba.prog w = .ok (.enter 36 args) w := enters_of Yba.func36 (by kernel_rfl) rfl
  have HM : Hid _ := hmono
  have HR : Hid (RefsAt w g L) := hrow
  have HC : Hid (w.cell? ⟨bs, 0, none⟩ = some (.string self) ∧ w.cell? ⟨bd, 0, none⟩ = some (.int .i64 side)) := ⟨c1, c2⟩
  have HB : Hid (∀ n os, (grow ((w.alloc (.cells #[.string (cut r.1), .string r.2] 26)).drewN n) os).cell? ⟨w.heap.size, 0, none⟩ = some (.string (cut r.1)) ∧ (grow ((w.alloc (.cells #[.string (cut r.1), .string r.2] 26)).drewN n) os).cell? ⟨w.heap.size, 1, none⟩ = some (.string r.2)) := fun n os => ⟨cell_grow2 (by simp) n os, cell_grow2 (by simp) n os⟩
  have HG : Hid (∀ n os, grow ((w.alloc (.cells #[.string (cut r.1), .string r.2] 26)).drewN n) os = grow (w.drewN n) (#[.cells #[.string (cut r.1), .string r.2] 26] ++ os)) := fun n os => by
    rw [alloc_eq_grow]
    show grow (grow (w.drewN n) _) os = _
    rw [grow_grow]
  clear hmono hrow c1 c2
  generalize hll : L.length = ll at *
  have HLL : Hid (L.length = ll) := hll
  clear hll
  go_enter Yba.func21, Yba.ntmps21
  go_wp2_with fail
  generalize hw1 : w.alloc (.cells #[.string (cut r.1), .string r.2] 26) = w1 at *
  clear hw1
  generalize hbx : w.heap.size = bx at *
  clear hbx
  go_loopw [9, 10] (fun s9 s10 wr => ∃ lo hi n : Nat, ∃ os, s9 = .int .i64 (lo : Int) ∧ s10 = .int .i64 (hi : Int) ∧ lo ≤ hi ∧ hi ≤ ll ∧ (∀ (t : Nat) (x : RefV), t < lo → L[t]? = some x → cf self side x r < 0) ∧ (∀ (t : Nat) (x : RefV), hi ≤ t → L[t]? = some x → 0 ≤ cf self side x r) ∧ wr = grow (w1.drewN n) os) (fun s9 s10 _ => (intOf s10).toNat - (intOf s9).toNat)
  case atStart => exact ⟨0, ll, 0, #[], rfl, rfl, Nat.zero_le _, Nat.le_refl _, fun t x ht => by omega, fun t x ht hx => by have := (List.getElem?_eq_some_iff.1 hx).1; have := HLL.out; omega, by rw [grow_empty]; rfl⟩
  case round =>
    obtain ⟨lo, hi, n, os, rfl, rfl, hlh, hhl, hlo, hhi, hwr⟩ := hrel
    have HLO : Hid _ := hlo
    have HHI : Hid _ := hhi
    have HWR : Hid (wr = grow (w1.drewN n) os) := hwr
    clear hlo hhi hwr
    by_cases hlt : (lo : Int) < hi
    · go_upto_region 5 with fail
      have hmid : L[(lo + hi) / 2]? = some (L[(lo + hi) / 2]'(by have := HLL.out; omega)) := List.getElem?_eq_getElem _
      generalize L[(lo + hi) / 2]'(by have := HLL.out; omega) = x at hmid
      have HMID : Hid (L[(lo + hi) / 2]? = some x) := hmid
      have hcel := (HR.out.grow n (#[.cells #[.string (cut r.1), .string r.2] 26] ++ os)) _ _ hmid
      rw [← HG.out n os, ← HWR.out] at hcel
      have hbox := HB.out n os
      rw [← HWR.out] at hbox
      have hcs := cell_grow2 HC.out.1 n (#[.cells #[.string (cut r.1), .string r.2] 26] ++ os)
      have hcd := cell_grow2 HC.out.2 n (#[.cells #[.string (cut r.1), .string r.2] 26] ++ os)
      rw [← HG.out n os, ← HWR.out] at hcs hcd
      have f1 := fun n' os' => cell_grow2 hcel.1 n' os'
      have f2 := fun n' os' => cell_grow2 hcel.2 n' os'
      have f3 := fun n' os' => cell_grow2 hbox.1 n' os'
      have f4 := fun n' os' => cell_grow2 hbox.2 n' os'
      have HCALL : Hid (∀ n' os', Calls Yba.prog 36 #[.agg #[.string (cut x.1), .string x.2], .agg #[.string (cut r.1), .string r.2], .pointer (some ⟨bs, 0, none⟩), .pointer (some ⟨bd, 0, none⟩)] (grow (wr.drewN n') os') fun e w' => e = .returned (.int .i64 (cf self side x r)) ∧ ∃ q os, w' = grow ((grow (wr.drewN n') os').drewN q) os) := fun n' os' => clo36 self side bs bd x r _ hs h0 (cell_grow2 hcs n' os') (cell_grow2 hcd n' os')
      clear hmid hcel hbox hcs hcd
      rw [show ((lo : Int) + hi) / 2 = (((lo + hi) / 2 : Nat) : Int) by omega]
      have hml : lo ≤ (lo + hi) / 2 ∧ (lo + hi) / 2 < hi := by omega
      generalize (lo + hi) / 2 = md at *
      have hml2 : (md : Int) < ll := by omega
      go_quiet_grown (first | (go_at_call 36; exact Calls.grown_of (HCALL.out _ _)))
      have hw2 : grow (wr.drewN nq) osq = grow (w1.drewN (n + nq)) (os ++ osq) := by rw [HWR.out, grow_on]
      have HW2 : Hid (grow (wr.drewN nq) osq = grow (w1.drewN (n + nq)) (os ++ osq)) := hw2
      clear hw2
      clear f1 f2 f3 f4
      by_cases hcx : cf self side x r < 0
      · go_wp2_with fail
        go_roundw
        case rel =>
          refine ⟨md + 1, hi, _, _, by go_num, rfl, by omega, hhl, fun t y ht hy => ?_, HHI.out, HW2.out⟩
          exact HM.out t md y x (by omega) hy HMID.out hcx
        case measure => simp [intOf]; omega
      · go_wp2_with fail
        go_roundw
        case rel =>
          refine ⟨lo, md, _, _, rfl, by go_num, by omega, by omega, HLO.out, fun t y ht hy => ?_, HW2.out⟩
          rcases Int.lt_or_le (cf self side y r) 0 with h | h
          · exact absurd (HM.out md t x y ht HMID.out hy h) hcx
          · exact h
        case measure => simp [intOf]; omega
    · obtain rfl : lo = hi := by omega
      go_upto_region 8 with fail
      by_cases hn : (lo : Int) < ll
      · have hmid : L[lo]? = some (L[lo]'(by have := HLL.out; omega)) := List.getElem?_eq_getElem _
        generalize L[lo]'(by have := HLL.out; omega) = x at hmid
        have HMID : Hid (L[lo]? = some x) := hmid
        have hcel := (HR.out.grow n (#[.cells #[.string (cut r.1), .string r.2] 26] ++ os)) _ _ hmid
        rw [← HG.out n os, ← HWR.out] at hcel
        have hbox := HB.out n os
        rw [← HWR.out] at hbox
        have hcs := cell_grow2 HC.out.1 n (#[.cells #[.string (cut r.1), .string r.2] 26] ++ os)
        have hcd := cell_grow2 HC.out.2 n (#[.cells #[.string (cut r.1), .string r.2] 26] ++ os)
        rw [← HG.out n os, ← HWR.out] at hcs hcd
        have f1 := fun n' os' => cell_grow2 hcel.1 n' os'
        have f2 := fun n' os' => cell_grow2 hcel.2 n' os'
        have f3 := fun n' os' => cell_grow2 hbox.1 n' os'
        have f4 := fun n' os' => cell_grow2 hbox.2 n' os'
        have HCALL : Hid (∀ n' os', Calls Yba.prog 36 #[.agg #[.string (cut x.1), .string x.2], .agg #[.string (cut r.1), .string r.2], .pointer (some ⟨bs, 0, none⟩), .pointer (some ⟨bd, 0, none⟩)] (grow (wr.drewN n') os') fun e w' => e = .returned (.int .i64 (cf self side x r)) ∧ ∃ q os, w' = grow ((grow (wr.drewN n') os').drewN q) os) := fun n' os' => clo36 self side bs bd x r _ hs h0 (cell_grow2 hcs n' os') (cell_grow2 hcd n' os')
        clear hmid hcel hbox hcs hcd
        have hd : decide ((lo : Int) < ll) = true := decide_eq_true hn
        go_quiet_grown (first | (go_at_call 36; exact Calls.grown_of (HCALL.out _ _)))
        have HW2 : Hid (∃ q os', grow (wr.drewN nq) osq = grow (w.drewN q) os') := ⟨_, _, by rw [HWR.out, grow_on, HG.out]⟩
        clear f1 f2 f3 f4
        go_wp2_with fail
        go_ret2
        refine ⟨lo, cf self side x r == 0, rfl, hhl, HLO.out, HHI.out, ?_, HW2.out⟩
        rw [HMID.out]
        simp
      · have hd : decide ((lo : Int) < ll) = false := decide_eq_false hn
        go_quiet (fail)
        have HW2 : Hid (∃ q os', wr.drewN nq = grow (w.drewN q) os') := ⟨n + nq, _, by rw [HWR.out, drew_on, HG.out]⟩
        go_wp2_with fail
        go_ret2
        refine ⟨lo, false, rfl, hhl, HLO.out, HHI.out, ?_, HW2.out⟩
        simp
        intro a b hab
        have := (List.getElem?_eq_some_iff.1 hab).1
        have := HLL.out
        omega
end Go.Proofs.Ybulkgno
