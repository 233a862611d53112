import Derived.Test.YbulkglyVar
import Derived.Deep.Cut
namespace Go.Proofs.Ybulkgly
open Go.RowKit Go.Maps
set_option linter.unusedVariables false

def sumL : List Int → Int
  | [] => 0
  | t :: l => t + sumL l
theorem sumL_append : ∀ l m : List Int, sumL (l ++ m) = sumL l + sumL m
  | [], m => by simp [sumL]
  | t :: l, m => by simp only [List.cons_append, sumL, sumL_append l m]; omega
theorem sumL_bounds {lo hi : Int} : ∀ l : List Int, (∀ t ∈ l, lo ≤ t ∧ t ≤ hi) → lo * l.length ≤ sumL l ∧ sumL l ≤ hi * l.length
  | [], _ => by simp [sumL]
  | t :: l, h => by
    have h1 := h t (by simp)
    have h2 := sumL_bounds l (fun q hq => h q (by simp [hq]))
    simp only [sumL, List.length_cons, Int.natCast_add, Int.mul_add]
    omega

/-- One event in memory: its stamp's entries add up to t + 1. -/
def EvAt (w : World) (b o : Nat) (t : Int) : Prop := ∃ (pr : ByteArray) (c : Int) (sb n : Nat) (D : DataW Value),
  w.rangeAt b o [.string pr, .int .u64 c, .map (some sb), .string ByteArray.empty, .string ByteArray.empty, .int .i64 0, .int .u64 0, .pointer none, .int .u32 0, .int .u32 0] ∧
  w.ownsMap Yba.prog 9 u64R sb n D ∧ n ≤ 10 ∧ Bnd num 0 65535 D ∧ t = tot num D - 1

/-- A slice of events. -/
structure Row (w : World) (ao : Option Addr) (n : Nat) (ts : List Int) : Prop where
  len : ts.length = n
  at_ : ∀ i t, ts[i]? = some t → ∃ b, ao = some ⟨b, 0, none⟩ ∧ b < w.heap.size ∧ EvAt w b (i * 10) t

/-- The log's map of events. -/
structure Evs (w : World) (mb nm : Nat) (D : DataW Value) (T : Lit → List Int) : Prop where
  own : w.ownsMap Yba.prog 9 sliceR mb nm D
  at_ : ∀ kl, has D kl = true → ∃ ao cap, (∀ z, D.atKey kl z = .held (.slice ao (T kl).length cap)) ∧ Row w ao (T kl).length (T kl)
  max : ∀ kl, (T kl).length ≤ 1024
  size : nm ≤ 1024

theorem EvAt.below {B : Nat} {w w' : World} {b o : Nat} {t : Int} (h : EvAt w b o t) (hb : Below B w w') (hB : w.heap.size ≤ B) (hlt : b < w.heap.size) : EvAt w' b o t := by
  obtain ⟨pr, c, sb, n, D, hr, ho, rest⟩ := h
  exact ⟨pr, c, sb, n, D, range_below hb hr (by omega), owns_below hb ho (by have := ho.lt; omega), rest⟩
theorem Row.below {B : Nat} {w w' : World} {ao : Option Addr} {n : Nat} {ts : List Int} (h : Row w ao n ts) (hb : Below B w w') (hB : w.heap.size ≤ B) : Row w' ao n ts :=
  ⟨h.len, fun i t ht => by
    obtain ⟨b, e, hlt, hev⟩ := h.at_ i t ht
    exact ⟨b, e, Nat.lt_of_lt_of_le hlt hb.size, hev.below hb hB hlt⟩⟩
theorem Evs.below {w w' : World} {mb nm : Nat} {D : DataW Value} {T : Lit → List Int} (h : Evs w mb nm D T) (hb : Below w.heap.size w w') : Evs w' mb nm D T :=
  ⟨owns_below hb h.own h.own.lt, fun kl hk => by
    obtain ⟨ao, cap, h1, h2⟩ := h.at_ kl hk
    exact ⟨ao, cap, h1, h2.below hb (Nat.le_refl _)⟩, h.max, h.size⟩

def cnt_ (T : Lit → List Int) (p : Lit × DataW Value) : Int := (T p.1).length
def val_ (T : Lit → List Int) (p : Lit × DataW Value) : Int := sumL (T p.1)

set_option maxRecDepth 100000 in
set_option maxHeartbeats 400000 in
theorem len_any (lb mb nm : Nat) (pv : Value) (D : DataW Value) (T : Lit → List Int) (w : World) (hl : w.cell? ⟨lb, 1, none⟩ = some (.map (some mb))) (he : Evs w mb nm D T) :
    Calls Yba.prog 8 #[.pointer (some ⟨lb, 0, none⟩)] w fun e w' => e = .returned (.int .i64 (tot (cnt_ T) D)) ∧ Below w.heap.size w w' := by
  have hG := Good.of_owns he.own law9
  have hsz := he.own.size_le
  have hsz2 := he.size
  have hbnd : Bnd (cnt_ T) 0 1024 D := fun es _ p _ => ⟨by unfold cnt_; omega, by have := he.max p.1; unfold cnt_; omega⟩
  go_enter Yba.func8, Yba.ntmps8
  go_wp2_with (first
    | (at_range; refine wpList_range_own _ rfl _ 26 rfl 9 36 law9 Yba.underlying26 _ mb nm _ rfl he.own ?_; intro w0 hrg0 hg0 hs0)
    | go_in)
  go_frame
  have hb0 : Below w.heap.size w w0 := (Below.refl _ _).grown hg0 (Nat.le_refl _) (by simp)
  clear hg0
  go_loopw [3] (fun v wr => ∃ (left : Lit → Bool) (cnt : Nat), v = .int .i64 (part (cnt_ T) left D) ∧ wr.ranges Yba.prog 9 sliceR mb w.heap.size nm D left cnt ∧ Below w.heap.size w wr)
    (fun _ wr => wr.rangeLeft mb w.heap.size)
  case atStart => exact ⟨_, _, by rw [part_start (cnt_ T) hG], hrg0, hb0⟩
  case round =>
    obtain ⟨left, cnt, rfl, hrg, hbl⟩ := hrel
    have hpb := part_bounds hG hbnd left (by omega) (by omega)
    go_wp2_with (first
      | (at_next; refine wpList_next_ranges _ rfl _ rfl 9 law9 sliceR Value.string (fun c : Option Addr × Nat × Nat => Value.slice c.1 c.2.1 c.2.2) (fun _ _ h => key9_inv h) (fun _ _ h => sliceR_inv h) mb w.heap.size nm _ _ _ rfl hrg ?_ ?_)
      | go_in)
    · intro _ hl0
      rw [part_end (cnt_ T) hl0] at hpb ⊢
      go_wp2
      go_ret
      exact ⟨rfl, hbl⟩
    · intro x ao n cap kl yd yp w1 cnt1 hkx hlx hRv hat hrg1 hlt1 hg1 hs1 hen
      have hRv2 : ((DataW.held (Value.slice ao n cap), []) : DataW Value × List MemPlace) = (yd, yp) := Option.some.inj hRv
      obtain ⟨rfl, rfl⟩ := Prod.mk.inj hRv2
      clear hRv hRv2
      obtain ⟨ao', cap', hat', _⟩ := he.at_ kl (has_true_of_atKey hat)
      have e1 := (hat .nil).symm.trans (hat' .nil)
      simp only [DataW.held.injEq, Value.slice.injEq] at e1
      obtain ⟨rfl, hn, rfl⟩ := e1
      have hst := part_step (cnt_ T) hG hlx hat
      have hst2 : cnt_ T (kl, DataW.held (Value.slice ao n cap)) = n := by unfold cnt_; rw [← hn]
      rw [hst2] at hst
      have hpb1 := part_bounds hG hbnd (fun z => left z && !z.sameKey kl) (by omega) (by omega)
      rw [hst] at hpb1
      have hbl1 := hbl.grown hg1 hbl.size (fun k hk => by cases hk; exact Nat.le_refl _)
      have HST : Hid _ := hst
      clear hst hst2 hn hat' hat
      have hsz3 : (Maps.size D : Int) ≤ 1024 := by omega
      generalize (Maps.size D : Int) = sz at *
      go_wp2
      go_roundw
      case rel => exact ⟨_, cnt1, by rw [HST.out], hrg1, hbl1⟩
      case measure => rw [hrg1.left_eq, hrg.left_eq]; exact hlt1

theorem prod_ok (A : Int) (h0 : 0 ≤ A) (h1 : A ≤ 100000) : 0 ≤ A * (A - 1) ∧ A * (A - 1) ≤ 10000000000 := by
  by_cases h : A = 0
  · subst h; simp
  · have h2 : 0 ≤ A * (A - 1) := Int.mul_nonneg h0 (by omega)
    have h3 : A * (A - 1) ≤ 100000 * 100000 := Int.mul_le_mul h1 (by omega) (by omega) (by omega)
    omega
theorem Yba.var41 : (Yba.prog.info? 41).map (fun i => (i.zero.map (·.cells.size), i.size)) = some (some 10, 10) := by kernel_rfl

set_option maxRecDepth 100000 in
set_option maxHeartbeats 1000000 in
theorem count_any (lb mb nm : Nat) (pv : Value) (D : DataW Value) (T : Lit → List Int) (w : World) (hl : w.cell? ⟨lb, 1, none⟩ = some (.map (some mb))) (hlb : lb < w.heap.size) (he : Evs w mb nm D T) (hT : ∀ kl, ∀ t ∈ T kl, -1 ≤ t ∧ t ≤ 655350) (hall : tot (cnt_ T) D ≤ 100000) (hmb : mb < w.heap.size) :
    Calls Yba.prog 5 #[.pointer (some ⟨lb, 0, none⟩)] w fun e w' => e = .returned (.tuple #[.int .i64 (tot (val_ T) D), .int .i64 ((tot (cnt_ T) D) * (tot (cnt_ T) D - 1) / 2 - tot (val_ T) D)]) ∧ Below w.heap.size w w' := by
  have hG := Good.of_owns he.own law9
  have hsz := he.own.size_le
  have hsz2 := he.size
  have hbnd : Bnd (val_ T) (-1024) 671088640 D := fun es _ p _ => by
    have h1 := sumL_bounds (T p.1) (hT p.1)
    have h2 := he.max p.1
    unfold val_; omega
  go_enter Yba.func5, Yba.ntmps5
  go_wp2_with (first
    | (at_range; refine wpList_range_own _ rfl _ 26 rfl 9 36 law9 Yba.underlying26 _ mb nm _ rfl he.own ?_; intro w0 hrg0 hg0 hs0)
    | go_in)
  go_frame
  have hb0 : Below w.heap.size w w0 := (Below.refl _ _).grown hg0 (Nat.le_refl _) (by simp)
  clear hg0
  go_loopw [2] (fun v wr => ∃ (left : Lit → Bool) (cnt : Nat), v = .int .i64 (part (val_ T) left D) ∧ wr.ranges Yba.prog 9 sliceR mb w.heap.size nm D left cnt ∧ Below w.heap.size w wr)
    (fun _ wr => wr.rangeLeft mb w.heap.size)
  case atStart => exact ⟨_, _, by rw [part_start (val_ T) hG], hrg0, hb0⟩
  case round =>
    obtain ⟨left, cnt, rfl, hrg, hbl⟩ := hrel
    have hpb := part_bounds hG hbnd left (by omega) (by omega)
    go_wp2_with (first
      | (at_next; refine wpList_next_ranges _ rfl _ rfl 9 law9 sliceR Value.string (fun c : Option Addr × Nat × Nat => Value.slice c.1 c.2.1 c.2.2) (fun _ _ h => key9_inv h) (fun _ _ h => sliceR_inv h) mb w.heap.size nm _ _ _ rfl hrg ?_ ?_)
      | go_in)
    · intro _ hl0
      rw [part_end (val_ T) hl0] at hpb ⊢
      go_wp2_with fail
      refine (len_any lb mb nm pv D T wr ((hbl.cell (p := ⟨lb, 1, none⟩) hlb).trans hl) (he.below hbl)).mono ?_
      rintro e w2 ⟨rfl, hb2⟩
      have hA0 := (tot_bounds hG (f := cnt_ T) (lo := 0) (hi := 1024) (fun es _ p _ => ⟨by unfold cnt_; omega, by have := he.max p.1; unfold cnt_; omega⟩)).1
      have hblF : Below w.heap.size w w2 := hbl.trans (hb2.mono hbl.size)
      have hA1 : 0 ≤ tot (cnt_ T) D := by omega
      have hsz3 : (Maps.size D : Int) ≤ 1024 := by omega
      have hP := prod_ok (tot (cnt_ T) D) hA1 hall
      generalize hAe : tot (cnt_ T) D = A at *
      have HA : Hid _ := hAe
      clear hAe
      generalize (Maps.size D : Int) = sz at *
      have hS : -1048576 ≤ tot (val_ T) D ∧ tot (val_ T) D ≤ 687194767360 := by omega
      generalize hSe : tot (val_ T) D = S at *
      have HS : Hid _ := hSe
      clear hSe
      clear hpb hA0 he hG hbnd hT
      go_wp2_with fail
      go_ret2
      exact ⟨by rw [HA.out, HS.out]; rfl, hblF⟩
    · intro x ao n cap kl yd yp w1 cnt1 hkx hlx hRv hat hrg1 hlt1 hg1 hs1 hen
      have hRv2 : ((DataW.held (Value.slice ao n cap), []) : DataW Value × List MemPlace) = (yd, yp) := Option.some.inj hRv
      obtain ⟨rfl, rfl⟩ := Prod.mk.inj hRv2
      clear hRv hRv2
      obtain ⟨ao', cap', hat', hrow⟩ := he.at_ kl (has_true_of_atKey hat)
      have e1 := (hat .nil).symm.trans (hat' .nil)
      simp only [DataW.held.injEq, Value.slice.injEq] at e1
      obtain ⟨rfl, hn, rfl⟩ := e1
      have hst := part_step (val_ T) hG hlx hat
      have hst2 : val_ T (kl, DataW.held (Value.slice ao n cap)) = sumL (T kl) := rfl
      rw [hst2] at hst
      have hpb1 := part_bounds hG hbnd (fun z => left z && !z.sameKey kl) (by omega) (by omega)
      rw [hst] at hpb1
      have hbl1 := hbl.grown hg1 hbl.size (fun k hk => by cases hk; exact Nat.le_refl _)
      have hmx := he.max kl
      have hTk := hT kl
      have hrow1 := hrow.below hbl1 (Nat.le_refl _)
      have HST : Hid _ := hst
      rw [← hn] at hrow1 hmx
      have hln := hrow1.len
      generalize T kl = ts at *
      have HLN : Hid _ := hln
      have hsz3 : (Maps.size D : Int) ≤ 1024 := by omega
      generalize (Maps.size D : Int) = sz at *
      have hpp : -1048576 ≤ part (val_ T) left D ∧ part (val_ T) left D ≤ 687194767360 := by omega
      clear hst hst2 hn hat' hat hrow hln hpb hpb1 hT
      generalize part (val_ T) left D = S0 at *
      have HT : Hid _ := hTk
      clear hTk
      go_wp2_with fail
      go_loopw [2, 20] (fun v i w2 => ∃ k : Nat, k ≤ n ∧ i = .int .i64 k ∧ v = .int .i64 (S0 + sumL (ts.take k)) ∧ Below w1.heap.size w1 w2) (fun _ i _ => n - (intOf i).toNat)
      case atStart => exact ⟨0, Nat.zero_le _, rfl, by simp [sumL], Below.refl _ _⟩
      case round =>
        obtain ⟨k, hk, rfl, rfl, hb2⟩ := hrel
        have hsb := sumL_bounds (ts.take k) (fun t ht => HT.out t (List.mem_of_mem_take ht))
        have hsl : ((ts.take k).length : Int) ≤ 1024 := by rw [List.length_take, HLN.out]; omega
        by_cases hlt : (k : Int) < n
        · have hkl : k < ts.length := by rw [HLN.out]; omega
          obtain ⟨b, rfl, hbw, pr, c, sb, ns, Ds, hr, hos, hns, hbd, htt⟩ := hrow1.at_ k ts[k] (List.getElem?_eq_getElem hkl)
          have hr2 := range_below hb2 hr hbw
          have hos2 := owns_below hb2 hos hos.lt
          have htk : sumL (ts.take (k + 1)) = sumL (ts.take k) + ts[k] := by rw [List.take_succ_eq_append_getElem hkl, sumL_append]; simp [sumL]
          have htb := HT.out ts[k] (List.getElem_mem hkl)
          have HTK : Hid _ := htk
          have HTT : Hid _ := htt
          clear htk htt
          generalize ts[k] = t at *
          go_upto_region 7 with (refine wpList_var (by rfl) (by rfl) (by rfl) 41 (.tmp 22) (.tmp 7) (.tmp 23) (by rfl) (by rfl) (by rfl) b (k * 10) [.string pr, .int .u64 c, .map (some sb), .string ByteArray.empty, .string ByteArray.empty, .int .i64 0, .int .u64 0, .pointer none, .int .u32 0, .int .u32 0] (by rfl) _ hr2 Yba.underlying41 (by rfl) Yba.var41 (by simp [Value.oneCell']) (by rfl) (by rfl) ?_)
          go_wp2_with fail
          refine (evb_any pr _ _ c 0 0 0 0 none sb ns Ds _ (hos2.alloc _) hns hbd).mono ?_
          rintro e w3 ⟨rfl, hb3⟩
          rw [← HTT.out]
          have hb4 : Below w1.heap.size w1 w3 := (hb2.alloc hb2.size _).trans (hb3.mono (by simp; have := hb2.size; omega))
          generalize ((ts.take k).length : Int) = ln at *
          go_wp2_with fail
          go_roundw
          case rel => exact ⟨k + 1, by omega, by go_num, by rw [HTK.out]; go_num, hb4⟩
          case measure => simp [intOf]; omega
        · have hkn : k = n := by omega
          have hfin : sumL (ts.take k) = sumL ts := by rw [List.take_of_length_le (by rw [HLN.out]; omega)]
          have HF : Hid _ := hfin
          clear hfin
          have hrg2 := hrg1.kept (below_grownBy hb2) (by simp) (by simp)
          have hbl2 : Below w.heap.size w _ := hbl1.trans (hb2.mono hbl1.size)
          generalize ((ts.take k).length : Int) = ln at *
          go_wp2_with fail
          go_roundw
          case rel => exact ⟨_, cnt1, by rw [HST.out, HF.out], hrg2, hbl2⟩
          case measure => rw [hrg2.left_eq, hrg.left_eq]; exact hlt1
end Go.Proofs.Ybulkgly
