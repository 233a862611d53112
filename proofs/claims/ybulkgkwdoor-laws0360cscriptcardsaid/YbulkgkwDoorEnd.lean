import Derived.Test.YbulkgkwDoorUv
import Derived.Deep.RegionHeld3
import Derived.Deep.DrawnRows
namespace Go.Proofs.YbulkgkwDoor
open Go.RowKit
set_option linter.unusedVariables false

theorem own_buf (w : World) (cur : Array Value) (t : TypeId) (cap : Nat) (hc : cur.size = cap) (hm : cap ≤ maxLen) : Own w.heap.size (w.alloc (.cells cur t)) (some ⟨w.heap.size, 0, none⟩) 0 cap [] := by
  refine ⟨rfl, Nat.zero_le _, hm, (fun h => by cases h), fun a ha => by obtain rfl := Option.some.inj ha; rfl, fun a ha => by obtain rfl := Option.some.inj ha; exact ⟨Nat.le_refl _, by simp⟩, fun _ _ j hj => by omega, fun a ha j hj => ?_⟩
  obtain rfl := Option.some.inj ha
  have e1 := World.cell?_alloc_new w cur t j
  exact ⟨by rw [show (w.alloc _).cell? ⟨w.heap.size, j, none⟩ = _ from e1, Array.getElem?_eq_getElem (by omega)]; rfl, World.frozen?_alloc_new w cur t j⟩

theorem Step.fresh {w w' : World} {o : Obj} {cap n' cap' : Nat} {ao' : Option Addr} (h : Step (w.alloc o) w' (some ⟨w.heap.size, 0, none⟩) cap ao' n' cap') : w.grownBy w' none := by
  have h1 := World.grownBy_alloc w o none
  refine ⟨h.grown.os.trans h1.os, h.grown.tape.trans h1.tape, h.grown.output.trans h1.output, Nat.le_trans h1.size h.grown.size, fun k hk _ => ?_⟩
  rw [h.grown.block k (by simp; omega) (by simp; omega), h1.block k hk (by simp)]

set_option maxHeartbeats 400000 in
theorem usize_any (n : Int) (w : World) (h0 : 0 ≤ n) (hn : n < 16384) :
    Calls Ybad.prog 14 #[.int .i64 n] w fun e w' => e = .returned (.int .i64 (uv n).length) ∧ w.grownBy w' none := by
  go_enter Ybad.func14, Ybad.ntmps14
  go_wp2_with fail
  refine (uvarint_any w.heap.size _ 0 10 [] n _ (own_buf w _ _ 10 rfl (by decide)) (by simp) (by omega) h0 hn).mono ?_
  rintro e w1 ⟨ao1, n1, cap1, rfl, ho1, hst1⟩
  have hl := ho1.len
  simp only [List.nil_append] at hl
  have hg := hst1.fresh
  clear ho1 hst1
  go_wp2
  go_ret
  exact ⟨by rw [hl]; rfl, hg⟩

set_option maxHeartbeats 400000 in
theorem leapp_any (base : Nat) (ao : Option Addr) (n cap : Nat) (xs : List Int) (p : Int) (w : World) (h : Own base w ao n cap xs) (hb : base ≤ w.heap.size) (hn : n ≤ 1000000000) (h0 : 0 ≤ p) (hp : p < 65536) :
    Calls Ybad.prog 18 #[.slice ao n cap, .int .u16 p] w fun e w' => ∃ ao' n' cap', e = .returned (.slice ao' n' cap') ∧ Own base w' ao' n' cap' (xs ++ [p % 256, p / 256]) ∧ Step w w' ao cap ao' n' cap' := by
  go_enter Ybad.func18, Ybad.ntmps18
  go_wp2_with (at_builtin; refine wpList_app (by rfl) (.tmp 5) (.tmp 11) (by rfl) base (by rfl) (h.alloc _) (by rfl) (bytes_two _ _ _ _) (by omega) (by simp; omega) ?_; intro ao2 n2 cap2 w2 ho2 hst2)
  have hl1 := h.len
  have hl2 := ho2.len
  simp only [List.length_append, List.length_cons, List.length_nil] at hl1 hl2
  go_ret
  exact ⟨ao2, n2, cap2, rfl, ho2, (Step.refl w ao n cap).app hst2 (by omega)⟩

theorem alloc1 (w : World) (o : Obj) : w.grownBy (w.alloc o) none := World.grownBy_alloc w o none
theorem alloc2 (w : World) (o o2 : Obj) : w.grownBy ((w.alloc o).alloc o2) none := grownBy_trans (alloc1 w o) (alloc1 _ o2)
theorem alloc3 (w : World) (o o2 o3 : Obj) : w.grownBy (((w.alloc o).alloc o2).alloc o3) none := grownBy_trans (alloc2 w o o2) (alloc1 _ o3)

set_option maxHeartbeats 400000 in
theorem addr_any (p : Int) (w : World) :
    Calls Ybad.prog 16 #[.agg #[.int .u64 0, .int .u64 0, .pointer none, .int .u16 p]] w fun e w' => e = .returned (.agg #[.int .u64 0, .int .u64 0, .pointer none]) ∧ w.grownBy w' none := by
  go_enter Ybad.func16, Ybad.ntmps16
  go_wp2_with fail
  exact bodyPost_ret (v := .agg #[.int .u64 0, .int .u64 0, .pointer none]) (by simp [results, Ybad.results16, go_sem]) rfl ⟨rfl, alloc2 _ _ _⟩
set_option maxHeartbeats 400000 in
theorem port_any (p : Int) (w : World) :
    Calls Ybad.prog 19 #[.agg #[.int .u64 0, .int .u64 0, .pointer none, .int .u16 p]] w fun e w' => e = .returned (.int .u16 p) ∧ w.grownBy w' none := by
  go_enter Ybad.func19, Ybad.ntmps19
  go_wp2_with fail
  go_ret
  exact ⟨rfl, alloc1 _ _⟩
set_option maxHeartbeats 400000 in
theorem apfrom_any (p : Int) (w : World) :
    Calls Ybad.prog 11 #[.agg #[.int .u64 0, .int .u64 0, .pointer none], .int .u16 p] w fun e w' => e = .returned (.agg #[.int .u64 0, .int .u64 0, .pointer none, .int .u16 p]) ∧ w' = (w.alloc (.cells #[.int .u64 0, .int .u64 0, .pointer none] 40)).alloc (.cells #[.int .u64 0, .int .u64 0, .pointer none, .int .u16 p] 42) := by
  go_enter Ybad.func11, Ybad.ntmps11
  go_wp2_with fail
  exact bodyPost_ret (v := .agg #[.int .u64 0, .int .u64 0, .pointer none, .int .u16 p]) (by simp [results, Ybad.results11, go_sem]) rfl ⟨rfl, rfl⟩

/-- The sent value of a datagram to the zero address. -/
def sentV (ao : Option Addr) (n c : Nat) (p : Int) (s : Bool) : Value := .agg #[.slice ao n c, .int .u64 0, .int .u64 0, .pointer none, .int .u16 p, .bool s]
set_option maxHeartbeats 400000 in
theorem csent_any (p : Int) (s : Bool) (ao : Option Addr) (n c : Nat) (w : World) :
    Calls Ybad.prog 6 #[.int .u16 p, .bool s, .slice ao n c] w fun e w' => e = .returned (sentV ao n c p s) ∧ w.grownBy w' none := by
  go_enter Ybad.func6, Ybad.ntmps6
  go_wp2_with fail
  refine (apfrom_any _ _).mono ?_
  rintro e w1 ⟨rfl, rfl⟩
  go_wp2
  exact bodyPost_ret (v := sentV ao n c p s) (by simp [results, Ybad.results6, go_sem, sentV]) rfl ⟨rfl, alloc3 _ _ _ _⟩
theorem eq_z0 (w : World) : (Op.equalIn 9999 36 (.pointer none) (.pointer none)).run Ybad.prog w = .ok true w := by kernel_rfl

set_option maxHeartbeats 400000 in
theorem appbin_any (ao : Option Addr) (n cap : Nat) (w : World) (hz0 : w.cell? ⟨0, 0, none⟩ = some (.pointer none)) (hp0 : 0 < w.heap.size) :
    Calls Ybad.prog 17 #[.agg #[.int .u64 0, .int .u64 0, .pointer none], .slice ao n cap] w fun e w' => e = .returned (.tuple #[.slice ao n cap, .nilIface]) ∧ w.grownBy w' none := by
  have hq := eq_z0
  go_enter Ybad.func17, Ybad.ntmps17
  go_wp2_with fail
  go_ret2
  exact ⟨rfl, alloc1 _ _⟩

theorem blk_new (w : World) (o : Obj) {w1 : World} (h : (w.alloc o).grownBy w1 none) : w1.heap[w.heap.size]? = some o :=
  (h.block w.heap.size (by simp) (by simp)).trans (by show (w.heap.push o)[w.heap.size]? = _; simp)
theorem blk_kept {w w1 : World} {r : Option Nat} (h : w.grownBy w1 r) {b : Nat} {o : Obj} (hb : w.heap[b]? = some o) (hne : some b ≠ r) : w1.heap[b]? = some o :=
  (h.block b (Array.getElem?_eq_some_iff.1 hb).1 hne).trans hb
theorem blk_cell {w : World} {b : Nat} {cs : Array Value} {t : TypeId} {m : Nat × Nat} (h : w.heap[b]? = some (.cells cs t m)) (j : Nat) : w.cell? ⟨b, j, none⟩ = cs[j]? := by simp [World.cell?, h]
theorem blk4 {w : World} {b : Nat} {x0 x1 x2 x3 : Value} {t : TypeId} {m : Nat × Nat} (h : w.heap[b]? = some (.cells #[x0, x1, x2, x3] t m)) :
    w.cell? ⟨b, 0, none⟩ = some x0 ∧ w.cell? ⟨b, 1, none⟩ = some x1 ∧ w.cell? ⟨b, 2, none⟩ = some x2 ∧ w.cell? ⟨b, 3, none⟩ = some x3 :=
  ⟨blk_cell h 0, blk_cell h 1, blk_cell h 2, blk_cell h 3⟩
theorem z_kept {w w1 : World} {r : Option Nat} (h : w.grownBy w1 r) {v : Value} (hz : w.cell? ⟨0, 0, none⟩ = some v) (hr : some 0 ≠ r) : w1.cell? ⟨0, 0, none⟩ = some v := World.grownBy.cell h hz hr

set_option maxHeartbeats 400000 in
theorem apbin_any (base : Nat) (ao : Option Addr) (n cap : Nat) (xs : List Int) (p : Int) (w : World) (h : Own base w ao n cap xs) (hb : base ≤ w.heap.size) (hn : n ≤ 1000000000) (h0 : 0 ≤ p) (hp : p < 65536) (hz0 : w.cell? ⟨0, 0, none⟩ = some (.pointer none)) (hp0 : 0 < w.heap.size) :
    Calls Ybad.prog 15 #[.agg #[.int .u64 0, .int .u64 0, .pointer none, .int .u16 p], .slice ao n cap] w fun e w' => ∃ ao' n' cap', e = .returned (.tuple #[.slice ao' n' cap', .nilIface]) ∧ Own base w' ao' n' cap' (xs ++ [p % 256, p / 256]) ∧ Step w w' ao cap ao' n' cap' := by
  go_enter Ybad.func15, Ybad.ntmps15
  go_wp2_with fail
  refine (addr_any _ _).mono ?_
  rintro e w1 ⟨rfl, hg1⟩
  have hs1 := hg1.size
  simp only [World.size_alloc] at hs1
  have hz1 : w1.cell? ⟨0, 0, none⟩ = some (.pointer none) := z_kept (grownBy_trans (alloc1 w _) hg1) hz0 (by simp)
  have HG1 : Hid _ := hg1
  clear hg1
  go_wp2_with fail
  refine (appbin_any ao n cap _ hz1 (by omega)).mono ?_
  rintro e w2 ⟨rfl, hg2⟩
  have hs2 := hg2.size
  obtain ⟨c0, c1, c2, c3⟩ := blk4 (blk_kept hg2 (blk_new w _ HG1.out) (by simp))
  have HG2 : Hid _ := grownBy_trans (alloc1 w _) (grownBy_trans HG1.out hg2)
  clear hg2 HG1
  go_wp2_with fail
  refine (port_any _ _).mono ?_
  rintro e w3 ⟨rfl, hg3⟩
  have hs3 := hg3.size
  have HG3 : Hid _ := grownBy_trans HG2.out hg3
  clear hg3 HG2 c0 c1 c2 c3
  go_wp2_with fail
  refine (leapp_any base ao n cap xs p w3 (h.grown HG3.out) (by omega) hn h0 hp).mono ?_
  rintro e w4 ⟨ao4, n4, cap4, rfl, ho4, hst4⟩
  go_wp2_with fail
  go_ret2
  have hl1 := h.len
  have hl2 := ho4.len
  simp only [List.length_append, List.length_cons, List.length_nil] at hl1 hl2
  exact ⟨ao4, n4, cap4, rfl, ho4, (Step.of_grown HG3.out ao n cap).trans hst4 (by omega)⟩

set_option maxHeartbeats 400000 in
theorem append_endpoint (base : Nat) (ao : Option Addr) (n cap : Nat) (xs : List Int) (p : Int) (s : Bool) (w : World) (h : Own base w ao n cap xs) (hb : base ≤ w.heap.size) (hn : n ≤ 100000000) (h0 : 0 ≤ p) (hp : p < 65536) (hz0 : w.cell? ⟨0, 0, none⟩ = some (.pointer none)) (hp0 : 0 < w.heap.size) :
    Calls Ybad.prog 13 #[.slice ao n cap, .agg #[.int .u64 0, .int .u64 0, .pointer none, .int .u16 p, .bool s]] w fun e w' => ∃ ao' n' cap', e = .returned (.slice ao' n' cap') ∧ Own base w' ao' n' cap' (xs ++ [p % 256, p / 256, if s then 1 else 0]) ∧ Step w w' ao cap ao' n' cap' := by
  have hne : ∀ a, ao = some a → a.block ≠ w.heap.size := fun a ha => by have := (h.blk a ha).2; omega
  go_enter Ybad.func13, Ybad.ntmps13
  go_wp2_with fail
  refine (apbin_any base ao n cap xs p _ (h.alloc _) (by simp; omega) (by omega) h0 hp (z_kept (alloc1 w _) hz0 (by simp)) (by simp)).mono ?_
  rintro e w1 ⟨ao1, n1, cap1, rfl, ho1, hst1⟩
  have hB : w1.heap[w.heap.size]? = _ := blk_kept hst1.grown (heap_alloc_new w _) (fun e => by
    cases ao with
    | none => simp at e
    | some a => simp at e; exact hne a rfl e.symm)
  have c4 := blk_cell hB 4
  simp only [List.getElem?_toArray, List.getElem?_cons_succ, List.getElem?_cons_zero] at c4
  have hl1 := h.len
  have hl2 := ho1.len
  simp only [List.length_append, List.length_cons, List.length_nil] at hl1 hl2
  have hst := (Step.of_grown (alloc1 w _) ao n cap).trans hst1 (by omega)
  have hs1 := hst.grown.size
  have HS : Hid _ := hst
  clear hst1 hB hst
  cases s with
  | true =>
    go_wp2_with (at_builtin; refine wpList_app (by rfl) (.tmp 14) (.tmp 15) (by rfl) base (by rfl) (ho1.alloc _) (by rfl) (bytes_one _ _ _) (by omega) (by simp; omega) ?_; intro ao2 n2 cap2 w2 ho2 hst2)
    have hl3 := ho2.len
    simp only [List.length_append, List.length_cons, List.length_nil] at hl3
    go_ret
    exact ⟨ao2, n2, cap2, rfl, by simpa using ho2, HS.out.app hst2 (by omega)⟩
  | false =>
    go_wp2_with (at_builtin; refine wpList_app (by rfl) (.tmp 17) (.tmp 18) (by rfl) base (by rfl) (ho1.alloc _) (by rfl) (bytes_one _ _ _) (by omega) (by simp; omega) ?_; intro ao2 n2 cap2 w2 ho2 hst2)
    have hl3 := ho2.len
    simp only [List.length_append, List.length_cons, List.length_nil] at hl3
    go_ret
    exact ⟨ao2, n2, cap2, rfl, by simpa using ho2, HS.out.app hst2 (by omega)⟩
end Go.Proofs.YbulkgkwDoor
