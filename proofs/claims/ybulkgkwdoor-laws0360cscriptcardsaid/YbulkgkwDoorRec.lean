import Derived.Test.YbulkgkwDoorEnd
namespace Go.Proofs.YbulkgkwDoor
open Go.RowKit
set_option linter.unusedVariables false
attribute [local go_sem ↓] Go.wp_at_zero Go.wp_at_succ

/-- The endpoint's record, laid in a buffer of 32 bytes. -/
def ep (p : Int) (s : Bool) : List Int := [p % 256, p / 256, if s then 1 else 0]
theorem endpoint_buf (g : Nat) (p : Int) (s : Bool) (w : World) (h : Own g w (some ⟨g, 0, none⟩) 0 32 []) (h0 : 0 ≤ p) (hp : p < 65536) (hz0 : w.cell? ⟨0, 0, none⟩ = some (.pointer none)) (hp0 : 0 < w.heap.size) :
    Calls Ybad.prog 13 #[.slice (some ⟨g, 0, none⟩) 0 32, .agg #[.int .u64 0, .int .u64 0, .pointer none, .int .u16 p, .bool s]] w fun e w' => e = .returned (.slice (some ⟨g, 0, none⟩) 3 32) ∧ Own g w' (some ⟨g, 0, none⟩) 3 32 (ep p s) ∧ w.grownBy w' (some g) := by
  refine (append_endpoint g _ 0 32 [] p s w h (by have := (h.blk _ rfl).2; simp at this; omega) (by omega) h0 hp hz0 hp0).mono ?_
  rintro e w1 ⟨ao1, n1, cap1, rfl, ho1, hst1⟩
  have hl := ho1.len
  simp only [List.nil_append, List.length_cons, List.length_nil] at hl
  subst hl
  obtain ⟨rfl, rfl⟩ := hst1.fits (by omega)
  exact ⟨rfl, ho1, hst1.grown⟩

theorem own_buf' (w : World) {g : Nat} (cur : Array Value) (t : TypeId) {cap : Nat} (hg : w.heap.size = g) (hc : cur.size = cap) (hm : cap ≤ 1000000 := by decide) : Own g (w.alloc (.cells cur t)) (some ⟨g, 0, none⟩) 0 cap [] := by
  subst hg
  exact own_buf w cur t cap hc (by unfold maxLen; omega)
theorem grown_new {w w1 w2 : World} {g : Nat} (h : w.grownBy w1 none) (k : w1.grownBy w2 (some g)) (hg : w.heap.size ≤ g) : w.grownBy w2 none :=
  ⟨k.os.trans h.os, k.tape.trans h.tape, k.output.trans h.output, Nat.le_trans h.size k.size, fun i hi _ => (k.block i (Nat.lt_of_lt_of_le hi h.size) (by simp; omega)).trans (h.block i hi (by simp))⟩
theorem w64 (x : Int) (h1 : -9223372036854775808 ≤ x) (h2 : x ≤ 9223372036854775807) : IntKind.i64.wrap x = x := IntWalk.i64_in x ⟨h1, h2⟩
theorem ret_i64 {a b : Int} (h : a = b) : Ending.returned (.int .i64 a) = .returned (.int .i64 b) := by rw [h]
theorem alloc2d (w : World) (o o2 : Obj) : w.grownBy ((w.alloc o).alloc o2).drew none := grownBy_trans (alloc2 w o o2) (grownBy_drew _ _)
theorem blk_new1d (w : World) (o o2 : Obj) : ((w.alloc o).alloc o2).drew.heap[w.heap.size]? = some o := blk_new w o (grownBy_trans (alloc1 _ o2) (grownBy_drew _ _))
theorem blk6 {w : World} {b : Nat} {x0 x1 x2 x3 x4 x5 : Value} {t : TypeId} {m : Nat × Nat} (h : w.heap[b]? = some (.cells #[x0, x1, x2, x3, x4, x5] t m)) :
    w.cell? ⟨b, 0, none⟩ = some x0 ∧ w.cell? ⟨b, 1, none⟩ = some x1 ∧ w.cell? ⟨b, 2, none⟩ = some x2 ∧ w.cell? ⟨b, 3, none⟩ = some x3 ∧ w.cell? ⟨b, 4, none⟩ = some x4 ∧ w.cell? ⟨b, 5, none⟩ = some x5 :=
  ⟨blk_cell h 0, blk_cell h 1, blk_cell h 2, blk_cell h 3, blk_cell h 4, blk_cell h 5⟩

set_option maxHeartbeats 400000 in
theorem recsize_any (ao : Option Addr) (n c : Nat) (p : Int) (s : Bool) (w : World) (hn : n ≤ 1024) (h0 : 0 ≤ p) (hp : p < 65536) (hz0 : w.cell? ⟨0, 0, none⟩ = some (.pointer none)) (hp0 : 0 < w.heap.size) :
    Calls Ybad.prog 9 #[.agg #[.slice ao n c, .int .u64 0, .int .u64 0, .pointer none, .int .u16 p, .bool s]] w fun e w' => e = .returned (.int .i64 (20 + (uv n).length + n)) ∧ w.grownBy w' none := by
  go_enter Ybad.func9, Ybad.ntmps9
  go_wp2_with fail
  go_region_held3 (fun w' => w'.cell? ⟨w.heap.size, 0, none⟩ = some (.slice ao n c) ∧ w'.cell? ⟨w.heap.size, 1, none⟩ = some (.int .u64 0) ∧ w'.cell? ⟨w.heap.size, 2, none⟩ = some (.int .u64 0) ∧ w'.cell? ⟨w.heap.size, 3, none⟩ = some (.pointer none) ∧ w'.cell? ⟨w.heap.size, 4, none⟩ = some (.int .u16 p) ∧ w'.cell? ⟨w.heap.size, 5, none⟩ = some (.bool s))
    (first | go_keep | (obtain ⟨k0, k1, k2, k3, k4, k5⟩ := blk6 hB1; exact ⟨k0, k1, k2, k3, k4, k5⟩))
    ((go_at_call 13; refine (endpoint_buf (w.heap.size + 1) p s _ ?_ h0 hp ?_ ?_).mono ?_; (exact Own.drew (own_buf' (w.alloc _) _ _ (by simp) rfl)); (exact z_kept (alloc2d w _ _) hz0 (by simp)); (simp); rintro e w1 ⟨rfl, ho1, hg1⟩; have hB1 := blk_kept hg1 (blk_new1d w _ _) (by simp)))
  have HG : Hid _ := grown_new (alloc2d w _ _) hg1 (by omega)
  have e3 : (uv 3).length = 1 := rfl
  have hub : (uv n).length ≤ 2 := by unfold uv; split <;> simp
  clear hg1 ho1
  go_wp2_with fail
  go_region_held3 (fun w' => (w'.heap[w.heap.size]? = some (.cells #[.slice ao n c, .int .u64 0, .int .u64 0, .pointer none, .int .u16 p, .bool s] 46) ∧ w1.grownBy w' none) ∧ w'.cell? ⟨w.heap.size, 0, none⟩ = some (.slice ao n c))
    (first | exact ⟨⟨hB1, grownBy_drew _ _⟩, blk_cell hB1 0⟩ | exact ⟨⟨hB2, hG2⟩, blk_cell hB2 0⟩)
    ((go_at_call 14; refine (usize_any _ _ ?_ ?_).mono ?_; (omega); (omega); rintro e w2 ⟨rfl, hg2⟩; go_split_ands; have hB2 := blk_kept hg2 (by assumption) (by simp); have hG2 : w1.grownBy w2 none := grownBy_trans (by assumption) hg2; clear hg2))
  all_goals go_wp2_with fail
  go_split_ands
  go_ret
  refine ⟨ret_i64 ?_, grownBy_trans HG.out (by assumption)⟩
  rw [w64 17 (by omega) (by omega), w64 (17 + 3) (by omega) (by omega), w64 (17 + 3 + _) (by omega) (by omega), w64 (17 + 3 + _ + _) (by omega) (by omega)]
  omega
end Go.Proofs.YbulkgkwDoor
