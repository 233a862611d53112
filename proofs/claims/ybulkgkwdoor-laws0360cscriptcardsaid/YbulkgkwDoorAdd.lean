import Derived.Test.YbulkgkwDoorMk
import Derived.Deep.Cut
namespace Go.Proofs.YbulkgkwDoor
open Go.RowKit
set_option linter.unusedVariables false
attribute [local go_sem ↓] Go.wp_at_zero Go.wp_at_succ

structure Gen (base : Nat) (w : World) (gb : Nat) (ao : Option Addr) (n cap cnt : Nat) (xs : List Int) : Prop where
  blk : w.heap[gb]? = some (.cells #[.slice ao n cap, .int .i64 cnt] 29)
  own : Own base w ao n cap xs
  ne : ∀ a, ao = some a → a.block ≠ gb

/-- The record's length. -/
def rlen (m : Nat) : Nat := 20 + (uv m).length + m
theorem rcd_len (ks : List Int) (p : Int) (s : Bool) (ys : List Int) (hk : ks.length = 16) : (rcd ks p s ys).length = rlen ys.length := by
  simp [rcd, rlen, ep, hk]; omega
theorem rlen_le (m : Nat) : rlen m ≤ 22 + m := by
  have : (uv m).length ≤ 2 := by unfold uv; split <;> simp
  unfold rlen; omega

theorem recsize_r (ao : Option Addr) (n c : Nat) (p : Int) (s : Bool) (w : World) (hn : n ≤ 1024) (h0 : 0 ≤ p) (hp : p < 65536) (hz0 : w.cell? ⟨0, 0, none⟩ = some (.pointer none)) (hp0 : 0 < w.heap.size) :
    Calls Ybad.prog 9 #[.agg #[.slice ao n c, .int .u64 0, .int .u64 0, .pointer none, .int .u16 p, .bool s]] w fun e w' => e = .returned (.int .i64 (rlen n : Nat)) ∧ w.grownBy w' none :=
  (recsize_any ao n c p s w hn h0 hp hz0 hp0).mono (by rintro e w1 ⟨rfl, h⟩; exact ⟨ret_i64 (by unfold rlen; omega), h⟩)

set_option maxHeartbeats 400000 in
theorem add_no (base gb : Nat) (ao : Option Addr) (n cap cnt : Nat) (xs : List Int) (ks : List Int) (bo : Option Addr) (m c : Nat) (p : Int) (s : Bool) (w : World)
    (hg : Gen base w gb ao n cap cnt xs) (hn : n ≤ 10000000) (hc : cap ≤ 10000000) (hcnt : cnt ≤ 1000000) (hm : m ≤ 1024) (h0 : 0 ≤ p) (hp : p < 65536) (hz0 : w.cell? ⟨0, 0, none⟩ = some (.pointer none)) (hp0 : 0 < w.heap.size)
    (hroom : 2097152 - ((cnt : Int) + 1) * 48 < n + (rlen m : Nat) ∨ 2097152 - ((cnt : Int) + 1) * 48 < cap) :
    Calls Ybad.prog 5 #[.pointer (some ⟨gb, 0, none⟩), .agg (bs ks).toArray, .agg #[.slice bo m c, .int .u64 0, .int .u64 0, .pointer none, .int .u16 p, .bool s]] w fun e w' => e = .returned (.tuple #[.int .i64 0, .bool false]) ∧ w.grownBy w' none := by
  generalize (bs ks).toArray = K
  have hr := rlen_le m
  generalize hR : rlen m = R at *
  have HR : Hid _ := hR
  clear hR
  go_enter Ybad.func5, Ybad.ntmps5
  have hB0 := blk_kept (alloc2 w (.cells K 32) (.cells #[.slice bo m c, .int .u64 0, .int .u64 0, .pointer none, .int .u16 p, .bool s] 46)) hg.blk (by simp)
  have c0 := blk_cell hB0 0
  have c1 := blk_cell hB0 1
  simp only [List.getElem?_toArray, List.getElem?_cons_succ, List.getElem?_cons_zero] at c0 c1
  go_wp2_with fail
  refine (recsize_r bo m c p s _ hm h0 hp (z_kept (alloc2 w _ _) hz0 (by simp)) (by simp)).mono ?_
  rw [HR.out]
  rintro e w1 ⟨rfl, hg1⟩
  have hB1 := blk_kept hg1 hB0 (by simp)
  clear c0 c1
  have c0 := blk_cell hB1 0
  have c1 := blk_cell hB1 1
  simp only [List.getElem?_toArray, List.getElem?_cons_succ, List.getElem?_cons_zero] at c0 c1
  have HG : Hid _ := grownBy_trans (alloc2 w _ _) hg1
  clear hg1 hB1 hB0
  go_upto_region 4 with fail
  by_cases hle : (n : Int) + (R : Int) < cap
  · have ht : 2097152 - ((cnt : Int) + 1) * 48 < cap := by omega
    clear hroom
    go_wp2_with fail
    go_ret2
    exact ⟨rfl, HG.out⟩
  · have ht : 2097152 - ((cnt : Int) + 1) * 48 < (n : Int) + R := by omega
    clear hroom
    go_wp2_with fail
    go_ret2
    exact ⟨rfl, HG.out⟩
end Go.Proofs.YbulkgkwDoor
