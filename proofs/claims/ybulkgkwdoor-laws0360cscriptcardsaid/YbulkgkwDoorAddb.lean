import Derived.Test.YbulkgkwDoorAdd
import Derived.Deep.RegionWith
namespace Go.Proofs.YbulkgkwDoor
open Go.RowKit
set_option linter.unusedVariables false
attribute [local go_sem ↓] Go.wp_at_zero Go.wp_at_succ

structure Fr (w w' : World) (gb : Nat) (ao : Option Addr) : Prop where
  os : w'.os = w.os
  tape : w'.tape = w.tape
  output : w'.output = w.output
  size : w.heap.size ≤ w'.heap.size
  block : ∀ k, k < w.heap.size → k ≠ gb → some k ≠ ao.map (·.block) → w'.heap[k]? = w.heap[k]?

/-- What an add that fits leaves. -/
structure Added (base : Nat) (w w' : World) (gb : Nat) (ao : Option Addr) (n cap cnt : Nat) (ys : List Int) : Prop where
  gen : ∃ ao' n' cap', Gen base w' gb ao' n' cap' (cnt + 1) ys ∧ Fr w w' gb ao ∧ (ao' = ao ∨ ∃ a, ao' = some a ∧ w.heap.size ≤ a.block) ∧ (cap' : Int) ≤ 2097152 - ((cnt : Int) + 1) * 48 ∧ (cap' ≤ cap ∨ cap' ≤ 2 * n' + 4096)

theorem blk16 {w : World} {b : Nat} {x0 x1 x2 x3 x4 x5 x6 x7 x8 x9 x10 x11 x12 x13 x14 x15 : Value} {t : TypeId} {m : Nat × Nat} (h : w.heap[b]? = some (.cells #[x0, x1, x2, x3, x4, x5, x6, x7, x8, x9, x10, x11, x12, x13, x14, x15] t m)) :
    w.cell? ⟨b, 0, none⟩ = some x0 ∧ w.cell? ⟨b, 1, none⟩ = some x1 ∧ w.cell? ⟨b, 2, none⟩ = some x2 ∧ w.cell? ⟨b, 3, none⟩ = some x3 ∧ w.cell? ⟨b, 4, none⟩ = some x4 ∧ w.cell? ⟨b, 5, none⟩ = some x5 ∧ w.cell? ⟨b, 6, none⟩ = some x6 ∧ w.cell? ⟨b, 7, none⟩ = some x7 ∧ w.cell? ⟨b, 8, none⟩ = some x8 ∧ w.cell? ⟨b, 9, none⟩ = some x9 ∧ w.cell? ⟨b, 10, none⟩ = some x10 ∧ w.cell? ⟨b, 11, none⟩ = some x11 ∧ w.cell? ⟨b, 12, none⟩ = some x12 ∧ w.cell? ⟨b, 13, none⟩ = some x13 ∧ w.cell? ⟨b, 14, none⟩ = some x14 ∧ w.cell? ⟨b, 15, none⟩ = some x15 :=
  ⟨blk_cell h 0, blk_cell h 1, blk_cell h 2, blk_cell h 3, blk_cell h 4, blk_cell h 5, blk_cell h 6, blk_cell h 7, blk_cell h 8, blk_cell h 9, blk_cell h 10, blk_cell h 11, blk_cell h 12, blk_cell h 13, blk_cell h 14, blk_cell h 15⟩
theorem blk_frozen {w : World} {b : Nat} {cs : Array Value} {t : TypeId} (h : w.heap[b]? = some (.cells cs t)) (j : Nat) : w.frozen? ⟨b, j, none⟩ = false := by simp [World.frozen?, h]

/-- What appendRecord leaves, told beside the generation's block. -/
structure AppPost (base : Nat) (w w' : World) (gb : Nat) (ao : Option Addr) (cap : Nat) (ys : List Int) (rec : Value) (cnt : Nat) (ao' : Option Addr) (n' cap' : Nat) : Prop where
  own : Own base w' ao' n' cap' ys
  step : Step w w' ao cap ao' n' cap'
  blk : w'.heap[gb]? = some (.cells #[rec, .int .i64 cnt] 29)

/-- The generation as it stands ahead of appendRecord: room for the record. -/
structure Ready (base : Nat) (w1 wc : World) (gb : Nat) (ao : Option Addr) (n cap cnt R : Nat) (xs : List Int) (ao1 : Option Addr) (cap1 : Nat) : Prop where
  gen : Gen base wc gb ao1 n cap1 cnt xs
  room : n + R ≤ cap1
  share : (cap1 : Int) ≤ 2097152 - ((cnt : Int) + 1) * 48
  bound : cap1 ≤ cap ∨ cap1 ≤ 2 * (n + R) + 4096
  fr : Fr w1 wc gb ao
  lies : ao1 = ao ∨ ∃ a, ao1 = some a ∧ w1.heap.size ≤ a.block

theorem avg_le (n R cnt : Nat) : 0 ≤ ((n : Int) + (R : Int)) / ((cnt : Int) + 1) ∧ ((n : Int) + (R : Int)) / ((cnt : Int) + 1) ≤ n + R := by
  constructor
  · exact Int.ediv_nonneg (by omega) (by omega)
  · exact Int.ediv_le_self _ (by omega)
theorem fill_le (x av : Int) (hx : 0 ≤ x) (hx2 : x ≤ 2097152) (ha : 0 ≤ av) (ha2 : av ≤ 20000000) : (0 ≤ x * av ∧ x * av ≤ 41943040000000) ∧ (0 ≤ x * av / (av + 48) ∧ x * av / (av + 48) ≤ x) := by
  have h1 : 0 ≤ x * av := Int.mul_nonneg hx ha
  have h2 : x * av ≤ 2097152 * 20000000 := Int.mul_le_mul hx2 ha2 ha (by omega)
  refine ⟨⟨h1, by omega⟩, Int.ediv_nonneg h1 (by omega), ?_⟩
  refine Int.ediv_le_of_le_mul (by omega) ?_
  rw [Int.mul_add]
  have : 0 ≤ x * 48 := Int.mul_nonneg hx (by omega)
  omega

/-- min(max(x, y, 4096), F), as the walk spells it. -/
def pickC (x y F : Int) : Int := if F < (if 4096 > (if y > x then y else x) then 4096 else (if y > x then y else x)) then F else (if 4096 > (if y > x then y else x) then 4096 else (if y > x then y else x))
theorem pickC_le {x y F n : Int} (h1 : n ≤ y) (h2 : n ≤ F) : n ≤ pickC x y F := by unfold pickC; repeat' split <;> omega
theorem pickC_two {x y F M : Int} (h1 : x < M) (h2 : y ≤ M := by omega) (h3 : 4096 ≤ M := by omega) : pickC x y F ≤ M := by unfold pickC; repeat' split <;> omega
theorem pickC_max {x y F M : Int} (h1 : F ≤ M) : pickC x y F ≤ M := by unfold pickC; repeat' split <;> omega

theorem heap_setCell_same {w : World} {b : Nat} {cs : Array Value} {t : TypeId} {fr : Nat × Nat} (h : w.heap[b]? = some (.cells cs t fr)) (j : Nat) (u : Value) : (w.setCell ⟨b, j, none⟩ u).heap[b]? = some (.cells (cs.setIfInBounds j u) t fr) := by
  simp [World.setCell, Array.getElem?_modify, h]
theorem grownBy_setCell (w : World) (b j : Nat) (u : Value) : w.grownBy (w.setCell ⟨b, j, none⟩ u) (some b) :=
  ⟨rfl, rfl, rfl, by simp [World.setCell], fun k _ hne => Below.heap_setCell _ _ _ _ (fun e => hne (by rw [e]))⟩
theorem ready_grown {base : Nat} {w1 w2 w3 : World} {gb g2 n cap cap2 cnt R : Nat} {ao : Option Addr} {xs : List Int} (hB3 : w3.heap[gb]? = some (.cells #[.slice ao n cap, .int .i64 cnt] 29)) (hO3 : Own base w3 (some ⟨g2, 0, none⟩) n cap2 xs) (hG2 : w1.grownBy w2 none) (hG3 : w2.grownBy w3 (some g2)) (hgl : w1.heap.size ≤ g2) (hgne : gb ≠ g2) (hgb : base ≤ gb)
    (h1 : n + R ≤ cap2) (h2 : (cap2 : Int) ≤ 2097152 - ((cnt : Int) + 1) * 48) (h3 : cap2 ≤ 2 * (n + R) + 4096) :
    Ready base w1 (w3.setCell ⟨gb, 0, none⟩ (.slice (some ⟨g2, 0, none⟩) n cap2)) gb ao n cap cnt R xs (some ⟨g2, 0, none⟩) cap2 := by
  have hs := grownBy_setCell w3 gb 0 (.slice (some ⟨g2, 0, none⟩) n cap2)
  refine ⟨⟨heap_setCell_same hB3 0 _, hO3.kept hs (fun a ha => by obtain rfl := Option.some.inj ha; simp; omega), fun a ha => by obtain rfl := Option.some.inj ha; simp; omega⟩, h1, h2, .inr h3, ?_, .inr ⟨_, rfl, hgl⟩⟩
  exact ⟨hs.os.trans (hG3.os.trans hG2.os), hs.tape.trans (hG3.tape.trans hG2.tape), hs.output.trans (hG3.output.trans hG2.output), Nat.le_trans hG2.size (Nat.le_trans hG3.size hs.size), fun k hk h1 h2 =>
    (hs.block k (by have := hG2.size; have := hG3.size; omega) (by simp; omega)).trans ((hG3.block k (by have := hG2.size; omega) (by simp; omega)).trans (hG2.block k hk (by simp)))⟩

theorem ready_blk {base : Nat} {w w1 W : World} {gb n cap cnt : Nat} {ao : Option Addr} {xs : List Int} (hfr : Fr w1 W gb ao) {b : Nat} {o : Obj} (hb : w1.heap[b]? = some o) (hlt : w.heap.size ≤ b) (hg : Gen base w gb ao n cap cnt xs) (hs1 : w.heap.size + 2 ≤ w1.heap.size) : W.heap[b]? = some o := by
  have h1 := (Array.getElem?_eq_some_iff.1 hb).1
  have h2 := (Array.getElem?_eq_some_iff.1 hg.blk).1
  rw [hfr.block b h1 (by omega) (fun e => by
    cases ao with
    | none => simp at e
    | some a => simp at e; have := (hg.own.blk a rfl).2; omega)]
  exact hb

/-- What appendRecord leaves of the generation, behind a world that is ready. -/
theorem app_call (base : Nat) (w w1 W : World) (gb : Nat) (ao : Option Addr) (n cap cnt R : Nat) (xs : List Int) (ao1 : Option Addr) (cap1 : Nat) (ks : List Int) (bo : Option Addr) (m c : Nat) (ys : List Int) (p : Int) (s : Bool)
    (hg : Gen base w gb ao n cap cnt xs) (hb : base ≤ w.heap.size) (hn : n ≤ 10000000) (hy : Bytes w bo m ys) (hyb : ∀ a, bo = some a → m ≠ 0 → a.block < base) (hm : m ≤ 1024) (h0 : 0 ≤ p) (hp : p < 65536) (hz0 : w.cell? ⟨0, 0, none⟩ = some (.pointer none)) (hp0 : 0 < base) (hgb : base ≤ gb)
    (hG : w.grownBy w1 none) (hs1 : w.heap.size + 2 ≤ w1.heap.size) (hk : ks.length = 16) (hrd : Ready base w1 W gb ao n cap cnt R xs ao1 cap1) (hR : rlen m = R) :
    Calls Ybad.prog 10 #[.slice ao1 n cap1, .agg (bs ks).toArray, .agg #[.slice bo m c, .int .u64 0, .int .u64 0, .pointer none, .int .u16 p, .bool s]] W.drew fun e w' => ∃ ao' n' cap', e = .returned (.slice ao' n' cap') ∧
      (w'.cell? ⟨gb, 0, none⟩ = some (.slice ao1 n cap1) ∧ w'.frozen? ⟨gb, 0, none⟩ = false ∧ w'.cell? ⟨gb, 1, none⟩ = some (.int .i64 cnt) ∧ w'.frozen? ⟨gb, 1, none⟩ = false) ∧
      AppPost base W w' gb ao1 cap1 (xs ++ rcd ks p s ys) (.slice ao1 n cap1) cnt ao' n' cap' := by
  have hfr := hrd.fr
  have hz1 : W.cell? ⟨0, 0, none⟩ = some (.pointer none) := by
    have h1 : w1.cell? ⟨0, 0, none⟩ = some (.pointer none) := z_kept hG hz0 (by simp)
    rw [World.cell?_of_block (w := w1) (a := ⟨0, 0, none⟩) (hfr.block 0 (by omega) (by omega) (fun e => by
      cases ao with
      | none => simp at e
      | some a => simp at e; have := (hg.own.blk a rfl).1; omega))]
    exact h1
  have hyW : Bytes W bo m ys := by
    have h1 := hy.grown hG
    refine ⟨h1.len, h1.nil, fun a ha j u hu => ?_⟩
    have h2 := h1.cells a ha j u hu
    have hj : j < m := by
      have := (List.getElem?_eq_some_iff.1 hu).1
      rw [bs_length, h1.len] at this; exact this
    have hbl : (a.add j).block = a.block := by unfold Addr.add; split <;> rfl
    have hab := hyb a ha (by omega)
    rw [World.cell?_of_block (w := w1) (hfr.block (a.add j).block (by rw [hbl]; omega) (by rw [hbl]; omega) (fun e => by
      rw [hbl] at e
      cases ao with
      | none => simp at e
      | some a' => simp at e; have := (hg.own.blk a' rfl).1; omega))]
    exact h2
  have hsW : base ≤ W.heap.size := by have := hfr.size; omega
  refine (apprec_any base ao1 n cap1 xs ks bo m c ys p s W.drew hrd.gen.own.drew hsW hn hk (hyW.grown (grownBy_drew _ _)) hyb hm h0 hp hz1 hp0).mono ?_
  rintro e w2 ⟨ao2, n2, cap2, rfl, ho2, hst2⟩
  have hB2 : w2.heap[gb]? = _ := blk_kept hst2.grown (show W.drew.heap[gb]? = _ from hrd.gen.blk) (fun e => by
    cases hao : ao1 with
    | none => rw [hao] at e; simp at e
    | some a => rw [hao] at e; simp at e; exact hrd.gen.ne a hao e.symm)
  exact ⟨ao2, n2, cap2, rfl, ⟨blk_cell hB2 0, blk_frozen hB2 0, blk_cell hB2 1, blk_frozen hB2 1⟩, ho2, (Step.of_grown (grownBy_drew W none) ao1 n cap1).trans hst2 (by have := ho2.len; have := hrd.gen.own.len; rw [List.length_append] at *; omega), hB2⟩

theorem added_mk {base : Nat} {w w1 W w2 : World} {gb n cap cnt R cap1 n2 cap2 m : Nat} {ao ao1 ao2 : Option Addr} {xs ks ys : List Int} {p : Int} {s : Bool} (hg : Gen base w gb ao n cap cnt xs) (hG : w.grownBy w1 none) (hrd : Ready base w1 W gb ao n cap cnt R xs ao1 cap1)
    (post : AppPost base W w2 gb ao1 cap1 (xs ++ rcd ks p s ys) (.slice ao1 n cap1) cnt ao2 n2 cap2) (hyl : ys.length = m) (hR : rlen m = R) (hk : ks.length = 16) :
    Added base w ((w2.setCell ⟨gb, 0, none⟩ (.slice ao2 n2 cap2)).setCell ⟨gb, 1, none⟩ (.int .i64 ((cnt : Int) + 1))) gb ao n cap cnt (xs ++ rcd ks p s ys) := by
  have hl := post.own.len
  have hl0 := hrd.gen.own.len
  rw [List.length_append, rcd_len ks p s ys hk, hyl, hR, hl0] at hl
  have hrm := hrd.room
  obtain ⟨e1, e2⟩ := post.step.fits (by omega)
  have hB1 := heap_setCell_same post.blk 0 (.slice ao2 n2 cap2)
  have hB2 := heap_setCell_same hB1 1 (.int .i64 ((cnt : Int) + 1))
  have hs1 := grownBy_setCell w2 gb 0 (.slice ao2 n2 cap2)
  have hs2 := grownBy_setCell (w2.setCell ⟨gb, 0, none⟩ (.slice ao2 n2 cap2)) gb 1 (.int .i64 ((cnt : Int) + 1))
  have hne : ∀ a, ao2 = some a → a.block ≠ gb := fun a ha => hrd.gen.ne a (e1 ▸ ha)
  have hgl := (Array.getElem?_eq_some_iff.1 hg.blk).1
  refine ⟨ao2, n2, cap2, ⟨?_, (post.own.kept hs1 (fun a ha => by simp; exact hne a ha)).kept hs2 (fun a ha => by simp; exact hne a ha), hne⟩, ⟨?_, ?_, ?_, ?_, ?_⟩, ?_, by rw [e2]; exact hrd.share, ?_⟩
  · simpa using hB2
  · exact hs2.os.trans (hs1.os.trans (post.step.grown.os.trans (hrd.fr.os.trans hG.os)))
  · exact hs2.tape.trans (hs1.tape.trans (post.step.grown.tape.trans (hrd.fr.tape.trans hG.tape)))
  · exact hs2.output.trans (hs1.output.trans (post.step.grown.output.trans (hrd.fr.output.trans hG.output)))
  · exact Nat.le_trans hG.size (Nat.le_trans hrd.fr.size (Nat.le_trans post.step.grown.size (Nat.le_trans hs1.size hs2.size)))
  · intro k hk1 hk2 hk3
    have a1 := hG.size
    have a2 := hrd.fr.size
    have a3 := post.step.grown.size
    have a4 := hs1.size
    rw [hs2.block k (by omega) (by simp; omega), hs1.block k (by omega) (by simp; omega), post.step.grown.block k (by omega) (fun e => by
      rcases hrd.lies with h | ⟨a, h, hlt⟩
      · rw [h] at e; exact hk3 e
      · rw [h] at e; simp at e; omega), hrd.fr.block k (by omega) hk2 hk3, hG.block k hk1 (by simp)]
  · rw [e1]
    rcases hrd.lies with h | ⟨a, h, hlt⟩
    · exact .inl h
    · exact .inr ⟨a, h, by have := hG.size; omega⟩
  · rw [e2]
    rcases hrd.bound with h | h
    · exact .inl h
    · exact .inr (by omega)

set_option maxRecDepth 100000 in
set_option maxHeartbeats 1000000 in
theorem add_yes (base gb : Nat) (ao : Option Addr) (n cap cnt : Nat) (xs : List Int) (k0 k1 k2 k3 k4 k5 k6 k7 k8 k9 k10 k11 k12 k13 k14 k15 : Int) (bo : Option Addr) (m c : Nat) (ys : List Int) (p : Int) (s : Bool) (w : World)
    (hg : Gen base w gb ao n cap cnt xs) (hb : base ≤ w.heap.size) (hn : n ≤ 10000000) (hc : cap ≤ 10000000) (hcnt : cnt ≤ 1000000) (hy : Bytes w bo m ys) (hyb : ∀ a, bo = some a → m ≠ 0 → a.block < base) (hm : m ≤ 1024) (h0 : 0 ≤ p) (hp : p < 65536) (hz0 : w.cell? ⟨0, 0, none⟩ = some (.pointer none)) (hp0 : 0 < base) (hgb : base ≤ gb)
    (hroom1 : (n : Int) + (rlen m : Nat) ≤ 2097152 - ((cnt : Int) + 1) * 48) (hroom2 : (cap : Int) ≤ 2097152 - ((cnt : Int) + 1) * 48) :
    Calls Ybad.prog 5 #[.pointer (some ⟨gb, 0, none⟩), .agg #[.int .u8 k0, .int .u8 k1, .int .u8 k2, .int .u8 k3, .int .u8 k4, .int .u8 k5, .int .u8 k6, .int .u8 k7, .int .u8 k8, .int .u8 k9, .int .u8 k10, .int .u8 k11, .int .u8 k12, .int .u8 k13, .int .u8 k14, .int .u8 k15], .agg #[.slice bo m c, .int .u64 0, .int .u64 0, .pointer none, .int .u16 p, .bool s]] w fun e w' => e = .returned (.tuple #[.int .i64 n, .bool true]) ∧ Added base w w' gb ao n cap cnt (xs ++ rcd [k0, k1, k2, k3, k4, k5, k6, k7, k8, k9, k10, k11, k12, k13, k14, k15] p s ys) := by
  have hr := rlen_le m
  generalize hR : rlen m = R at *
  have HR : Hid _ := hR
  clear hR
  have hne2 : 0 < w.heap.size := by omega
  go_enter Ybad.func5, Ybad.ntmps5
  have hB0 := blk_kept (alloc2 w (.cells #[.int .u8 k0, .int .u8 k1, .int .u8 k2, .int .u8 k3, .int .u8 k4, .int .u8 k5, .int .u8 k6, .int .u8 k7, .int .u8 k8, .int .u8 k9, .int .u8 k10, .int .u8 k11, .int .u8 k12, .int .u8 k13, .int .u8 k14, .int .u8 k15] 32) (.cells #[.slice bo m c, .int .u64 0, .int .u64 0, .pointer none, .int .u16 p, .bool s] 46)) hg.blk (by simp)
  have c0 := blk_cell hB0 0
  have c1 := blk_cell hB0 1
  simp only [List.getElem?_toArray, List.getElem?_cons_succ, List.getElem?_cons_zero] at c0 c1
  go_wp2_with fail
  refine (recsize_r bo m c p s _ hm h0 hp (z_kept (alloc2 w _ _) hz0 (by simp)) (by simp)).mono ?_
  rw [HR.out]
  rintro e w1 ⟨rfl, hg1⟩
  have hB1 := blk_kept hg1 hB0 (by simp)
  clear c0 c1
  have c0 := blk_cell hB1 0
  have c1 := blk_cell hB1 1
  have z0 := blk_frozen hB1 0
  simp only [List.getElem?_toArray, List.getElem?_cons_succ, List.getElem?_cons_zero] at c0 c1
  have HG : Hid _ := grownBy_trans (alloc2 w _ _) hg1
  have hKB := blk_kept hg1 (blk_new w _ (alloc1 _ _)) (by simp)
  have hSB := blk_kept hg1 (heap_alloc_new (w.alloc _) _) (by simp)
  rw [World.size_alloc] at hSB
  have hs1 : w.heap.size + 2 ≤ w1.heap.size := by have := hg1.size; simp at this; omega
  have HB1 : Hid _ := hB1
  have HKB : Hid _ := hKB
  have HSB : Hid _ := hSB
  clear hB0 hB1 hKB hSB hg1
  go_upto_region 4 with fail
  go_cut [38] from 14 (fun t wc => t = .bool false ∧ wc = w1)
  case first =>
    by_cases hle : (n : Int) + (R : Int) < cap
    · have ht : ¬ (2097152 - ((cnt : Int) + 1) * 48 < cap) := by omega
      go_wp2_with fail
      go_meet
      case rel => exact ⟨rfl, rfl⟩
    · have ht : ¬ (2097152 - ((cnt : Int) + 1) * 48 < (n : Int) + R) := by omega
      go_wp2_with fail
      go_meet
      case rel => exact ⟨rfl, rfl⟩
  case rest =>
    obtain ⟨rfl, hw⟩ := hcut
    obtain rfl : w1 = wc := hw.symm
    clear hw
    go_upto_if 45 with fail
    by_cases hgr : (cap : Int) < (n : Int) + (R : Int)
    · rw [decide_eq_true hgr]
      go_upto_region 8 with fail
      have hav := avg_le n R cnt
      generalize ((n : Int) + (R : Int)) / ((cnt : Int) + 1) = av at hav ⊢
      have hrm1 : (n : Int) + (R : Int) ≤ 2097152 - ((cnt : Int) + 1) * 48 := by omega
      have hrm2 : 2097152 - ((cnt : Int) + 1) * 48 ≤ 2097152 := by omega
      generalize hrm : 2097152 - ((cnt : Int) + 1) * 48 = rm at hrm1 hrm2 ⊢
      have HRM : Hid _ := hrm
      clear hrm
      have hml := fill_le (rm - ((n : Int) + (R : Int))) av (by omega) (by omega) hav.1 (by omega)
      obtain ⟨⟨m1, m2⟩, m3, m4⟩ := hml
      go_upto_region 9 with fail
      generalize (rm - ((n : Int) + (R : Int))) * av / (av + 48) = q at m3 m4 ⊢
      clear m1 m2 hav
      have hF1 : (n : Int) + (R : Int) ≤ n + R + q := by omega
      have hF2 : (n : Int) + (R : Int) + q ≤ rm := by omega
      generalize (n : Int) + (R : Int) + q = F at hF1 hF2 ⊢
      clear m3 m4
      go_upto_region 10 with (at_make; refine wpList_mk (by rfl) (.tmp 63) (.tmp 73) (by rfl) base .i64 .i64 (n : Int) (pickC (2 * (cap : Int)) ((n : Int) + (R : Int)) F) (by rfl) (by rfl) (by omega) (pickC_le (by omega) (by omega)) (pickC_max (by omega)) (by omega) ?_; intro g2 n2 cap2 w2 HE ho2 hgr2 hgl)
      obtain rfl : n = n2 := by have := HE.out.1; omega
      have hcap2 := HE.out.2
      have hp1 : (n : Int) + R ≤ pickC (2 * (cap : Int)) ((n : Int) + (R : Int)) F := pickC_le (by omega) hF1
      have hp2 : pickC (2 * (cap : Int)) ((n : Int) + (R : Int)) F ≤ rm := pickC_max hF2
      have hp3 : pickC (2 * (cap : Int)) ((n : Int) + (R : Int)) F ≤ 2 * (n + R) + 4096 := pickC_two (by omega)
      have HC2 : Hid ((n + R ≤ cap2 ∧ (cap2 : Int) ≤ rm) ∧ cap2 ≤ 2 * (n + R) + 4096) := ⟨⟨by omega, by omega⟩, by omega⟩
      clear hcap2 hp1 hp2 hp3 HE hF1 hF2 c0 c1 z0
      have hB2 := blk_kept hgr2 HB1.out (by simp)
      have hO1 := hg.own.grown HG.out
      have hO2 := hO1.grown hgr2
      have hgne : gb ≠ g2 := fun e => by
        have := (Array.getElem?_eq_some_iff.1 HB1.out).1
        omega
      have c0 := blk_cell hB2 0
      simp only [List.getElem?_toArray, List.getElem?_cons_zero] at c0
      obtain ⟨v3, w3, hcp, ho3, hgr3⟩ := run_cp base ho2 cap hO2.bytes
      have hB3 := blk_kept hgr3 hB2 (fun e => hgne (Option.some.inj e))
      have c3 := blk_cell hB3 0
      have z3 := blk_frozen hB3 0
      simp only [List.getElem?_toArray, List.getElem?_cons_zero] at c3
      have HO3 : Hid _ := ho3
      have HG3 : Hid _ := hgr3
      have HB3 : Hid _ := hB3
      clear ho3 hgr3 hB3 ho2 hO1 hO2
      have HB2 : Hid _ := hB2
      have HG2 : Hid _ := hgr2
      clear hB2 hgr2
      generalize (if (if 2 * (cap : Int) < (n : Int) + (R : Int) then (n : Int) + (R : Int) else 2 * (cap : Int)) < 4096 then (4096 : Int) else if 2 * (cap : Int) < (n : Int) + (R : Int) then (n : Int) + (R : Int) else 2 * (cap : Int)) = M1
      generalize (if F < M1 then F else M1) = M2
      go_upto_region 12 with fail
      have hRd : Ready base w1 (w3.setCell ⟨gb, 0, none⟩ (.slice (some ⟨g2, 0, none⟩) n cap2)) gb ao n cap cnt R xs (some ⟨g2, 0, none⟩) cap2 :=
        ready_grown HB3.out HO3.out HG2.out HG3.out hgl hgne hgb HC2.out.1.1 (by have := HC2.out.1.2; rw [HRM.out]; exact this) HC2.out.2
      generalize w3.setCell ⟨gb, 0, none⟩ (.slice (some ⟨g2, 0, none⟩) n cap2) = W at hRd ⊢
      generalize some (⟨g2, 0, none⟩ : Addr) = ao1 at hRd ⊢
      generalize cap2 = cap1 at hRd ⊢
      have HRd : Hid _ := hRd
      clear hRd HC2 c0 hcp z3 c3 HO3 HG3 HB3 HB2 HG2 hrm1 hrm2 HRM hgr hgl hgne
      have hfr := HRd.out.fr
      obtain ⟨d0, d1, d2, d3, d4, d5, d6, d7, d8, d9, d10, d11, d12, d13, d14, d15⟩ := blk16 (ready_blk hfr HKB.out (by omega) hg hs1)
      obtain ⟨f0, f1, f2, f3, f4, f5⟩ := blk6 (ready_blk hfr HSB.out (by omega) hg hs1)
      have e0 := blk_cell HRd.out.gen.blk 0
      simp only [List.getElem?_toArray, List.getElem?_cons_zero] at e0
      have HC := app_call base w w1 W gb ao n cap cnt R xs ao1 cap1 [k0, k1, k2, k3, k4, k5, k6, k7, k8, k9, k10, k11, k12, k13, k14, k15] bo m c ys p s hg hb hn hy hyb hm h0 hp hz0 hp0 hgb HG.out hs1 rfl HRd.out HR.out
      have HC2 : Hid _ := HC
      clear HC hfr
      go_region_with (go_at_call 10; refine Calls.mono HC2.out ?_; rintro e w2 ⟨ao2, n2, cap2, rfl, ⟨g0, z0, g1, z1⟩, post⟩)
      all_goals (clear d0 d1 d2 d3 d4 d5 d6 d7 d8 d9 d10 d11 d12 d13 d14 d15 f0 f1 f2 f3 f4 f5 e0)
      all_goals go_wp2_with fail
      all_goals go_ret2
      all_goals exact ⟨rfl, added_mk hg HG.out HRd.out post hy.len HR.out rfl⟩
    · rw [decide_eq_false hgr]
      have HRd : Hid (Ready base w1 w1 gb ao n cap cnt R xs ao cap) := ⟨⟨HB1.out, hg.own.grown HG.out, hg.ne⟩, by omega, hroom2, .inl (Nat.le_refl _), ⟨rfl, rfl, rfl, Nat.le_refl _, fun _ _ _ _ => rfl⟩, .inl rfl⟩
      go_upto_region 12 with fail
      have hfr := HRd.out.fr
      obtain ⟨d0, d1, d2, d3, d4, d5, d6, d7, d8, d9, d10, d11, d12, d13, d14, d15⟩ := blk16 (ready_blk hfr HKB.out (by omega) hg hs1)
      obtain ⟨f0, f1, f2, f3, f4, f5⟩ := blk6 (ready_blk hfr HSB.out (by omega) hg hs1)
      have e0 := blk_cell HRd.out.gen.blk 0
      simp only [List.getElem?_toArray, List.getElem?_cons_zero] at e0
      have HC := app_call base w w1 w1 gb ao n cap cnt R xs ao cap [k0, k1, k2, k3, k4, k5, k6, k7, k8, k9, k10, k11, k12, k13, k14, k15] bo m c ys p s hg hb hn hy hyb hm h0 hp hz0 hp0 hgb HG.out hs1 rfl HRd.out HR.out
      have HC2 : Hid _ := HC
      clear HC hfr
      go_region_with (go_at_call 10; refine Calls.mono HC2.out ?_; rintro e w2 ⟨ao2, n2, cap2, rfl, ⟨g0, z0, g1, z1⟩, post⟩)
      all_goals (clear d0 d1 d2 d3 d4 d5 d6 d7 d8 d9 d10 d11 d12 d13 d14 d15 f0 f1 f2 f3 f4 f5 e0)
      all_goals go_wp2_with fail
      all_goals go_ret2
      all_goals exact ⟨rfl, added_mk hg HG.out HRd.out post hy.len HR.out rfl⟩
end Go.Proofs.YbulkgkwDoor
