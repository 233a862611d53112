import Derived.Test.YbulkgkwDoorOne
namespace Go.Proofs.YbulkgkwDoor
open Go.RowKit
set_option linter.unusedVariables false
attribute [local go_sem ↓] Go.wp_at_zero Go.wp_at_succ

/-- One item of the script, in memory. -/
def ItemAt (w : World) (b o : Nat) : Prop := ∃ (k0 k1 k2 k3 k4 k5 k6 k7 k8 k9 k10 k11 k12 k13 k14 k15 p : Int) (s : Bool) (bo : Option Addr) (m c : Nat) (ys : List Int),
  w.rangeAt b o [.int .u8 k0, .int .u8 k1, .int .u8 k2, .int .u8 k3, .int .u8 k4, .int .u8 k5, .int .u8 k6, .int .u8 k7, .int .u8 k8, .int .u8 k9, .int .u8 k10, .int .u8 k11, .int .u8 k12, .int .u8 k13, .int .u8 k14, .int .u8 k15, .int .u16 p, .bool s, .slice bo m c] ∧
  Bytes w bo m ys ∧ (∀ a, bo = some a → m ≠ 0 → a.block < w.heap.size) ∧ 0 ≤ p ∧ p < 65536

theorem setCells_alloc (w : World) (t : TypeId) : ∀ (vs : List Value) (zs : List Value) (pre : List Value), zs.length = vs.length →
    (w.alloc (.cells (pre ++ zs).toArray t)).setCells w.heap.size pre.length vs = w.alloc (.cells (pre ++ vs).toArray t)
  | [], [], pre, _ => rfl
  | v :: vs, z :: zs, pre, h => by
    rw [World.setCells, World.setCell_alloc_at _ _ _ _ _ rfl]
    have e : ((pre ++ z :: zs).toArray.setIfInBounds pre.length v) = ((pre ++ [v]) ++ zs).toArray := by
      rw [List.setIfInBounds_toArray, List.set_append_right _ _ (Nat.le_refl _)]
      simp
    rw [e]
    have := setCells_alloc w t vs zs (pre ++ [v]) (by simpa using h)
    rw [List.length_append, List.length_singleton] at this
    rw [this]
    simp
theorem there_new (w : World) (cs : Array Value) (t : TypeId) (n : Nat) (h : n ≤ cs.size) : (w.alloc (.cells cs t)).there w.heap.size 0 n := fun j hj => by
  have e1 := World.cell?_alloc_new w cs t j
  rw [Nat.zero_add]
  exact ⟨by rw [show (w.alloc _).cell? ⟨w.heap.size, j, none⟩ = _ from e1, Array.getElem?_eq_getElem (by omega)]; rfl, World.frozen?_alloc_new w cs t j⟩

/-- 'it := items[i]': the load of a struct, its new variable and the store into it, as one step. -/
theorem wpList_var {P : Program} {w : World} {ops : Array Oper} {rest : List Oper} {o1 o2 o3 : Oper} {a : Act} {Q : Exit → Act → World → Prop} (g1 : o1.guard = none) (g2 : o2.guard = none) (g3 : o3.guard = none) (T : TypeId) (x1 x3 y3 : Operand)
    (h1 : o1.op = .load T x1) (h2 : o2.op = .alloc T) (h3 : o3.op = .store T x3 y3) (b o : Nat) (cs : List Value) (hx : a.eval x1 = .pointer (some ⟨b, o, none⟩)) (d : TypeDesc) (hr : w.rangeAt b o cs) (hu : P.underlying T = some d) (hd : d.isRow = true)
    (hi : (P.info? T).map (fun i => (i.zero.map (·.cells.size), i.size)) = some (some cs.length, cs.length)) (one : ∀ v ∈ cs, v.oneCell' = true)
    (e3 : ((a.put o1.dst (.agg cs.toArray)).put o2.dst (.pointer (some ⟨w.heap.size, 0, none⟩))).eval x3 = .pointer (some ⟨w.heap.size, 0, none⟩))
    (f3 : ((a.put o1.dst (.agg cs.toArray)).put o2.dst (.pointer (some ⟨w.heap.size, 0, none⟩))).eval y3 = .agg cs.toArray)
    (hK : wpList P ops Q rest (((a.put o1.dst (.agg cs.toArray)).put o2.dst (.pointer (some ⟨w.heap.size, 0, none⟩))).put o3.dst undef) (w.alloc (.cells cs.toArray T))) : wpList P ops Q (o1 :: o2 :: o3 :: rest) a w := by
  obtain ⟨i, hi1, hi2⟩ := Option.map_eq_some_iff.1 hi
  simp only [Prod.mk.injEq] at hi2
  obtain ⟨z, hz, hzs⟩ := Option.map_eq_some_iff.1 hi2.1
  have hsz : (P.info? T).map (·.size) = some cs.length := by rw [hi1]; simp [hi2.2]
  refine wpList_load_mid g1 T x1 h1 b o hx cs d hr hu hd hsz ?_
  refine wpList_plain g2 fun K hK' => ?_
  unfold Oper.wp
  simp [execOp, h2, Instr.alloc, zeroValue, typeInfo, hi1, hz, newVar, newRow]
  refine hK' _ _ ?_
  refine wpList_store_mid g3 T x3 y3 h3 w.heap.size 0 cs.toArray e3 f3 (there_new w _ _ _ (by simp [hzs])) (by simpa using hsz) (all_oneCell_toArray one) ?_
  have e := setCells_alloc w T cs z.cells.toList [] (by simpa using hzs)
  simp only [List.nil_append, List.length_nil] at e
  have e' : (w.alloc (.cells z.cells T)).setCells w.heap.size 0 cs = w.alloc (.cells cs.toArray T) := by simpa using e
  rw [e']
  exact hK

theorem Ybad.var27 : (Ybad.prog.info? 27).map (fun i => (i.zero.map (·.cells.size), i.size)) = some (some 19, 19) := by kernel_rfl
theorem range_below {B : Nat} {w w' : World} (h : Below B w w') {b o : Nat} {cs : List Value} (hr : w.rangeAt b o cs) (hb : b < B) : w'.rangeAt b o cs := fun j v hv => by
  rw [h.cell (p := ⟨b, o + j, none⟩) hb]; exact hr j v hv
/-- Behind j items: the generation and the slice 'want' hold the same records. -/
structure ScrInv (w wr : World) (gb j : Nat) (aoW : Option Addr) (nW capW : Nat) (aoG : Option Addr) (nG capG : Nat) (zs : List Int) : Prop where
  gen : Gen w.heap.size wr gb aoG nG capG j zs
  own : Own w.heap.size wr aoW nW capW zs
  ne : ∀ a, aoW = some a → a.block ≠ gb
  apart : ∀ a b, aoW = some a → aoG = some b → a.block ≠ b.block
  len : zs.length ≤ j * 1046
  cap : capG ≤ 2 * (j * 1046) + 4096
  below : Below w.heap.size w wr

theorem scr_own {w wr w5 w6 : World} {gb j nW capW nG capG : Nat} {aoW aoG : Option Addr} {zs : List Int} (inv : ScrInv w wr gb j aoW nW capW aoG nG capG zs) (hg : wr.grownBy w5 none) (hfr : Fr w5 w6 gb aoG) : Own w.heap.size w6 aoW nW capW zs :=
  fr_own hfr (inv.own.grown hg) inv.ne (fun a b ha hb e => inv.apart a b ha hb e.symm)
theorem scr_below {w wr w5 w6 : World} {gb j nW capW nG capG : Nat} {aoW aoG : Option Addr} {zs : List Int} (inv : ScrInv w wr gb j aoW nW capW aoG nG capG zs) (hg : wr.grownBy w5 none) (hfr : Fr w5 w6 gb aoG) (hgb : w.heap.size ≤ gb) : Below w.heap.size w w6 :=
  below_fr (below_grown inv.below hg inv.below.size (by simp)) hfr (Nat.le_trans inv.below.size hg.size) hgb (fun a ha => (inv.gen.own.blk a ha).1)
theorem scr_next {w wr w5 w6 w7 : World} {gb j nW capW nG capG n6 cap6 n7 cap7 : Nat} {aoW aoG ao6 ao7 : Option Addr} {zs rc : List Int} (inv : ScrInv w wr gb j aoW nW capW aoG nG capG zs) (hg : wr.grownBy w5 none) (hfr : Fr w5 w6 gb aoG)
    (hgen : Gen w.heap.size w6 gb ao6 n6 cap6 (j + 1) (zs ++ rc)) (hl : ao6 = aoG ∨ ∃ a, ao6 = some a ∧ w5.heap.size ≤ a.block) (hb : cap6 ≤ capG ∨ cap6 ≤ 2 * n6 + 4096) (ho : Own w.heap.size w7 ao7 n7 cap7 (zs ++ rc)) (hst : Step w6 w7 aoW capW ao7 n7 cap7) (hrc : rc.length ≤ 1046)
    (hgb : w.heap.size ≤ gb := by exact Nat.le_refl _) : ScrInv w w7 gb (j + 1) ao7 n7 cap7 ao6 n6 cap6 (zs ++ rc) := by
  have how := scr_own inv hg hfr
  have hbl := scr_below inv hg hfr hgb
  have hgl := (Array.getElem?_eq_some_iff.1 hgen.blk).1
  have hn6 := hgen.own.len
  have hlen := inv.len
  have hcap := inv.cap
  rw [List.length_append] at hn6
  have hap : ∀ a b, aoW = some a → ao6 = some b → a.block ≠ b.block := fun a b ha h6 => by
    rcases hl with h | ⟨c, h, hlt⟩
    · exact inv.apart a b ha (h ▸ h6)
    · rw [h6] at h
      obtain rfl := Option.some.inj h
      have := (inv.own.blk a ha).2
      have := hg.size
      omega
  have hkept : ∀ b, ao6 = some b → some b.block ≠ aoW.map (·.block) := fun b h6 e => by
    cases haw : aoW with
    | none => rw [haw] at e; simp at e
    | some a => rw [haw] at e; simp at e; exact hap a b haw h6 e.symm
  refine ⟨⟨blk_kept hst.grown hgen.blk (fun e => ?_), hgen.own.kept hst.grown hkept, hgen.ne⟩, ho, fun a ha => ?_, fun a b ha h6 => ?_, ?_, ?_, below_step hbl how hst hbl.size⟩
  · cases haw : aoW with
    | none => rw [haw] at e; simp at e
    | some a => rw [haw] at e; simp at e; exact inv.ne a haw e.symm
  · rcases hst.lies with h | ⟨c, h, hlt⟩
    · exact inv.ne a (h ▸ ha)
    · rw [ha] at h; obtain rfl := Option.some.inj h; omega
  · rcases hst.lies with h | ⟨c, h, hlt⟩
    · exact hap a b (h ▸ ha) h6
    · rw [ha] at h; obtain rfl := Option.some.inj h
      have := (hgen.own.blk b h6).2
      omega
  · rw [List.length_append]; omega
  · rcases hb with h | h <;> omega

theorem own_none (B : Nat) (w : World) : Own B w none 0 0 [] := ⟨rfl, Nat.le_refl _, by unfold maxLen; omega, fun _ => rfl, (fun a ha => by cases ha), (fun a ha => by cases ha), (fun a ha => by cases ha), (fun a ha => by cases ha)⟩

theorem item_range {w : World} {ib : Nat} {k0 k1 k2 k3 k4 k5 k6 k7 k8 k9 k10 k11 k12 k13 k14 k15 p : Int} {s : Bool} {bo : Option Addr} {m c : Nat} (h : w.heap[ib]? = some (.cells (List.toArray [.int .u8 k0, .int .u8 k1, .int .u8 k2, .int .u8 k3, .int .u8 k4, .int .u8 k5, .int .u8 k6, .int .u8 k7, .int .u8 k8, .int .u8 k9, .int .u8 k10, .int .u8 k11, .int .u8 k12, .int .u8 k13, .int .u8 k14, .int .u8 k15, .int .u16 p, .bool s, .slice bo m c]) 27)) :
    w.rangeAt ib 0 [.int .u8 k0, .int .u8 k1, .int .u8 k2, .int .u8 k3, .int .u8 k4, .int .u8 k5, .int .u8 k6, .int .u8 k7, .int .u8 k8, .int .u8 k9, .int .u8 k10, .int .u8 k11, .int .u8 k12, .int .u8 k13, .int .u8 k14, .int .u8 k15] ∧ w.cell? ⟨ib, 16, none⟩ = some (.int .u16 p) ∧ w.cell? ⟨ib, 17, none⟩ = some (.bool s) ∧ w.cell? ⟨ib, 18, none⟩ = some (.slice bo m c) :=
  ⟨fun j v hv => by
    rw [Nat.zero_add, blk_cell h j, List.getElem?_toArray]
    have : j < 16 := (List.getElem?_eq_some_iff.1 hv).1
    exact (List.getElem?_append_left (l₁ := ([.int .u8 k0, .int .u8 k1, .int .u8 k2, .int .u8 k3, .int .u8 k4, .int .u8 k5, .int .u8 k6, .int .u8 k7, .int .u8 k8, .int .u8 k9, .int .u8 k10, .int .u8 k11, .int .u8 k12, .int .u8 k13, .int .u8 k14, .int .u8 k15] : List Value)) (l₂ := [.int .u16 p, .bool s, .slice bo m c]) (show j < 16 from this)).trans hv, blk_cell h 16, blk_cell h 17, blk_cell h 18⟩

set_option maxRecDepth 100000 in
set_option maxHeartbeats 1000000 in
theorem script_walk (ao : Option Addr) (N q : Nat) (w : World) (b off : Nat) (hao : 0 < N → ao = some ⟨b, off, none⟩) (hN : N ≤ 256) (hq : N ≤ q) (hq2 : q ≤ 9223372036854775807) (hI : ∀ i, i < N → ItemAt w b (off + i * 19)) (hbb : 0 < N → b < w.heap.size) (hz0 : w.cell? ⟨0, 0, none⟩ = some (.pointer none)) (hp0 : 0 < w.heap.size) :
    Calls Ybad.prog 3 #[.slice ao N q] w fun e w' => e = .returned (.bool true) ∧ Below w.heap.size w w' := by
  have h1 : ¬ (256 : Int) < N := by omega
  go_enter Ybad.func3, Ybad.ntmps3
  go_wp2_with fail
  go_loop [15] (fun i => ∃ k : Nat, k ≤ N ∧ i = .int .i64 k ∧ ∀ j, j < k → ∀ bo m c, w.cell? ⟨b, off + j * 19 + 18, none⟩ = some (.slice bo m c) → m ≤ 1024) (fun i => N - (intOf i).toNat)
  case atStart => exact ⟨0, Nat.zero_le _, rfl, fun j hj => absurd hj (Nat.not_lt_zero _)⟩
  case round =>
    obtain ⟨k, hk, rfl, hall⟩ := hrel
    have HAll : Hid _ := hall
    clear hall
    by_cases hlt : (k : Int) < N
    · obtain ⟨k0, k1, k2, k3, k4, k5, k6, k7, k8, k9, k10, k11, k12, k13, k14, k15, p, s, bo, m, c, ys, hr, hy, hyb, hpp⟩ := hI k (by omega)
      have hc := hr 18 _ rfl
      obtain rfl := hao (by omega)
      by_cases hm : (1024 : Int) < m
      · go_wp2_with fail
        go_ret
        exact ⟨rfl, Below.refl _ _⟩
      · go_wp2_with fail
        go_round
        case rel => exact ⟨k + 1, by omega, by go_num, fun j hj bo' m' c' hc' => by
          by_cases hjk : j = k
          · subst hjk
            rw [hc] at hc'
            simp at hc'
            omega
          · exact HAll.out j (by omega) bo' m' c' hc'⟩
        case measure => simp [intOf]; omega
    · obtain rfl : k = N := by omega
      go_wp2_with fail
      go_loopw [5, 28] (fun v i wr => ∃ (j : Nat) (aoW : Option Addr) (nW capW : Nat) (aoG : Option Addr) (nG capG : Nat) (zs : List Int), v = .slice aoW nW capW ∧ i = .int .i64 j ∧ j ≤ k ∧ ScrInv w wr w.heap.size j aoW nW capW aoG nG capG zs)
        (fun _ i _ => k - (intOf i).toNat)
      case atStart =>
        refine ⟨0, none, 0, 0, none, 0, 0, [], rfl, rfl, Nat.zero_le _, ⟨heap_alloc_new w _, own_none _ _, fun a ha => by cases ha⟩, own_none _ _, (fun a ha => by cases ha), (fun a b ha => by cases ha), by simp, by omega, (Below.refl _ _).alloc (Nat.le_refl _) _⟩
      case round =>
        obtain ⟨j, aoW, nW, capW, aoG, nG, capG, zs, rfl, rfl, hj, inv⟩ := hrel
        obtain rfl : nG = nW := by rw [← inv.gen.own.len, inv.own.len]
        have INV : Hid _ := inv
        clear inv
        by_cases hlt2 : (j : Int) < k
        · obtain ⟨k0, k1, k2, k3, k4, k5, k6, k7, k8, k9, k10, k11, k12, k13, k14, k15, p, s, bo, m, c, ys, hr, hy, hyb, hpp⟩ := hI j (by omega)
          have hm : m ≤ 1024 := HAll.out j (by omega) bo m c (hr 18 _ rfl)
          obtain rfl := hao (by omega)
          have hrr := range_below INV.out.below hr (hbb (by omega))
          go_upto_region 15 with (refine wpList_var (by rfl) (by rfl) (by rfl) 27 (.tmp 33) (.tmp 7) (.tmp 34) (by rfl) (by rfl) (by rfl) b (off + j * 19) [.int .u8 k0, .int .u8 k1, .int .u8 k2, .int .u8 k3, .int .u8 k4, .int .u8 k5, .int .u8 k6, .int .u8 k7, .int .u8 k8, .int .u8 k9, .int .u8 k10, .int .u8 k11, .int .u8 k12, .int .u8 k13, .int .u8 k14, .int .u8 k15, .int .u16 p, .bool s, .slice bo m c] (by rfl) _ hrr Ybad.underlying27 (by rfl) Ybad.var27 (by simp [Value.oneCell']) (by rfl) (by rfl) ?_)
          have hk4 := heap_alloc_new wr (.cells (List.toArray [.int .u8 k0, .int .u8 k1, .int .u8 k2, .int .u8 k3, .int .u8 k4, .int .u8 k5, .int .u8 k6, .int .u8 k7, .int .u8 k8, .int .u8 k9, .int .u8 k10, .int .u8 k11, .int .u8 k12, .int .u8 k13, .int .u8 k14, .int .u8 k15, .int .u16 p, .bool s, .slice bo m c]) 27)
          have hg4 := alloc1 wr (.cells (List.toArray [.int .u8 k0, .int .u8 k1, .int .u8 k2, .int .u8 k3, .int .u8 k4, .int .u8 k5, .int .u8 k6, .int .u8 k7, .int .u8 k8, .int .u8 k9, .int .u8 k10, .int .u8 k11, .int .u8 k12, .int .u8 k13, .int .u8 k14, .int .u8 k15, .int .u16 p, .bool s, .slice bo m c]) 27)
          have hs4 : wr.heap.size < (wr.alloc (.cells (List.toArray [.int .u8 k0, .int .u8 k1, .int .u8 k2, .int .u8 k3, .int .u8 k4, .int .u8 k5, .int .u8 k6, .int .u8 k7, .int .u8 k8, .int .u8 k9, .int .u8 k10, .int .u8 k11, .int .u8 k12, .int .u8 k13, .int .u8 k14, .int .u8 k15, .int .u16 p, .bool s, .slice bo m c]) 27)).heap.size := by simp
          generalize wr.alloc (.cells (List.toArray [.int .u8 k0, .int .u8 k1, .int .u8 k2, .int .u8 k3, .int .u8 k4, .int .u8 k5, .int .u8 k6, .int .u8 k7, .int .u8 k8, .int .u8 k9, .int .u8 k10, .int .u8 k11, .int .u8 k12, .int .u8 k13, .int .u8 k14, .int .u8 k15, .int .u16 p, .bool s, .slice bo m c]) 27) = w4 at hk4 hg4 hs4 ⊢
          have HK4 : Hid _ := hk4
          have HG4 : Hid _ := hg4
          clear hk4 hg4 hrr hI
          have hib : w.heap.size < wr.heap.size := (Array.getElem?_eq_some_iff.1 INV.out.gen.blk).1
          generalize hIB : wr.heap.size = ib at *
          have HIB : Hid _ := hIB
          clear hIB
          have hnG := INV.out.gen.own.len
          have hnl := INV.out.len
          have hcG := INV.out.cap
          have hb4 := below_grown INV.out.below HG4.out (by rw [HIB.out]; omega) (by simp)
          have HB4 : Hid _ := hb4
          clear hb4
          have hnGb : nG ≤ 270000 := by omega
          have HNG : Hid _ := hnG
          clear hnG hnl
          have hu23 := Ybad.underlying23
          have hi23 : (Ybad.prog.info? 23).map (·.size) = some ([.int .u8 k0, .int .u8 k1, .int .u8 k2, .int .u8 k3, .int .u8 k4, .int .u8 k5, .int .u8 k6, .int .u8 k7, .int .u8 k8, .int .u8 k9, .int .u8 k10, .int .u8 k11, .int .u8 k12, .int .u8 k13, .int .u8 k14, .int .u8 k15] : List Value).length := Ybad.size23
          have hrl := rlen_le m
          go_region_held3 (fun w' => w'.rangeAt ib 0 [.int .u8 k0, .int .u8 k1, .int .u8 k2, .int .u8 k3, .int .u8 k4, .int .u8 k5, .int .u8 k6, .int .u8 k7, .int .u8 k8, .int .u8 k9, .int .u8 k10, .int .u8 k11, .int .u8 k12, .int .u8 k13, .int .u8 k14, .int .u8 k15] ∧ w'.cell? ⟨ib, 16, none⟩ = some (.int .u16 p) ∧ w'.cell? ⟨ib, 17, none⟩ = some (.bool s) ∧ w'.cell? ⟨ib, 18, none⟩ = some (.slice bo m c))
            (first | exact item_range HK6.out | exact item_range HK5.out | exact item_range (show w4.drew.heap[ib]? = _ from HK4.out))
            (first
              | (go_at_call 6; refine (csent_x _ _ _ _ _ _).mono ?_; rintro e w5 ⟨rfl, hg5⟩; have HK5 : Hid _ := blk_kept hg5 (show w4.drew.heap[ib]? = _ from HK4.out) (by simp); have HG5 : Hid _ := grownBy_trans HG4.out (grownBy_trans (grownBy_drew w4 none) hg5); clear hg5)
              | (go_at_call 5; refine (add_yes w.heap.size w.heap.size aoG nG capG j zs k0 k1 k2 k3 k4 k5 k6 k7 k8 k9 k10 k11 k12 k13 k14 k15 bo m c ys p s _ (INV.out.gen.grown HG5.out) (by have := HG5.out.size; rw [HIB.out] at this; omega) (by omega) (by omega) (by omega) (below_bytes (below_grown INV.out.below HG5.out (by rw [HIB.out]; omega) (by simp)) hy hyb) hyb hm hpp.1 hpp.2 (hz_of HG5.out INV.out.below hz0 hp0) hp0 (Nat.le_refl _) (by omega) (by omega)).mono ?_; rintro e w6 ⟨rfl, hadd⟩; obtain ⟨ao6, n6, cap6, hgen6, hfr6, hlies6, hcap6, hbd6⟩ := hadd.gen; have HK6 : Hid _ := fr_blk hfr6 HK5.out (by omega) (fun a ha => by have := (INV.out.gen.own.blk a ha).2; rw [HIB.out] at this; omega)))
          have hs5 : ib ≤ w5.heap.size := by have := HG5.out.size; rw [HIB.out] at this; exact this
          have hln6 := hgen6.own.len
          have how6 := scr_own INV.out HG5.out hfr6
          have hb6 := scr_below INV.out HG5.out hfr6 (Nat.le_refl _)
          have hy6 := below_bytes hb6 hy hyb
          obtain ⟨hr6, c16, c17, c18⟩ := item_range HK6.out
          have hs6 : w.heap.size ≤ w6.heap.size := hb6.size
          have HGen6 : Hid _ := hgen6
          have HFr6 : Hid _ := hfr6
          have HL6 : Hid _ := hlies6
          have HBd6 : Hid _ := hbd6
          have HB6 : Hid _ := hb6
          clear hgen6 hfr6 hlies6 hbd6 hb6 hadd hln6 HK5 HK6 HK4 HB4
          go_wp2_with (refine wpList_load_mid (by rfl) 23 (.tmp 57) (by rfl) ib 0 (by rfl) [.int .u8 k0, .int .u8 k1, .int .u8 k2, .int .u8 k3, .int .u8 k4, .int .u8 k5, .int .u8 k6, .int .u8 k7, .int .u8 k8, .int .u8 k9, .int .u8 k10, .int .u8 k11, .int .u8 k12, .int .u8 k13, .int .u8 k14, .int .u8 k15] _ hr6 Ybad.underlying23 (by rfl) Ybad.size23 ?_)
          refine (crec_any w.heap.size aoW nG capW zs [k0, k1, k2, k3, k4, k5, k6, k7, k8, k9, k10, k11, k12, k13, k14, k15] bo m c ys p s w6 how6 hs6 (by omega) rfl hy6 hyb hm hpp.1 hpp.2).mono ?_
          rintro e w7 ⟨ao7, n7, cap7, rfl, ho7, hst7⟩
          have inv7 := scr_next INV.out HG5.out HFr6.out HGen6.out HL6.out HBd6.out ho7 hst7 (by rw [rcd_len _ _ _ _ rfl, hy.len]; omega)
          have hB7 := inv7.gen.blk
          have d0 := blk_cell hB7 0
          have d1 := blk_cell hB7 1
          simp only [List.getElem?_toArray, List.getElem?_cons_zero, List.getElem?_cons_succ] at d0 d1
          have e1 : ((j + 1 : Nat) : Int) = (j : Int) + 1 := by omega
          rw [e1] at d1
          clear e1 hB7 hr6 c16 c17 c18 how6 hst7 ho7
          have INV7 : Hid _ := inv7
          clear inv7
          go_wp2_with fail
          refine (equal_same _ _ _ _ _ _ _ _ _ INV7.out.gen.own.bytes INV7.out.own.bytes rfl).mono ?_
          rintro e w8 ⟨rfl, hw8⟩
          obtain rfl : w7 = w8 := hw8.symm
          clear hw8
          have HT : Hid (decide (2097152 - ((j : Int) + 1) * 48 < (cap6 : Int)) = false) := decide_eq_false (by omega)
          clear hu23 hi23 hr hy6 hy hyb hao hbb hz0 hcG hnGb hrl hs5 hs4 hib hk hlt hs6
          go_upto_if 85 with fail
          rw [HT.out]
          go_wp2_with fail
          go_roundw
          case rel => exact ⟨j + 1, ao7, n7, cap7, ao6, n6, cap6, _, rfl, by go_num, by omega, INV7.out⟩
          case measure => simp [intOf]; omega
        · go_wp2_with fail
          go_ret
          exact ⟨rfl, INV.out.below⟩
end Go.Proofs.YbulkgkwDoor
