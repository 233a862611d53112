/-
  LawS0379AUnlinkScript, walked.
-/
import Derived.Test.YbulkgvcSt
import Derived.Deep.OwnRows
namespace Go.Proofs.Ybulkgvc
open Go.RowKit
set_option linter.unusedVariables false
set_option linter.unusedSimpArgs false

theorem Yba.info28 : (Yba.prog.info? 28).map (fun i => (i.zero, i.size, i.bytes)) = some (some (.pointer none), 1, 8) := by kernel_rfl
theorem Yba.info4 : (Yba.prog.info? 4).map (fun i => (i.zero, i.size, i.bytes)) = some (some (.bool false), 1, 1) := by kernel_rfl
theorem Yba.info3 : (Yba.prog.info? 3).map (fun i => (i.zero, i.size, i.bytes)) = some (some (.int .i64 0), 1, 8) := by kernel_rfl
theorem mk25 (m : Nat) (hm : m ≤ 8) (w : World) : (Instr.makeSlice 25 (.int .i64 (m : Int)) (.int .i64 (m : Int))).run Yba.prog w = .ok (.slice (some ⟨w.heap.size, 0, none⟩) m m) (w.alloc (.cells (madeCells #[.pointer none] m) 28)) := by
  obtain ⟨i, hi, h0, h1, h2⟩ := info_parts Yba.info28
  exact run_make_row 25 28 i _ Yba.underlying25 hi h0 h1 rfl .i64 .i64 m (by rw [h2]; omega) (by omega) w
theorem mk26 (m : Nat) (hm : m ≤ 8) (w : World) : (Instr.makeSlice 26 (.int .i64 (m : Int)) (.int .i64 (m : Int))).run Yba.prog w = .ok (.slice (some ⟨w.heap.size, 0, none⟩) m m) (w.alloc (.cells (madeCells #[.bool false] m) 4)) := by
  obtain ⟨i, hi, h0, h1, h2⟩ := info_parts Yba.info4
  exact run_make_row 26 4 i _ Yba.underlying26 hi h0 h1 rfl .i64 .i64 m (by rw [h2]; omega) (by omega) w

def pool (b : Nat) : Array Value := #[.int .i64 0, .int .i32 0, .int .u32 0, .int .i64 0, .map (some b), .pointer none, .pointer none]
set_option maxRecDepth 100000 in
theorem newpool_any (w : World) : Calls Yba.prog 4 #[.int .i64 0] w fun e w' => e = .returned (.pointer (some ⟨w.heap.size + 1, 0, none⟩)) ∧ w' = (w.alloc (.map #[] 0)).alloc (.cells (pool w.heap.size) 49) := by
  have hmm := @run_makeMap Yba.prog
  go_enter Yba.func4, Yba.ntmps4
  go_wp2_with fail
  go_ret
  exact ⟨rfl, rfl⟩

def s0 : Lk := ⟨none, none, fun _ => none, fun _ => none⟩
theorem s0_law : IsL s0 (desc 0) := ⟨rfl, rfl, trivial⟩
theorem St.start (w : World) (m : Nat) : St w ((((w.alloc (.map #[] 0)).alloc (.cells (pool w.heap.size) 49)).alloc (.cells (madeCells #[.pointer none] m) 28)).alloc (.cells (madeCells #[.bool false] m) 4)) (w.heap.size + 1) (w.heap.size + 2) (w.heap.size + 3) m (fun _ => 0) 0 s0 (fun _ => false) := by
  have h1 := heap_alloc_new (w.alloc (.map #[] 0)) (.cells (pool w.heap.size) 49)
  have h2 := World.rowIs_made ((w.alloc (.map #[] 0)).alloc (.cells (pool w.heap.size) 49)) (.pointer none) m 28
  have h3 := World.rowIs_made (((w.alloc (.map #[] 0)).alloc (.cells (pool w.heap.size) 49)).alloc (.cells (madeCells #[.pointer none] m) 28)) (.bool false) m 4
  have h1' := (Below.heap_alloc _ (.cells (madeCells #[.bool false] m) 4) _ (by simp)).trans ((Below.heap_alloc _ (.cells (madeCells #[.pointer none] m) 28) _ (by simp)).trans h1)
  have h2' := h2.alloc (.cells (madeCells #[.bool false] m) 4)
  simp only [World.size_alloc] at h1' h2' h3
  obtain ⟨c2, g1, g2, g3⟩ := h2'
  obtain ⟨c3, f1, f2, f3⟩ := h3
  refine ⟨((((Below.refl _ _).alloc (Nat.le_refl _) _).alloc (by simp) _).alloc (by simp; omega) _).alloc (by simp; omega) _, ⟨by omega, by omega, by omega, fun i hi => by omega⟩, ⟨⟨_, h1', by simp [pool, s0, ptr], by simp [pool, s0, ptr]⟩, fun i hi => by omega, fun i j hi => by omega⟩, ⟨c2, g1, g2, fun i hi => by omega⟩, ⟨c3, f1, fun i hi => f3 i hi⟩⟩

theorem Row.lit {B : Nat} (w : World) (L : List Nat) (hB : B ≤ w.heap.size) (hL : L.length ≤ 10000) : Row B (w.alloc (.cells (ints L).toArray 3)) w.heap.size L.length L := by
  have := World.ownsRow_lit (base := B) (e := 3) (size := 1) w (ints L).toArray L.length hB (by unfold maxLen; omega) (by simp [ints])
  exact this

theorem St.slotN {w0 w : World} {P N I m n : Nat} {c : Nat → Nat} {s : Lk} {D : Nat → Bool} (h : St w0 w P N I m c n s D) (i : Nat) (hi : i < m) : ∃ v, w.cell? ⟨N, i, none⟩ = some v ∧ w.frozen? ⟨N, i, none⟩ = false := by
  obtain ⟨c1, g1, g2, _⟩ := h.nodes
  exact ⟨c1[i]'(by omega), by rw [blk_cell g1, Array.getElem?_eq_getElem (by omega)], blk_free g1 i⟩
theorem alloc_below (w : World) (o : Obj) : Below w.heap.size w (w.alloc o) := (Below.refl _ _).alloc (Nat.le_refl _) o

theorem Row.news {B : Nat} {w : World} {g cap : Nat} {L : List Nat} (h : Row B w g cap L) (o : Obj) : ∀ j u, (ints L)[j]? = some u → (w.alloc o).cell? ((⟨g, 0, none⟩ : Addr).add j) = some u :=
  World.ownsRow.cells (h.below (alloc_below w o)) rfl
theorem Row.of_own {B : Nat} {w : World} {v : Value} {n : Nat} {xs : List Value} {L : List Nat} (h : w.ownsRow B 3 1 v n xs) (hn : n = L.length) (h0 : 0 < n) (hx : xs = ints L) : ∃ g cap, v = .slice (some ⟨g, 0, none⟩) L.length cap ∧ Row B w g cap L := by
  subst hn hx
  have h' := h
  obtain ⟨_, h2 | ⟨g, cap, cur, h2, _⟩⟩ := h
  · omega
  · subst h2
    exact ⟨g, cap, rfl, h'⟩
theorem Row.alloc {B : Nat} {w : World} {g cap : Nat} {L : List Nat} (h : Row B w g cap L) (o : Obj) : (w.alloc o).ownsRow B 3 1 (.slice (some ⟨g, 0, none⟩) L.length cap) L.length (ints L) := h.below (alloc_below w o)
theorem app_below {W w w' : World} {o : Obj} {B g : Nat} (hb : Below B W w) (hB : B ≤ w.heap.size) (hg : B ≤ g) (h : (w.alloc o).grownBy w' (some g)) : Below B W w' :=
  (hb.alloc hB o).grown h (by simp; omega) (fun k hk => by cases hk; exact hg)
theorem ints_snoc (L : List Nat) (x : Nat) : ints L ++ [.int .i64 (x : Int)] = ints (L ++ [x]) := by simp [ints]
theorem tmod_nat (a m : Nat) : Int.tmod (a : Int) (m : Int) = ((a % m : Nat) : Int) := by rw [Int.tmod_eq_emod_of_nonneg (by omega)]; exact (Int.natCast_emod a m).symm
theorem short : ∀ (n : Nat) (L : List Nat), L.Nodup → (∀ x ∈ L, x < n) → L.length ≤ n
  | 0, L, _, h => by
    cases L with
    | nil => simp
    | cons x xs => have := h x (by simp); omega
  | n + 1, L, hn, h => by
    by_cases hm : n ∈ L
    · obtain ⟨A, B, rfl⟩ := List.append_of_mem hm
      obtain ⟨nA, nxB, hd⟩ := List.nodup_append.1 hn
      obtain ⟨nx, nB⟩ := List.nodup_cons.1 nxB
      have h1 : (A ++ B).Nodup := List.nodup_append.2 ⟨nA, nB, fun a ha b hb => hd a ha b (by simp [hb])⟩
      have := short n (A ++ B) h1 (fun x hx => by
        have e : x ≠ n := fun e => by
          subst e
          rcases List.mem_append.1 hx with hx | hx
          · exact hd x hx x (by simp) rfl
          · exact nx hx
        have := h x (by rcases List.mem_append.1 hx with hx | hx <;> simp [hx])
        omega)
      simp at this ⊢
      omega
    · have := short n L hn (fun x hx => by
        have e : x ≠ n := fun e => hm (e ▸ hx)
        have := h x hx
        omega)
      omega
theorem IsL.nbr_ne {s : Lk} {L : List Nat} {x : Nat} (h : IsL s L) (hn : L.Nodup) (hx : x ∈ L) : (∀ y, s.newer x = some y → y ≠ x) ∧ (∀ y, s.older x = some y → y ≠ x) := by
  obtain ⟨A, B, rfl⟩ := List.append_of_mem hx
  have hs := h.seg
  rw [seg_append] at hs
  obtain ⟨_, hxn, hxo, _⟩ := hs
  simp only [Option.or_none] at hxn hxo
  obtain ⟨nA, nxB, hd⟩ := List.nodup_append.1 hn
  obtain ⟨nx, nB⟩ := List.nodup_cons.1 nxB
  refine ⟨fun y hy e => ?_, fun y hy e => ?_⟩
  · rw [hxn] at hy
    exact hd y (List.mem_of_getLast? hy) x (by simp) e
  · rw [hxo] at hy
    exact nx (e ▸ List.mem_of_head? hy)
theorem take_filter {L : List Nat} {u v k : Nat} (h : L[u]? = some v) : (L.take (u + 1)).filter (fun y => y != k) = (L.take u).filter (fun y => y != k) ++ (if v = k then [] else [v]) := by
  rw [List.take_add_one, h, List.filter_append]
  by_cases e : v = k
  · simp [e]
  · simp [e]
theorem pre_below {w w' : World} {o : Obj} (h : (w.alloc o).grownBy w' (some w.heap.size)) : Below w.heap.size w w' :=
  (alloc_below w o).grown h (by simp) (fun k hk => by cases hk; exact Nat.le_refl _)

set_option maxRecDepth 100000 in
set_option maxHeartbeats 2000000 in
theorem script_walk (a0 a1 : Nat) (ha0 : a0 ≤ 255) (ha1 : a1 ≤ 255) (ao : Option Addr) (len q : Nat) (w : World) (b off : Nat) (hao : 0 < len → ao = some ⟨b, off, none⟩) (hlen : len ≤ 1024) (hq : len ≤ q) (hq2 : q ≤ 9223372036854775807) (hI : ∀ i, i < len → ∃ k : Nat, w.cell? ⟨b, off + i, none⟩ = some (.int .u8 (k : Int)) ∧ k ≤ 255) (hbb : 0 < len → b < w.heap.size) :
    Calls Yba.prog 3 #[.int .u8 (a0 : Int), .int .u8 (a1 : Int), .slice ao len q] w fun e w' => e = .returned (.bool true) ∧ Below w.heap.size w w' := by
  have h1 : ¬ (1024 : Int) < len := by omega
  have htm : Int.tmod (a0 : Int) 8 = ((a0 % 8 : Nat) : Int) := by rw [Int.tmod_eq_emod_of_nonneg (by omega)]; omega
  have hm8 : a0 % 8 + 1 ≤ 8 := by omega
  go_enter Yba.func3, Yba.ntmps3
  go_upto_region 4 with fail
  rw [show (a0 : Int) % 8 + 1 = ((a0 % 8 + 1 : Nat) : Int) by omega]
  clear htm
  have hm0 : 0 < a0 % 8 + 1 := by omega
  generalize a0 % 8 + 1 = m at *
  have hk1 := mk25 m hm8
  have hk2 := mk26 m hm8
  go_wp2_with (go_at_call 4; refine (newpool_any _).mono ?_; rintro e w' ⟨rfl, rfl⟩)
  have hst := (St.start w m).grown (alloc_below _ (.cells #[] 3))
  have hrow : Row 0 _ _ 0 (desc 0) := Row.lit ((((w.alloc (.map #[] 0)).alloc (.cells (pool w.heap.size) 49)).alloc (.cells (madeCells #[.pointer none] m) 28)).alloc (.cells (madeCells #[.bool false] m) 4)) (desc 0) (Nat.zero_le _) (by simp [desc_length])
  have HST : Hid (St w (((((w.alloc (.map #[] 0)).alloc (.cells (pool w.heap.size) 49)).alloc (.cells (madeCells #[.pointer none] m) 28)).alloc (.cells (madeCells #[.bool false] m) 4)).alloc (.cells #[] 3)) (w.heap.size + 1) (w.heap.size + 1 + 1) (w.heap.size + 1 + 1 + 1) m (fun _ => 0) 0 s0 (fun _ => false)) := hst
  have HROW : Hid (Row 0 (((((w.alloc (.map #[] 0)).alloc (.cells (pool w.heap.size) 49)).alloc (.cells (madeCells #[.pointer none] m) 28)).alloc (.cells (madeCells #[.bool false] m) 4)).alloc (.cells #[] 3)) (w.heap.size + 1 + 1 + 1 + 1) 0 (desc 0)) := by
    simp only [World.size_alloc] at hrow
    exact hrow
  clear hst hrow
  generalize (((((w.alloc (.map #[] 0)).alloc (.cells (pool w.heap.size) 49)).alloc (.cells (madeCells #[.pointer none] m) 28)).alloc (.cells (madeCells #[.bool false] m) 4)).alloc (.cells #[] 3)) = wS at *
  generalize w.heap.size + 1 + 1 + 1 + 1 = G at *
  generalize w.heap.size + 1 + 1 + 1 = I at *
  generalize w.heap.size + 1 + 1 = N at *
  generalize w.heap.size + 1 = P at *
  go_loopw [11, 12] (fun mv i wr => ∃ (j g cap : Nat) (c : Nat → Nat) (s : Lk) (D : Nat → Bool), j ≤ m ∧ i = .int .i64 (j : Int) ∧ mv = .slice (some ⟨g, 0, none⟩) j cap ∧ St w wr P N I m c j s D ∧ IsL s (desc j) ∧ (∀ i, i < m → D i = decide (i < j)) ∧ Row 0 wr g cap (desc j)) (fun _ i _ => m - (intOf i).toNat)
  case atStart => exact ⟨0, G, 0, _, _, _, Nat.zero_le _, rfl, rfl, HST.out, s0_law, fun i hi => by simp, HROW.out⟩
  case round =>
    obtain ⟨j, g, cap, c, s, D, hj, rfl, rfl, st, hl, hD, hrow⟩ := hrel
    clear HST HROW
    by_cases hjm : (j : Int) < m
    · have hLj : ∀ i ∈ desc j, i < j := fun i hi => (mem_desc j i).1 hi
      obtain ⟨hd1, hd2⟩ := hl.heads hLj
      have st2 := st.more (by omega) hd1 hd2 (fun i hi => by
        obtain ⟨x1, x2⟩ := hl.nbr ((mem_desc j i).2 hi)
        exact ⟨fun y hy => hLj y (x1 y hy), fun y hy => hLj y (x2 y hy)⟩)
      have row2 := hrow.more st (.cells (nodeCells j) 36) j (.pointer (some ⟨wr.heap.size, 0, none⟩))
      obtain ⟨v0, hv0, hf0⟩ := (st.grown (alloc_below wr (.cells (nodeCells j) 36))).slotN j (by omega)
      have HST2 : Hid (St w ((wr.alloc (.cells (nodeCells j) 36)).setCell ⟨N, j, none⟩ (.pointer (some ⟨wr.heap.size, 0, none⟩))) P N I m (ext c j wr.heap.size) (j + 1) (s.fresh j) D) := st2
      have HROW2 : Hid (Row 0 ((wr.alloc (.cells (nodeCells j) 36)).setCell ⟨N, j, none⟩ (.pointer (some ⟨wr.heap.size, 0, none⟩))) g cap (desc j)) := row2
      have HL : Hid (IsL (s.fresh j) (desc j)) := fresh_law hl (by simp [mem_desc])
      have HD : Hid (∀ i, i < m → D i = decide (i < j)) := hD
      clear st st2 hl hD hrow row2 hd1 hd2
      simp only [nodeCells] at hv0 hf0 HST2 HROW2
      go_upto_region 12 with fail
      generalize (wr.alloc (.cells #[.pointer none, .int .i64 0, .slice none 0 0, .slice none 0 0, .int .i64 (j : Int), .pointer none, .pointer none] 36)).setCell ⟨N, j, none⟩ (.pointer (some ⟨wr.heap.size, 0, none⟩)) = w2 at *
      clear hv0 hf0
      have hcN := HST2.out.cellN j (by omega)
      have hlink := link_any w2 P _ (j + 1) j _ HST2.out.rep (by omega) (fun y hy => by have := (HL.out.heads hLj).1 y hy; omega)
      generalize hcE : ext c j wr.heap.size = cE at *
      have hcj : cE j = wr.heap.size := by rw [← hcE, ext_same]
      simp only [ptr, Option.map_some, hcj] at hcN hlink
      have HCJ : Hid (cE j = wr.heap.size) := hcj
      clear hcE hcj
      have HLINK : Hid _ := hlink
      clear hlink
      generalize wr.heap.size = bj at *
      go_upto_region 13 with (go_at_call 5; refine Calls.mono HLINK.out ?_; rintro e w3 ⟨rfl, hrep3, hturn3⟩)
      have st3 := HST2.out.turn hrep3 hturn3
      have row3 := HROW2.out.turn HST2.out hturn3
      obtain ⟨hi3, hf3⟩ := st3.cellI j (by omega)
      have HST4 : Hid (St w (w3.setCell ⟨I, j, none⟩ (.bool true)) P N I m cE (j + 1) ((s.fresh j).link j) (setB D j true)) := st3.setIn j (by omega) true
      have HROW4 : Hid (Row 0 (w3.setCell ⟨I, j, none⟩ (.bool true)) g cap (desc j)) := row3.setIn st3 j _
      have HL4 : Hid (IsL ((s.fresh j).link j) (desc (j + 1))) := by rw [desc_succ]; exact link_law HL.out (by simp [mem_desc]) (desc_nodup j)
      clear st3 row3 hrep3 hturn3 hcN
      go_upto_region 14 with fail
      generalize w3.setCell ⟨I, j, none⟩ (.bool true) = w4 at *
      clear hi3 hf3
      obtain ⟨i3, hi3, hz0, hz1, hz2⟩ := info_parts Yba.info3
      go_wp2_with (at_builtin; refine wpList_append_own_at _ rfl _ _ 27 rfl w4.heap.size 3 i3 _ 1 8 Yba.underlying27 hi3 hz0 hz1 hz2 rfl (by decide) (.slice (some ⟨w4.heap.size, 0, none⟩) 1 1) 1 [.int .i64 (j : Int)] rfl (World.ownsRow_lit w4 #[.int .i64 (j : Int)] 1 (Nat.le_refl _) (by unfold maxLen; omega) rfl) ⟨g, 0, none⟩ j cap (ints (desc j)) rfl (by simp [ints, desc_length]) (Row.news HROW4.out _) (by simp [ints, Value.oneCell']) (by unfold maxLen; omega) (by omega) (by simp) ?_; intro v5 w5 hown5 hgr5 _ _; obtain ⟨g5, cap5, rfl, hrow5⟩ := Row.of_own (L := desc (j + 1)) hown5 (by rw [desc_length]; omega) (by omega) (by rw [desc_succ]; rfl); have HROW5 : Hid (Row w4.heap.size w5 g5 cap5 (desc (j + 1))) := hrow5; have HB5 : Hid (Below w4.heap.size w4 w5) := pre_below hgr5; clear hown5 hgr5 hrow5; rw [desc_length])
      go_roundw
      case rel =>
        refine ⟨j + 1, g5, cap5, cE, _, _, by omega, by go_num, rfl, HST4.out.grown HB5.out, HL4.out, fun i hi => ?_, HROW5.out.zero⟩
        have := HD.out i hi
        unfold setB
        by_cases e : i = j
        · simp [e]
        · rw [if_neg e, this]
          simp only [decide_eq_decide]
          omega
      case measure => simp [intOf]; omega
    · obtain rfl : j = m := by omega
      have hchk := check_any wr P c j j N g cap (some ⟨g, 0, none⟩) s (desc j) st.rep hl (fun i hi => (mem_desc j i).1 hi) (Nat.le_refl _) hm8 (by rw [desc_length]; exact hm8) st.cellN (fun _ => rfl) hrow.cell
      rw [desc_length] at hchk
      have HCHK : Hid _ := hchk
      have HST : Hid (St w wr P N I j c j s D) := st
      have HL : Hid (IsL s (desc j)) := hl
      have HD : Hid (∀ i, i < j → D i = decide (i ∈ desc j)) := fun i hi => by rw [hD i hi]; simp [mem_desc]
      have HROW : Hid (Row 0 wr g cap (desc j)) := hrow
      clear hchk st hl hD hrow
      obtain ⟨i3, hi3, hz0, hz1, hz2⟩ := info_parts Yba.info3
      go_upto_region 17 with (go_at_call 6; refine Calls.mono HCHK.out ?_; rintro e w5 ⟨rfl, rfl⟩)
      have hjz : ¬ (j : Int) = 0 := by omega
      have ht1 := tmod_nat a1 j
      have hr1 : a1 % j < j := Nat.mod_lt _ hm0
      generalize a1 % j = r1 at *
      go_upto_region 18 with (at_make; refine wpList_make_own _ rfl _ _ 27 rfl w5.heap.size 3 i3 _ 1 Yba.underlying27 hi3 hz0 hz1 .i64 .i64 _ (len + 1) rfl rfl (by omega) (by rw [hz2]; omega) (by unfold maxLen; omega) (Nat.le_refl _) ?_; intro w6 hown6 hgr6; have HR6 : Hid (Row w5.heap.size w6 w5.heap.size (len + 1) []) := hown6; have HB6 : Hid (Below w5.heap.size w5 w6) := (Below.refl _ _).grown hgr6 (Nat.le_refl _) (fun k hk => by cases hk); clear hown6 hgr6)
      have hw56 : w5.heap.size ≤ w6.heap.size := HB6.out.size
      go_wp2_with (at_builtin; refine wpList_append_own_at _ rfl _ _ 27 rfl w5.heap.size 3 i3 _ 1 8 Yba.underlying27 hi3 hz0 hz1 hz2 rfl (by decide) (.slice (some ⟨w5.heap.size, 0, none⟩) 0 (len + 1)) 0 (ints []) rfl (Row.alloc HR6.out _) ⟨w6.heap.size, 0, none⟩ 1 1 [.int .i64 (r1 : Int)] rfl rfl (cell_one_new _ _ _) (by simp [Value.oneCell']) (by unfold maxLen; omega) (by omega) (by simp; omega) ?_; intro v7 w7 hown7 hgr7 _ _; obtain ⟨g7, cap7, rfl, hrow7⟩ := Row.of_own (L := [r1]) hown7 rfl (by omega) rfl; have HR7 : Hid (Row w5.heap.size w7 g7 cap7 [r1]) := hrow7; have HB7 : Hid (Below w5.heap.size w5 w7) := app_below HB6.out (by omega) (Nat.le_refl _) hgr7; clear hown7 hgr7 hrow7; simp only [List.length_singleton])
      go_loopw [13, 77] (fun sv i wq => ∃ (k gs cs : Nat) (S : List Nat), k ≤ len ∧ i = .int .i64 (k : Int) ∧ S.length = k + 1 ∧ (∀ x ∈ S, x < j) ∧ sv = .slice (some ⟨gs, 0, none⟩) (k + 1) cs ∧ Row w5.heap.size wq gs cs S ∧ Below w5.heap.size w5 wq) (fun _ i _ => len - (intOf i).toNat)
      case atStart => exact ⟨0, g7, cap7, [r1], Nat.zero_le _, rfl, rfl, fun x hx => by simp at hx; omega, rfl, HR7.out, HB7.out⟩
      case round =>
        obtain ⟨k, gs, cs, S, hk, rfl, hSl, hSm, rfl, hrS, hbS⟩ := hrel
        clear HR7 HB7 HR6 HB6
        have HRS : Hid (Row w5.heap.size wr gs cs S) := hrS
        have HBS : Hid (Below w5.heap.size w5 wr) := hbS
        have hsz : w5.heap.size ≤ wr.heap.size := hbS.size
        have HSM : Hid (∀ x ∈ S, x < j) := hSm
        clear hSm
        by_cases hkl : (k : Int) < len
        · obtain ⟨o, hc, ho⟩ := hI k (by omega)
          obtain rfl := hao (by omega)
          have hcc := (HST.out.below.cell (p := ⟨b, off + k, none⟩) (hbb (by omega))).trans hc
          have hcc2 := (hbS.cell (p := ⟨b, off + k, none⟩) (by have := hbb (by omega); have := HST.out.below.size; show b < w5.heap.size; omega)).trans hcc
          have ht2 := tmod_nat o j
          have hr2 : o % j < j := Nat.mod_lt _ hm0
          generalize o % j = r2 at *
          clear hc hcc hrS hbS
          go_wp2_with (at_builtin; refine wpList_append_own_at _ rfl _ _ 27 rfl w5.heap.size 3 i3 _ 1 8 Yba.underlying27 hi3 hz0 hz1 hz2 rfl (by decide) (.slice (some ⟨gs, 0, none⟩) (k + 1) cs) (k + 1) (ints S) rfl (hSl ▸ Row.alloc HRS.out _) ⟨wr.heap.size, 0, none⟩ 1 1 [.int .i64 (r2 : Int)] rfl rfl (cell_one_new _ _ _) (by simp [Value.oneCell']) (by unfold maxLen; omega) (by omega) (by simp; omega) ?_; intro v8 w8 hown8 hgr8 _ _; obtain ⟨g8, cap8, rfl, hrow8⟩ := Row.of_own (L := S ++ [r2]) hown8 (by simp [hSl]) (by omega) (ints_snoc S r2); have HR8 : Hid (Row w5.heap.size w8 g8 cap8 (S ++ [r2])) := hrow8; have HB8 : Hid (Below w5.heap.size w5 w8) := app_below HBS.out hsz (HRS.out.blk).1 hgr8; clear hown8 hgr8 hrow8; simp only [List.length_append, List.length_singleton, hSl])
          go_roundw
          case rel =>
            refine ⟨k + 1, g8, cap8, S ++ [r2], by omega, by go_num, by simp [hSl], fun x hx => ?_, rfl, HR8.out, HB8.out⟩
            rcases List.mem_append.1 hx with hx | hx
            · exact HSM.out x hx
            · simp at hx; omega
          case measure => simp [intOf]; omega
        · obtain rfl : k = len := by omega
          have HST3 : Hid (St w wr P N I j c j s D) := HST.out.grown hbS
          have HROW3 : Hid (Row 0 wr g cap (desc j)) := HROW.out.below hbS
          have HRS0 : Hid (Row 0 wr gs cs S) := HRS.out.zero
          clear hrS hbS HRS HBS HST HROW hsz HCHK
          go_wp2_with fail
          go_loopw [11, 91] (fun mv i wq => ∃ (t g cap : Nat) (s : Lk) (D : Nat → Bool) (L : List Nat), t ≤ k + 1 ∧ i = .int .i64 (t : Int) ∧ mv = .slice (some ⟨g, 0, none⟩) L.length cap ∧ St w wq P N I j c j s D ∧ IsL s L ∧ L.Nodup ∧ (∀ x ∈ L, x < j) ∧ (∀ i, i < j → D i = decide (i ∈ L)) ∧ Row 0 wq g cap L ∧ Row 0 wq gs cs S) (fun _ i _ => k + 1 - (intOf i).toNat)
          case atStart => exact ⟨0, g, cap, s, D, desc j, Nat.zero_le _, rfl, by rw [desc_length], HST3.out, HL.out, desc_nodup j, fun x hx => (mem_desc j x).1 hx, HD.out, HROW3.out, HRS0.out⟩
          case round =>
            clear HST3 HROW3 HRS0 HL HD
            obtain ⟨t, g, cap, s, D, L, ht, rfl, rfl, st, hl, hnd, hLj, hD, hrow, hrS⟩ := hrel
            by_cases htl : (t : Int) < (k : Int) + 1
            · have hSt : S[t]? = some (S[t]'(by omega)) := List.getElem?_eq_getElem _
              have hx : S[t]'(by omega) < j := HSM.out _ (List.getElem_mem _)
              generalize S[t]'(by omega) = x at *
              have hcS := hrS.cell t x hSt
              have hcN := st.cellN x hx
              obtain ⟨hcI, hfI⟩ := st.cellI x hx
              have hDx := hD x hx
              have hxj : (x : Int) < j := by omega
              have HST : Hid (St w wr P N I j c j s D) := st
              have HL : Hid (IsL s L ∧ L.Nodup ∧ (∀ x ∈ L, x < j) ∧ (∀ i, i < j → D i = decide (i ∈ L))) := ⟨hl, hnd, hLj, hD⟩
              have HROW : Hid (Row 0 wr g cap L) := hrow
              have HRS : Hid (Row 0 wr gs cs S) := hrS
              have hLl := short j L hnd hLj
              clear st hl hnd hLj hD hrow hrS
              simp only [ptr, Option.map_some] at hcN
              by_cases hxL : x ∈ L
              · have hDt : D x = true := by rw [hDx]; simp [hxL]
                rw [hDt] at hcI
                clear hDx hDt
                obtain ⟨hl, hnd, hLj, hD⟩ := HL.out
                obtain ⟨nb1, nb2⟩ := hl.nbr hxL
                obtain ⟨ne1, ne2⟩ := hl.nbr_ne hnd hxL
                have HUN : Hid _ := unlink_any wr P c j x s HST.out.rep hx (fun y hy => ⟨hLj y (nb1 y hy), ne1 y hy⟩) (fun y hy => ⟨hLj y (nb2 y hy), ne2 y hy⟩)
                have HL2 : Hid (IsL (s.unlink x) (L.filter (fun y => y != x)) ∧ (s.unlink x).newer x = none ∧ (s.unlink x).older x = none) := unlink_filter hl hnd hxL
                clear hl hnd hLj hD nb1 nb2 ne1 ne2
                go_upto_region 30 with (go_at_call 7; refine Calls.mono HUN.out ?_; rintro e w2 ⟨rfl, hrep2, hturn2⟩)
                have HST2 : Hid (St w w2 P N I j c j (s.unlink x) D) := HST.out.turn hrep2 hturn2
                have HROW2 : Hid (Row 0 w2 g cap L) := HROW.out.turn HST.out hturn2
                have HRS2 : Hid (Row 0 w2 gs cs S) := HRS.out.turn HST.out hturn2
                obtain ⟨u1, u2, _, _⟩ := hrep2.nod hx
                rw [HL2.out.2.1] at u1
                rw [HL2.out.2.2] at u2
                simp only [ptr, Option.map_none] at u1 u2
                obtain ⟨q1, q2⟩ := HST2.out.cellI x hx
                clear hcS hcN hcI hfI hrep2 hturn2 HST HROW HRS HUN
                have HST3 : Hid (St w (w2.setCell ⟨I, x, none⟩ (.bool false)) P N I j c j (s.unlink x) (setB D x false)) := HST2.out.setIn x hx false
                have HROW3 : Hid (Row 0 (w2.setCell ⟨I, x, none⟩ (.bool false)) g cap L) := HROW2.out.setIn HST2.out x _
                have HRS3 : Hid (Row 0 (w2.setCell ⟨I, x, none⟩ (.bool false)) gs cs S) := HRS2.out.setIn HST2.out x _
                clear HST2 HROW2 HRS2
                go_upto_region 33 with fail
                generalize w2.setCell ⟨I, x, none⟩ (.bool false) = w3 at *
                clear u1 u2 q1 q2
                generalize hLL : L.length = ll at *
                have HLL : Hid (L.length = ll) := hLL
                clear hLL
                go_wp2_with (at_make; refine wpList_make_own _ rfl _ _ 27 rfl w3.heap.size 3 i3 _ 1 Yba.underlying27 hi3 hz0 hz1 .i64 .i64 _ ll rfl rfl rfl (by rw [hz2]; omega) (by unfold maxLen; omega) (Nat.le_refl _) ?_; intro w4 hown4 hgr4; have HR4 : Hid (Row w3.heap.size w4 w3.heap.size ll []) := hown4; have HB4 : Hid (Below w3.heap.size w3 w4) := (Below.refl _ _).grown hgr4 (Nat.le_refl _) (fun k hk => by cases hk); clear hown4 hgr4)
                go_loopw [19, 126] (fun nv i wq => ∃ (u gn cn : Nat), u ≤ ll ∧ i = .int .i64 (u : Int) ∧ nv = .slice (some ⟨gn, 0, none⟩) ((L.take u).filter (fun y => y != x)).length cn ∧ Row w3.heap.size wq gn cn ((L.take u).filter (fun y => y != x)) ∧ Below w3.heap.size w3 wq) (fun _ i _ => ll - (intOf i).toNat)
                case atStart => exact ⟨0, w3.heap.size, ll, Nat.zero_le _, rfl, by simp, by simpa using HR4.out, HB4.out⟩
                case round =>
                  obtain ⟨u, gn, cn, hu, rfl, rfl, hrN, hbN⟩ := hrel
                  clear HR4 HB4
                  have HRN : Hid (Row w3.heap.size wr gn cn ((L.take u).filter (fun y => y != x))) := hrN
                  have HBN : Hid (Below w3.heap.size w3 wr) := hbN
                  have hsz : w3.heap.size ≤ wr.heap.size := hbN.size
                  have hfl : ((L.take u).filter (fun y => y != x)).length ≤ 8 := Nat.le_trans (List.length_filter_le _ _) (by rw [List.length_take]; omega)
                  by_cases hul : (u : Int) < ll
                  · have hLu : L[u]? = some (L[u]'(by have := HLL.out; omega)) := List.getElem?_eq_getElem _
                    have htf := take_filter (k := x) hLu
                    have hcu := (HROW3.out.below hbN).cell u _ hLu
                    generalize L[u]'(by have := HLL.out; omega) = v at *
                    have HTF : Hid _ := htf
                    clear hrN hbN htf hLu
                    generalize hF : (L.take u).filter (fun y => y != x) = F at *
                    have HF : Hid _ := hF
                    clear hF
                    by_cases hvx : (v : Int) = x
                    · have hvx' : v = x := by omega
                      go_wp2_with fail
                      go_roundw
                      case rel => exact ⟨u + 1, gn, cn, by omega, by go_num, by rw [HTF.out, if_pos hvx']; simp, by rw [HTF.out, if_pos hvx']; simpa using HRN.out, HBN.out⟩
                      case measure => simp [intOf]; omega
                    · have hvx' : v ≠ x := by omega
                      go_wp2_with (at_builtin; refine wpList_append_own_at _ rfl _ _ 27 rfl w3.heap.size 3 i3 _ 1 8 Yba.underlying27 hi3 hz0 hz1 hz2 rfl (by decide) (.slice (some ⟨gn, 0, none⟩) F.length cn) F.length (ints F) rfl (Row.alloc HRN.out _) ⟨wr.heap.size, 0, none⟩ 1 1 [.int .i64 (v : Int)] rfl rfl (cell_one_new _ _ _) (by simp [Value.oneCell']) (by unfold maxLen; omega) (by omega) (by simp; omega) ?_; intro v8 w8 hown8 hgr8 _ _; obtain ⟨g8, cap8, rfl, hrow8⟩ := Row.of_own (L := F ++ [v]) hown8 (by simp) (by omega) (ints_snoc F v); have HR8 : Hid (Row w3.heap.size w8 g8 cap8 (F ++ [v])) := hrow8; have HB8 : Hid (Below w3.heap.size w3 w8) := app_below HBN.out hsz (HRN.out.blk).1 hgr8; clear hown8 hgr8 hrow8)
                      go_roundw
                      case rel => exact ⟨u + 1, g8, cap8, by omega, by go_num, by rw [HTF.out, if_neg hvx']; simp, by rw [HTF.out, if_neg hvx']; exact HR8.out, HB8.out⟩
                      case measure => simp [intOf]; omega
                  · obtain rfl : u = ll := by omega
                    have hta : L.take u = L := List.take_of_length_le (by have := HLL.out; omega)
                    rw [hta] at hrN hfl ⊢
                    have st4 := HST3.out.grown hbN
                    have HST4 : Hid (St w wr P N I j c j (s.unlink x) (setB D x false)) := st4
                    have HRS4 : Hid (Row 0 wr gs cs S) := HRS3.out.below hbN
                    have HRN4 : Hid (Row 0 wr gn cn (L.filter (fun y => y != x))) := hrN.zero
                    obtain ⟨hl, hnd, hLj, hD⟩ := HL.out
                    have hLj' : ∀ y ∈ L.filter (fun y => y != x), y < j := fun y hy => hLj y (List.mem_filter.1 hy).1
                    have HCHK : Hid _ := check_any wr P c j j N gn cn (some ⟨gn, 0, none⟩) (s.unlink x) (L.filter (fun y => y != x)) st4.rep HL2.out.1 hLj' (Nat.le_refl _) hm8 hfl st4.cellN (fun _ => rfl) hrN.cell
                    have HEND : Hid ((L.filter (fun y => y != x)).Nodup ∧ (∀ y ∈ L.filter (fun y => y != x), y < j) ∧ (∀ i, i < j → setB D x false i = decide (i ∈ L.filter (fun y => y != x)))) := by
                      refine ⟨hnd.filter _, hLj', fun i hi => ?_⟩
                      unfold setB
                      by_cases e : i = x
                      · simp [e]
                      · rw [if_neg e, hD i hi]
                        simp [e]
                    clear hl hnd hLj hD hLj' st4 hrN hbN HRN HBN hta HST3 HROW3 HRS3
                    go_wp2_with (go_at_call 6; refine Calls.mono HCHK.out ?_; rintro e w5 ⟨rfl, rfl⟩)
                    go_roundw
                    case rel => exact ⟨t + 1, gn, cn, s.unlink x, setB D x false, L.filter (fun y => y != x), by omega, by go_num, rfl, HST4.out, HL2.out.1, HEND.out.1, HEND.out.2.1, HEND.out.2.2, HRN4.out, HRS4.out⟩
                    case measure => simp [intOf]; omega
              · have hDt : D x = false := by rw [hDx]; simp [hxL]
                rw [hDt] at hcI
                clear hDx hDt
                obtain ⟨hl, hnd, hLj, hD⟩ := HL.out
                have HLK : Hid _ := link_any wr P c j x s HST.out.rep hx (hl.heads hLj).1
                have HL2 : Hid (IsL (s.link x) (x :: L)) := link_law hl hxL hnd
                have hnd2 : (x :: L).Nodup := List.nodup_cons.2 ⟨hxL, hnd⟩
                have hLj2 : ∀ y ∈ x :: L, y < j := fun y hy => by
                  rcases List.mem_cons.1 hy with e | e
                  · omega
                  · exact hLj y e
                have hLl2 := short j (x :: L) hnd2 hLj2
                have HEND : Hid ((x :: L).Nodup ∧ (∀ y ∈ x :: L, y < j) ∧ (∀ i, i < j → setB D x true i = decide (i ∈ x :: L))) := by
                  refine ⟨hnd2, hLj2, fun i hi => ?_⟩
                  unfold setB
                  by_cases e : i = x
                  · simp [e]
                  · rw [if_neg e, hD i hi]
                    simp [e]
                clear hl hnd hLj hD hnd2 hLj2
                go_upto_region 42 with (go_at_call 5; refine Calls.mono HLK.out ?_; rintro e w2 ⟨rfl, hrep2, hturn2⟩)
                have HST2 : Hid (St w w2 P N I j c j (s.link x) D) := HST.out.turn hrep2 hturn2
                have HROW2 : Hid (Row 0 w2 g cap L) := HROW.out.turn HST.out hturn2
                have HRS2 : Hid (Row 0 w2 gs cs S) := HRS.out.turn HST.out hturn2
                obtain ⟨q1, q2⟩ := HST2.out.cellI x hx
                clear hcS hcN hcI hfI hrep2 hturn2 HST HROW HRS HLK
                have HST3 : Hid (St w (w2.setCell ⟨I, x, none⟩ (.bool true)) P N I j c j (s.link x) (setB D x true)) := HST2.out.setIn x hx true
                have HROW3 : Hid (Row 0 (w2.setCell ⟨I, x, none⟩ (.bool true)) g cap L) := HROW2.out.setIn HST2.out x _
                have HRS3 : Hid (Row 0 (w2.setCell ⟨I, x, none⟩ (.bool true)) gs cs S) := HRS2.out.setIn HST2.out x _
                clear HST2 HROW2 HRS2
                go_upto_region 43 with fail
                generalize w2.setCell ⟨I, x, none⟩ (.bool true) = w3 at *
                clear q1 q2
                go_upto_region 44 with (at_builtin; refine wpList_append_own_at _ rfl _ _ 27 rfl w3.heap.size 3 i3 _ 1 8 Yba.underlying27 hi3 hz0 hz1 hz2 rfl (by decide) (.slice (some ⟨w3.heap.size, 0, none⟩) 1 1) 1 [.int .i64 (x : Int)] rfl (World.ownsRow_lit w3 #[.int .i64 (x : Int)] 1 (Nat.le_refl _) (by unfold maxLen; omega) rfl) ⟨g, 0, none⟩ L.length cap (ints L) rfl (by simp [ints]) (Row.news HROW3.out _) (by simp [ints, Value.oneCell']) (by unfold maxLen; omega) (by omega) (by simp) ?_; intro v5 w5 hown5 hgr5 _ _; obtain ⟨g5, cap5, rfl, hrow5⟩ := Row.of_own (L := x :: L) hown5 (by simp; omega) (by omega) rfl; have HROW5 : Hid (Row w3.heap.size w5 g5 cap5 (x :: L)) := hrow5; have HB5 : Hid (Below w3.heap.size w3 w5) := pre_below hgr5; clear hown5 hgr5 hrow5)
                have HST5 : Hid (St w w5 P N I j c j (s.link x) (setB D x true)) := HST3.out.grown HB5.out
                have HRS5 : Hid (Row 0 w5 gs cs S) := HRS3.out.below HB5.out
                have HCHK : Hid _ := check_any w5 P c j j N g5 cap5 (some ⟨g5, 0, none⟩) (s.link x) (x :: L) HST5.out.rep HL2.out HEND.out.2.1 (Nat.le_refl _) hm8 (by omega) HST5.out.cellN (fun _ => rfl) HROW5.out.cell
                clear HST3 HROW3 HRS3
                go_wp2_with (go_at_call 6; refine Calls.mono HCHK.out ?_; rintro e w6 ⟨rfl, rfl⟩)
                go_roundw
                case rel => exact ⟨t + 1, g5, cap5, s.link x, setB D x true, x :: L, by omega, by go_num, rfl, HST5.out, HL2.out, HEND.out.1, HEND.out.2.1, HEND.out.2.2, HROW5.out.zero, HRS5.out⟩
                case measure => simp [intOf]; omega
            · have HB : Hid (Below w.heap.size w wr) := st.below
              clear st hl hnd hLj hD hrow hrS
              go_wp2_with fail
              go_ret
              exact ⟨rfl, HB.out⟩
end Go.Proofs.Ybulkgvc
