import Derived.Test.YbulkglyIn
import Derived.Deep.Cut
import Derived.Deep.RegionHeld3
namespace Go.Proofs.Ybulkgly
open Go.RowKit Go.Maps
set_option linter.unusedVariables false

/-- One element of the script, in memory. -/
def ItemAt (w : World) (b o : Nat) (k a0 a1 a2 : Nat) : Prop := w.rangeAt b o [.int .u8 (k : Int), .int .u16 (a0 : Int), .int .u16 (a1 : Int), .int .u16 (a2 : Int)] ∧ k < 256 ∧ a0 < 65536 ∧ a1 < 65536 ∧ a2 < 65536
theorem Yba.var31 : (Yba.prog.info? 31).map (fun i => (i.zero.map (·.cells.size), i.size)) = some (some 4, 4) := by kernel_rfl

theorem val_at {w : World} {vb a0 a1 a2 l : Nat} (hl : l < 3) (h0 : a0 < 65536) (h1 : a1 < 65536) (h2 : a2 < 65536) (h : w.heap[vb]? = some (.cells #[.int .u16 (a0 : Int), .int .u16 (a1 : Int), .int .u16 (a2 : Int)] 34)) :
    ∃ a : Nat, w.cell? ⟨vb, l, none⟩ = some (.int .u16 (a : Int)) ∧ a < 65536 ∧ sumL ((([a0, a1, a2] : List Nat).take (l + 1)).map (fun x : Nat => (x : Int))) = sumL ((([a0, a1, a2] : List Nat).take l).map (fun x : Nat => (x : Int))) + (a : Int) := by
  rcases (by omega : l = 0 ∨ l = 1 ∨ l = 2) with rfl | rfl | rfl
  · exact ⟨a0, blk_cell h 0, h0, by simp [sumL]⟩
  · exact ⟨a1, blk_cell h 1, h1, by simp [sumL]⟩
  · exact ⟨a2, blk_cell h 2, h2, by simp [sumL]; omega⟩

theorem Yba.info41 : (Yba.prog.info? 41).map (fun i => (i.zero, i.size, i.bytes)) = some (some (.agg #[.string ByteArray.empty, .int .u64 0, .map none, .string ByteArray.empty, .string ByteArray.empty, .int .i64 0, .int .u64 0, .pointer none, .int .u32 0, .int .u32 0]), 10, 96) := by kernel_rfl
theorem zero36 (w : World) : (zeroValue 36).run Yba.prog w = .ok (.slice none 0 0) w := by
  have : (Yba.prog.info? 36).map (·.zero) = some (some (.slice none 0 0)) := by kernel_rfl
  obtain ⟨i, h1, h2⟩ := Option.map_eq_some_iff.1 this
  simp [zeroValue, typeInfo, h1, h2]
theorem look_run {w : World} {mb n m N c : Nat} {D : DataW Value} {ao : Option Addr} (ho : w.ownsMap Yba.prog 9 sliceR mb n D) (hat : D.atKey (kn m) (.held (.slice none 0 0)) = .held (.slice ao N c)) :
    (Instr.lookup 26 (.map (some mb)) (.string (kb m)) false).run Yba.prog w = .ok (.slice ao N c) w := by
  obtain ⟨v, ps, hr, hR⟩ := ho.lookup law9 Yba.underlying26 (zero36 w) (show sliceR (.slice none 0 0) = some (.held (.slice none 0 0), []) from rfl) (kb_key m)
  rw [hat] at hR
  obtain ⟨⟨a, b, c'⟩, rfl⟩ := sliceR_inv hR
  have e : ((DataW.held (Value.slice a b c'), []) : DataW Value × List MemPlace) = (.held (.slice ao N c), ps) := Option.some.inj hR
  simp only [Prod.mk.injEq, DataW.held.injEq] at e
  rw [hr, e.1]

theorem upd {wr w1 : World} {mb base n i m g N cap : Nat} {D : DataW Value} {v : Value} {xs : List Value} (ev : Obj) (own : wr.ownsMap Yba.prog 9 sliceR mb i D) (hrow : wr.ownsRow base 41 10 v n xs) (hmb : mb < base) (hgrow : (wr.alloc ev).drew.grownBy w1 v.ownBlock) (hi : i < maxLen) :
    ∃ w5, (Instr.mapUpdate 26 (.map (some mb)) (.string (kb m)) (.slice (some ⟨g, 0, none⟩) N cap)).run Yba.prog w1 = .ok () w5 ∧ w5.ownsMap Yba.prog 9 sliceR mb (i + 1) (D.put (kn m) (.held (.slice (some ⟨g, 0, none⟩) N cap))) ∧ w1.grownBy w5 (some mb) := by
  have h1 : (wr.alloc ev).drew.ownsMap Yba.prog 9 sliceR mb i D := (own.alloc ev).drew
  have h2 := h1.kept hgrow (fun e => by have := (hrow.lt mb e.symm).1; omega)
  exact h2.update (e := 36) law9 Yba.underlying26 hi (kb_key m) (show sliceR (.slice (some ⟨g, 0, none⟩) N cap) = some (.held (.slice (some ⟨g, 0, none⟩) N cap), []) from rfl)
theorem cellK {wr w1 w5 : World} {mb base n b o : Nat} {v x : Value} {xs : List Value} (ev : Obj) (hc : wr.cell? ⟨b, o, none⟩ = some x) (hrow : wr.ownsRow base 41 10 v n xs) (hb : b < base) (hne : b ≠ mb) (hgrow : (wr.alloc ev).drew.grownBy w1 v.ownBlock) (h5 : w1.grownBy w5 (some mb)) : w1.cell? ⟨b, o, none⟩ = some x ∧ w5.cell? ⟨b, o, none⟩ = some x := by
  have h1 : (wr.alloc ev).drew.cell? ⟨b, o, none⟩ = some x := World.grownBy.cell (World.grownBy_alloc wr ev none) hc (by simp)
  have h2 := World.grownBy.cell hgrow h1 (fun e => by have := (hrow.lt b e.symm).1; omega)
  exact ⟨h2, World.grownBy.cell h5 h2 (by simpa using hne)⟩

theorem SInv.nxt {w0 w2 w4 w5 : World} {B i n : Nat} {pv : Value} {D : DataW Value} {T : Lit → List Int} (ev : Obj) (h : SInv w0 w2 B i pv D T) (kl : Lit) (hkl : WideAt.IsKeyLit kl) (hn : (T kl).length = n) {xs : List Value} {ao : Option Addr} {cp : Nat}
    (hev : w2.ownsRow (B + 4) 41 10 (.slice ao n cp) n xs ∧ EvList w2 (B + 2) (T kl) xs ∧ (∀ kl' v', kl' ≠ kl → (∀ z, D.atKey kl' z = .held v') → (Value.slice ao n cp).ownBlock = none ∨ v'.ownBlock ≠ (Value.slice ao n cp).ownBlock) ∧ (has D kl = true → ∀ z, D.atKey kl z = .held (.slice ao n cp)))
    (h34 : (w2.alloc ev).drew.grownBy w4 (Value.slice ao n cp).ownBlock) (h45 : w4.grownBy w5 (some (B + 2))) {g cap sb : Nat} {pr : ByteArray} {c t : Int} (hg : (Value.slice ao n cp).ownBlock = some g ∨ g = w2.heap.size + 1) (hs : Stamp w2 (B + 2) sb t)
    (how : w4.ownsRow (B + 4) 41 10 (.slice (some ⟨g, 0, none⟩) (n + 1) cap) (n + 1) (xs ++ evCells pr c sb))
    (hm : w5.ownsMap Yba.prog 9 sliceR (B + 2) (i + 1) (D.put kl (.held (.slice (some ⟨g, 0, none⟩) (n + 1) cap)))) (ht : -1 ≤ t ∧ t ≤ 196604) :
    SInv w0 w5 B (i + 1) pv (D.put kl (.held (.slice (some ⟨g, 0, none⟩) (n + 1) cap))) (push T kl t) ∧ tot (val_ (push T kl t)) (D.put kl (.held (.slice (some ⟨g, 0, none⟩) (n + 1) cap))) = tot (val_ T) D + t := by
  subst hn
  exact SInv.next (w3 := (w2.alloc ev).drew) h kl hkl rfl hev.1 hev.2.1 hev.2.2.1 hev.2.2.2 ((World.grownBy_alloc w2 ev none).trans ⟨rfl, rfl, rfl, Nat.le_refl _, fun _ _ _ => rfl⟩) h34 h45 (hg.imp id (fun e => by rw [e]; exact (World.size_alloc w2 ev).symm)) hs how hm ht
theorem item_kept {w2 w4 w5 : World} {ib mb base n : Nat} {v : Value} {xs : List Value} (ev : Obj) {cs : Array Value} (hi : w2.heap[ib]? = some (.cells cs 31)) (hrow : w2.ownsRow base 41 10 v n xs) (h34 : (w2.alloc ev).drew.grownBy w4 v.ownBlock) (h45 : w4.grownBy w5 (some mb)) (hne : ib ≠ mb) : w5.heap[ib]? = some (.cells cs 31) := by
  have h1 : (w2.alloc ev).drew.heap[ib]? = some (.cells cs 31) := blk_kept (World.grownBy_alloc w2 ev none) hi (by simp)
  refine blk_kept h45 (blk_kept h34 h1 (fun e => ?_)) (by simpa using hne)
  rcases hrow.2 with ⟨rfl, _⟩ | ⟨g, cap, cur, rfl, _, hg, _⟩
  · simp [Value.ownBlock] at e
  · simp [Value.ownBlock] at e
    subst e
    rw [hi] at hg
    simp at hg
theorem SInv.val {w0 wr : World} {B i : Nat} {pv : Value} {D : DataW Value} {T : Lit → List Int} (h : SInv w0 wr B i pv D T) (hi : i ≤ 1024) : -1048576 ≤ tot (val_ T) D ∧ tot (val_ T) D ≤ 206154235904 := by
  have hG := Good.of_owns h.own law9
  have hsz := h.own.size_le
  have hb := tot_bounds hG (f := val_ T) (lo := -1024) (hi := 201322496) (fun es _ p _ => by
    have h1 := sumL_bounds (T p.1) (h.bnd p.1)
    have h2 := h.max p.1
    unfold val_; omega)
  omega

set_option maxRecDepth 100000 in
set_option maxHeartbeats 1000000 in
theorem sums_walk (ao : Option Addr) (N q : Nat) (w : World) (b off : Nat) (hao : 0 < N → ao = some ⟨b, off, none⟩) (hN : N ≤ 1024) (hq : N ≤ q) (hq2 : q ≤ 9223372036854775807) (hI : ∀ i, i < N → ∃ k a0 a1 a2, ItemAt w b (off + i * 4) k a0 a1 a2) (hbb : 0 < N → b < w.heap.size) :
    Calls Yba.prog 3 #[.slice ao N q] w fun e w' => e = .returned (.bool true) ∧ Below w.heap.size w w' := by
  have h1 : ¬ (1024 : Int) < N := by omega
  have hmm := @run_makeMap Yba.prog
  go_enter Yba.func3, Yba.ntmps3
  go_wp2_with fail
  go_loopw [5, 25] (fun v i wr => ∃ (j : Nat) (D : DataW Value) (T : Lit → List Int), j ≤ N ∧ i = .int .i64 j ∧ v = .int .i64 (tot (val_ T) D) ∧ SInv w wr w.heap.size j (.slice (some ⟨w.heap.size + 1, 0, none⟩) 3 3) D T) (fun _ i _ => N - (intOf i).toNat)
  case atStart => exact ⟨0, _, _, Nat.zero_le _, rfl, rfl, SInv.start w⟩
  case round =>
    obtain ⟨j, D, T, hj, rfl, rfl, inv⟩ := hrel
    have INV : Hid _ := inv
    clear inv
    by_cases hlt : (j : Int) < N
    · obtain ⟨k, a0, a1, a2, hr, hk, ha0, ha1, ha2⟩ := hI j (by omega)
      obtain rfl := hao (by omega)
      have hrr := range_below INV.out.below hr (hbb (by omega))
      go_upto_region 9 with (refine wpList_var (by rfl) (by rfl) (by rfl) 31 (.tmp 27) (.tmp 7) (.tmp 28) (by rfl) (by rfl) (by rfl) b (off + j * 4) [.int .u8 (k : Int), .int .u16 (a0 : Int), .int .u16 (a1 : Int), .int .u16 (a2 : Int)] (by rfl) _ hrr Yba.underlying31 (by rfl) Yba.var31 (by simp [Value.oneCell']) (by rfl) (by rfl) ?_)
      have hk4 := heap_alloc_new wr (.cells (List.toArray [.int .u8 (k : Int), .int .u16 (a0 : Int), .int .u16 (a1 : Int), .int .u16 (a2 : Int)]) 31)
      have hb4 : Below wr.heap.size wr (wr.alloc (.cells (List.toArray [.int .u8 (k : Int), .int .u16 (a0 : Int), .int .u16 (a1 : Int), .int .u16 (a2 : Int)]) 31)) := (Below.refl _ _).alloc (Nat.le_refl _) _
      have hs4 : (wr.alloc (.cells (List.toArray [.int .u8 (k : Int), .int .u16 (a0 : Int), .int .u16 (a1 : Int), .int .u16 (a2 : Int)]) 31)).heap.size = wr.heap.size + 1 := by simp
      generalize wr.alloc (.cells (List.toArray [.int .u8 (k : Int), .int .u16 (a0 : Int), .int .u16 (a1 : Int), .int .u16 (a2 : Int)]) 31) = w4 at hk4 hb4 hs4 ⊢
      have HK4 : Hid _ := hk4
      have HB4 : Hid _ := hb4
      have hib := INV.out.lt
      have HN4 : Hid _ := (INV.out.kept hb4).names
      have c0 := blk_cell hk4 0
      have c1 := blk_cell hk4 1
      have c2 := blk_cell hk4 2
      have c3 := blk_cell hk4 3
      simp only [List.getElem?_toArray, List.getElem?_cons_zero, List.getElem?_cons_succ] at c0 c1 c2 c3
      have hk3 : Int.tmod (k : Int) 3 = ((k % 3 : Nat) : Int) := by rw [Int.tmod_eq_emod_of_nonneg (by omega)]; omega
      have hk3l : k % 3 < 3 := by omega
      have cn := kb_cells w4 w.heap.size HN4.out (k % 3) hk3l
      generalize k % 3 = m at *
      clear hk4 hb4 hrr hI
      generalize hIB : wr.heap.size = ib at *
      have HIB : Hid _ := hIB
      clear hIB
      go_wp2_with fail
      go_loopw [11] (fun v w2 => ∃ l : Nat, l ≤ 3 ∧ v = .int .i64 l ∧ InS w2 (ib + 1) l (sumL ((([a0, a1, a2] : List Nat).take l).map (fun x : Nat => (x : Int)))) ∧ Below ib wr w2 ∧ w2.heap[ib]? = some (.cells (List.toArray [.int .u8 (k : Int), .int .u16 (a0 : Int), .int .u16 (a1 : Int), .int .u16 (a2 : Int)]) 31) ∧ w2.heap[ib + 2]? = some (.cells #[.int .u16 (a0 : Int), .int .u16 (a1 : Int), .int .u16 (a2 : Int)] 34)) (fun v _ => 3 - (intOf v).toNat)
      case atStart =>
        refine ⟨0, Nat.zero_le _, rfl, ?_, ?_, ?_, ?_⟩
        · have := (InS.made w4).kept ((Below.refl _ _).alloc (Nat.le_refl _) (.cells #[.int .u16 (a0 : Int), .int .u16 (a1 : Int), .int .u16 (a2 : Int)] 34))
          rw [hs4] at this
          exact this
        · exact (HB4.out.alloc (by omega) _).alloc (by simp; omega) _
        · exact blk_kept (World.grownBy_alloc _ _ none) (blk_kept (World.grownBy_alloc _ _ none) HK4.out (by simp)) (by simp)
        · have := heap_alloc_new (w4.alloc (.map #[] 0)) (.cells #[.int .u16 (a0 : Int), .int .u16 (a1 : Int), .int .u16 (a2 : Int)] 34)
          simp only [World.size_alloc, hs4] at this
          exact this
      case round =>
        obtain ⟨l, hl, rfl, hin, hb2, hi2, hv2⟩ := hrel
        have hb2' := hb2
        rw [← HIB.out] at hb2'
        have HIK : Hid _ := INV.out.kept hb2'
        have HIN : Hid _ := hin
        have HB2 : Hid _ := hb2
        have HI2 : Hid _ := hi2
        have HV2 : Hid _ := hv2
        clear hin hb2 hb2' hi2 hv2 c0 c1 c2 c3 cn
        by_cases hl3 : (l : Int) < 3
        · obtain ⟨a, cv, ha, hsum⟩ := val_at (l := l) (by omega) ha0 ha1 ha2 (show wr.heap[ib + 1 + 1]? = _ from HV2.out)
          have HS : Hid _ := hsum
          clear hsum
          have hsz2 := InS.lt HIN.out
          by_cases haz : (a : Int) = 0
          · go_wp2_with fail
            go_roundw
            case rel => exact ⟨l + 1, by omega, by go_num, by rw [HS.out, haz, Int.add_zero]; exact InS.skip HIN.out, HB2.out, HI2.out, HV2.out⟩
            case measure => simp [intOf]; omega
          · have cn := kb_cells wr w.heap.size HIK.out.names l (by omega)
            obtain ⟨w3, hrun, hin3, hg3⟩ := InS.put (a := (a : Int)) (InS.kept HIN.out (Below.refl _ wr).drew) (by omega) (by omega)
            have cn3 := kb_cells w3 w.heap.size (blk_kept hg3 (show wr.drew.heap[w.heap.size]? = _ from HIK.out.names) (by simp; omega)) l (by omega)
            have HV3 : Hid _ := blk_kept hg3 (show wr.drew.heap[ib + 2]? = _ from HV2.out) (by simp)
            have HI3 : Hid _ := blk_kept hg3 (show wr.drew.heap[ib]? = _ from HI2.out) (by simp)
            have cv3 : w3.cell? ⟨ib + 1 + 1, l, none⟩ = some (.int .u16 (a : Int)) := by
              rw [← cv]
              exact World.cell?_of_block (hg3.block (ib + 1 + 1) (Array.getElem?_eq_some_iff.1 (show wr.drew.heap[ib + 2]? = _ from HV2.out)).1 (by simp))
            have HB3 : Hid _ := HB2.out.drew.grown hg3 (show ib ≤ wr.heap.size by omega) (fun k hk => by cases hk; omega)
            have HIN3 : Hid _ := hin3
            clear hin3 hg3
            have hwr : IntKind.u64.wrap (a : Int) = (a : Int) := IntWalk.u64_in _ (by omega)
            go_upto_region 16 with fail
            go_region_held3 (fun w' => w'.cell? ⟨w.heap.size, l, none⟩ = some (.string (kb l)) ∧ w'.cell? ⟨ib + 1 + 1, l, none⟩ = some (.int .u16 (a : Int)))
              (first | exact ⟨cn3, cv3⟩ | exact ⟨cn, cv⟩)
              (fail)
            go_wp2_with fail
            go_roundw
            case rel => exact ⟨l + 1, by omega, by go_num, by rw [HS.out]; exact HIN3.out, HB3.out, HI3.out, HV3.out⟩
            case measure => simp [intOf]; omega
        · obtain rfl : l = 3 := by omega
          have hst := InS.stamp HIN.out (show w.heap.size + 2 < ib + 1 by omega)
          rw [show sumL ((([a0, a1, a2] : List Nat).take 3).map (fun x : Nat => (x : Int))) = (a0 : Int) + a1 + a2 by simp [sumL]; omega] at hst
          have HST : Hid (Stamp wr (w.heap.size + 2) (ib + 1) ((a0 : Int) + a1 + a2 - 1)) := hst
          clear hst
          obtain ⟨v, hat, ⟨aoV, cpV, xs, rfl, hown, hel⟩, hap, hhas⟩ := HIK.out.look (kn m)
          have hcl : wr.cell? ⟨w.heap.size + 1 + 1 + 1, 1, none⟩ = some (.map (some (w.heap.size + 1 + 1))) := blk_cell HIK.out.log 1
          have hl1 := look_run (HIK.out.own.drew) hat
          have HMX : Hid _ := HIK.out.max (kn m)
          have HEV : Hid _ := And.intro hown (And.intro hel (And.intro hap hhas))
          have HAT : Hid _ := hat
          clear hown hel hap hhas hat
          generalize hn : (T (kn m)).length = n at *
          have HN : Hid _ := hn
          clear hn
          have hnb : n ≤ 1024 := by have := HMX.out; omega
          have hwn : IntKind.u64.wrap (n : Int) = (n : Int) := IntWalk.u64_in _ (by omega)
          have hsz2 := InS.lt HIN.out
          obtain ⟨i0, hi0, hz0, hz1, hz2⟩ := info_parts Yba.info41
          have hl2 := look_run (mb := w.heap.size + 1 + 1) ((HIK.out.own.alloc (.cells #[.string (kb m), .int .u64 (IntKind.u64.wrap ((n : Int) + 1)), .map (some (ib + 1)), .string ⟨#[]⟩, .string ⟨#[]⟩, .int .i64 0, .int .u64 0, .pointer none, .int .u32 0, .int .u32 0] 41)).drew) HAT.out
          have hcl2 : (wr.alloc (.cells #[.string (kb m), .int .u64 (IntKind.u64.wrap ((n : Int) + 1)), .map (some (ib + 1)), .string ⟨#[]⟩, .string ⟨#[]⟩, .int .i64 0, .int .u64 0, .pointer none, .int .u32 0, .int .u32 0] 41)).drew.cell? ⟨w.heap.size + 1 + 1 + 1, 1, none⟩ = some (.map (some (w.heap.size + 1 + 1))) := World.grownBy.cell (World.grownBy_alloc wr _ none) hcl (by simp)
          go_upto_region 17 with fail
          go_region_held3 (fun w' => w'.cell? ⟨w.heap.size + 1 + 1 + 1, 1, none⟩ = some (.map (some (w.heap.size + 1 + 1))))
            (first | exact hcl | exact hcl2 | exact hcl4 | exact hcl5)
            ((refine step_append_lies _ (by rfl) _ _ _ (by rfl) (w.heap.size + 4) 41 i0 _ 10 96 Yba.underlying36 hi0 hz0 hz1 hz2 rfl (by omega) (.slice aoV n cpV) n xs (by rfl) ((HEV.out.1.alloc _).drew) ⟨wr.heap.size, 0, none⟩ 1 1 (evCells (kb m) (IntKind.u64.wrap ((n : Int) + 1)) (ib + 1)) (by rfl) (by rfl) (World.news_of_block (cs := (evCells (kb m) (IntKind.u64.wrap ((n : Int) + 1)) (ib + 1)).toArray) (t := 41) (fr := (0, 0)) (heap_alloc_new wr _)) (by simp [evCells, Value.oneCell']) (by omega) (by unfold maxLen; omega) (by omega) (by simp; omega) (wr.heap.size + 1) (by simp) ?_; intro g cap w1 hown1 hgrow hat1 hlt1; have HGR : Hid _ := hgrow; have HOW : Hid _ := hown1; have HAT1 : Hid _ := hat1; obtain ⟨w5, hu, hm5, hg5⟩ := upd (m := m) (g := g) (N := n + 1) (cap := cap) _ HIK.out.own HEV.out.1 (by omega) hgrow (by unfold maxLen; omega); obtain ⟨hcl4, hcl5⟩ := cellK (mb := w.heap.size + 2) _ hcl HEV.out.1 (by omega) (by omega) hgrow hg5; have HM5 : Hid _ := hm5; have HG5 : Hid _ := hg5; clear hgrow hown1 hat1 hm5 hg5))
          all_goals
            have hnx := SInv.nxt _ HIK.out (kn m) (kn_key m) HN.out HEV.out HGR.out HG5.out HAT1.out HST.out HOW.out HM5.out (by omega)
            have hc5 := item_kept _ HI2.out HEV.out.1 HGR.out HG5.out (by omega)
            have c1 := blk_cell hc5 1
            have c2 := blk_cell hc5 2
            have c3 := blk_cell hc5 3
            simp only [List.getElem?_toArray, List.getElem?_cons_zero, List.getElem?_cons_succ] at c1 c2 c3
            have hSb := HIK.out.val (by omega)
            have HNX : Hid _ := hnx
            clear hnx hc5 hu hcl4 hcl5 hcl hcl2 hl1 hl2
            generalize hSe : tot (val_ T) D = S at *
            have HSE : Hid _ := hSe
            clear hSe
            go_wp2_with fail
            go_roundw
            case rel => exact ⟨j + 1, _, _, by omega, by go_num, by rw [HNX.out.2], HNX.out.1⟩
            case measure => simp [intOf]; omega
    · obtain rfl : j = N := by omega
      have hcl : wr.cell? ⟨w.heap.size + 1 + 1 + 1, 1, none⟩ = some (.map (some (w.heap.size + 1 + 1))) := blk_cell INV.out.log 1
      have hlt := INV.out.lt
      have hcnt := INV.out.cnt
      go_wp2_with fail
      refine (count_any (w.heap.size + 1 + 1 + 1) (w.heap.size + 1 + 1) j (.bool true) D T wr hcl (by omega) (INV.out.evs hN) (fun kl t ht => by have := INV.out.bnd kl t ht; omega) (by rw [hcnt]; omega) (by omega)).mono ?_
      rintro e w9 ⟨rfl, hb9⟩
      rw [hcnt]
      have hSb := INV.out.val hN
      have hP := prod_ok (j : Int) (by omega) (by omega)
      have HBF : Hid _ := INV.out.below.trans (hb9.mono (by omega))
      clear hb9 hcnt hcl
      generalize tot (val_ T) D = S at *
      go_wp2_with fail
      go_ret
      exact ⟨rfl, HBF.out⟩
end Go.Proofs.Ybulkgly
