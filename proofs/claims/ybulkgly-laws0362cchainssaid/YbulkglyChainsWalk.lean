import Derived.Test.YbulkglyMid
import Derived.Deep.Cut
namespace Go.Proofs.Ybulkgly
open Go.RowKit Go.Maps
set_option linter.unusedVariables false

theorem Yba.info41' : (Yba.prog.info? 41).map (fun i => (i.zero, i.size, i.bytes)) = some (some (.agg #[.string ByteArray.empty, .int .u64 0, .map none, .string ByteArray.empty, .string ByteArray.empty, .int .i64 0, .int .u64 0, .pointer none, .int .u32 0, .int .u32 0]), 10, 96) := by kernel_rfl

theorem Yba.size41 : (Yba.prog.info? 41).map (·.size) = some 10 := by kernel_rfl
theorem kk_ok (k : Nat) (h : k ≤ 255) : 0 ≤ (k : Int) * ((k : Int) - 1) ∧ (k : Int) * ((k : Int) - 1) ≤ 64770 := by
  by_cases h0 : k = 0
  · subst h0; simp
  · have h2 : 0 ≤ (k : Int) * ((k : Int) - 1) := Int.mul_nonneg (by omega) (by omega)
    have h3 : (k : Int) * ((k : Int) - 1) ≤ 255 * 254 := Int.mul_le_mul (by omega) (by omega) (by omega) (by omega)
    omega

set_option maxRecDepth 100000 in
set_option maxHeartbeats 1000000 in
theorem chains_walk (ao : Option Addr) (N q : Nat) (w : World) (b off : Nat) (hao : 0 < N → ao = some ⟨b, off, none⟩) (hN : N ≤ 256) (hq : N ≤ q) (hq2 : q ≤ 9223372036854775807) (hI : ∀ i, i < N → ∃ k : Nat, w.cell? ⟨b, off + i, none⟩ = some (.int .u8 (k : Int)) ∧ k ≤ 255) (hbb : 0 < N → b < w.heap.size) :
    Calls Yba.prog 4 #[.slice ao N q] w fun e w' => e = .returned (.bool true) ∧ Below w.heap.size w w' := by
  have h1 : ¬ (256 : Int) < N := by omega
  have hmm := @run_makeMap Yba.prog
  go_enter Yba.func4, Yba.ntmps4
  go_wp2_with fail
  go_loopw [4, 5, 22] (fun u v i wr => ∃ (j : Nat) (pv : Value) (D : DataW Value) (T : Lit → List Int), j ≤ N ∧ i = .int .i64 j ∧ u = .int .i64 (tot (val_ T) D) ∧ v = .int .i64 (tot (cnt_ T) D) ∧ CInv w wr w.heap.size j pv D T ∧ (0 ≤ tot (val_ T) D ∧ tot (val_ T) D ≤ 32385 * j ∧ 0 ≤ tot (cnt_ T) D ∧ tot (cnt_ T) D ≤ 255 * j)) (fun _ _ i _ => N - (intOf i).toNat)
  case atStart => exact ⟨0, _, _, _, Nat.zero_le _, rfl, rfl, rfl, CInv.start w, by simp [tot, totL]⟩
  case round =>
    obtain ⟨j, pv, D, T, hj, rfl, rfl, rfl, inv, hbd⟩ := hrel
    have INV : Hid _ := inv
    clear inv
    by_cases hlt : (j : Int) < N
    · obtain ⟨k, hc, hk⟩ := hI j (by omega)
      obtain rfl := hao (by omega)
      have hcc := (INV.out.below.cell (p := ⟨b, off + j, none⟩) (hbb (by omega))).trans hc
      go_wp2_with fail
      refine (name_any j (by omega) wr).mono ?_
      rintro e w1 ⟨⟨ds, rfl, hdec, hdl, hdig⟩, hb1⟩
      have HLOG : Hid (w1.heap[w.heap.size + 1]? = some (.cells #[pv, .map (some w.heap.size)] 28)) := (hb1.block _ (Array.getElem?_eq_some_iff.1 INV.out.log).1).trans INV.out.log
      have hl0 : w1.cell? ⟨w.heap.size + 1, 0, none⟩ = some pv := blk_cell HLOG.out 0
      obtain ⟨xs, hrow0⟩ := INV.out.proc
      have HROW : Hid (w1.ownsRow (w.heap.size + 2) 9 1 pv j xs) := hrow0.kept (below_grownBy hb1) (Classical.em _)
      clear hrow0
      obtain ⟨i9, hi9, hy0, hy1, hy2⟩ := info_parts Yba.info9
      have hB1 : w.heap.size + 1 < w1.heap.size := (Array.getElem?_eq_some_iff.1 HLOG.out).1
      have HB1 : Hid (Below wr.heap.size wr w1) := hb1
      clear hb1
      go_upto_region 9 with fail
      go_upto_region 10 with (at_builtin; go_loud (refine wpList_append_own_at _ rfl _ _ 25 rfl (w.heap.size + 2) 9 i9 _ 1 16 Yba.underlying25 hi9 hy0 hy1 hy2 rfl (by decide) pv j xs rfl (World.ownsRow.alloc HROW.out _) ⟨w1.heap.size, 0, none⟩ 1 1 [.string (text ds)] rfl rfl (cell_one_new _ _ _) (by simp [Value.oneCell']) (by unfold maxLen; omega) (by omega) (by simp; omega) ?_; intro pv' w2 hown2 hgr2 hnil2 hat2; obtain ⟨gg, cp, rfl⟩ := row_form hown2; have HMID : Hid _ := Mid.of INV.out HB1.out HROW.out hgr2 hown2 hat2; have hlg2 := log_kept HLOG.out HROW.out hgr2; have hc2 := blk_cell hlg2 0; have hf2 : w2.frozen? ⟨w.heap.size + 1, 0, none⟩ = false := (by simp [World.frozen?, hlg2]); clear hown2 hgr2 hnil2 hat2 hlg2))
      generalize w2.setCell ⟨w.heap.size + 1, 0, none⟩ (.slice (some ⟨gg, 0, none⟩) (j + 1) cp) = w3 at *
      clear hc2 hf2 hl0 hcc
      have HMI : Hid (Mid w wr w3 w.heap.size j (.slice (some ⟨gg, 0, none⟩) (j + 1) cp) D) := HMID.out
      clear HMID HROW HLOG HB1
      obtain ⟨i0, hi0, hz0, hz1, hz2⟩ := info_parts Yba.info41'
      go_wp2_with (at_make; refine wpList_make_full _ rfl _ _ 36 rfl 0 41 i0 _ 10 Yba.underlying36 hi0 hz0 hz1 .i64 .i64 _ _ k rfl rfl rfl rfl (by rw [hz2]; omega) (by unfold maxLen; omega) (Nat.zero_le _) ?_; intro w4 hown4 hgr4; have HIN4 : Hid (Inn w4 w.heap.size w3.heap.size k 0) := Inn.made hown4; have HB4 : Hid (Below w3.heap.size w3 w4) := (Below.refl _ _).grown hgr4 (Nat.le_refl _) (fun k hk => by cases hk); clear hown4 hgr4)
      have hB3 : w.heap.size + 1 < w3.heap.size := HMI.out.lt
      generalize hgE : w3.heap.size = g at *
      have HGE : Hid (w3.heap.size = g) := hgE
      clear hgE
      go_loopw [11] (fun i w5 => ∃ l : Nat, l ≤ k ∧ i = .int .i64 l ∧ Inn w5 w.heap.size g k l ∧ Below g w3 w5) (fun i _ => k - (intOf i).toNat)
      case atStart => exact ⟨0, Nat.zero_le _, rfl, HIN4.out, HB4.out⟩
      case round =>
        obtain ⟨l, hl, rfl, hin, hb5⟩ := hrel
        have HIN : Hid (Inn wr w.heap.size g k l) := hin
        have HB5 : Hid (Below g w3 wr) := hb5
        have hgs : g < wr.heap.size := by obtain ⟨cur, e, _⟩ := hin.row; exact (Array.getElem?_eq_some_iff.1 e).1
        clear hin hb5
        by_cases hlk : (l : Int) < k
        · obtain ⟨w6, hrun, ⟨D6, ho6, hD6⟩, hb6⟩ := ins wr ds hdl ((l : Int) + 1)
          have hwl : IntKind.u64.wrap ((l : Int) + 1) = (l : Int) + 1 := IntWalk.u64_in _ (by omega)
          have hth := (HIN.out.below hb6).there l (by omega)
          have HST : Hid (Inn (w6.setCells g (l * 10) (evCells (text ds) ((l : Int) + 1) wr.heap.size)) w.heap.size g k (l + 1)) := HIN.out.step (by omega) hk ho6 hD6 rfl (by omega) hb6 _ _
          have HB6 : Hid (Below g w3 (w6.setCells g (l * 10) (evCells (text ds) ((l : Int) + 1) wr.heap.size))) := (HB5.out.trans (hb6.mono (by omega))).grown (setCells_grown g _ _ _) (by have := hb6.size; omega) (fun k' hk' => by cases hk'; exact Nat.le_refl _)
          clear ho6 hD6 hb6
          go_wp2_with (refine wpList_store_mid (rest := []) (op := ⟨none, .store 41 (.tmp 61) (.tmp 60), 0, _, _, none⟩) rfl 41 (.tmp 61) (.tmp 60) rfl g (l * 10) (evCells (text ds) ((l : Int) + 1) wr.heap.size).toArray ?A1 ?A2 hth Yba.size41 (all_oneCell_toArray (by simp [evCells, Value.oneCell'])) ?_)
          case A1 => rfl
          case A2 =>
            simp only [Act.eval]
            refine Eq.trans (b := Value.agg #[_, _, _, _, _, _, _, _, _, _]) rfl ?_
            rfl
          go_roundw
          case rel => exact ⟨l + 1, by omega, by go_num, HST.out, HB6.out⟩
          case measure => simp [intOf]; omega
        · obtain rfl : l = k := by omega
          have hb5 := HB5.out
          rw [← HGE.out] at hb5
          have hmid := HMI.out.kept hb5
          have hcl : wr.cell? ⟨w.heap.size + 1, 1, none⟩ = some (.map (some w.heap.size)) := blk_cell hmid.log 1
          obtain ⟨w7, D', T', hrun, hinv, ht1, ht2⟩ := hmid.last INV.out (by omega) hdec hdig hdl hk HIN.out (by omega)
          have hkk := kk_ok l hk
          have HNX : Hid (CInv w w7 w.heap.size (j + 1) (.slice (some ⟨gg, 0, none⟩) (j + 1) cp) D' T' ∧ tot (val_ T') D' = tot (val_ T) D + (l : Int) * ((l : Int) - 1) / 2 ∧ tot (cnt_ T') D' = tot (cnt_ T) D + l) := ⟨hinv, ht1, ht2⟩
          clear hinv ht1 ht2 hmid hb5
          generalize hSe : tot (val_ T) D = S at *
          generalize hCe : tot (cnt_ T) D = C at *
          generalize hPe : (l : Int) * ((l : Int) - 1) = PP at *
          have HSE : Hid _ := hSe
          have HCE : Hid _ := hCe
          have htd : Int.tdiv PP 2 = PP / 2 := Int.tdiv_eq_ediv_of_nonneg (by omega)
          clear hSe hCe
          go_wp2_with fail
          go_roundw
          case rel =>
            obtain ⟨h1', h2', h3'⟩ := HNX.out
            exact ⟨j + 1, _, D', T', by omega, by go_num, by rw [h2'], by rw [h3'], h1', by omega⟩
          case measure => simp [intOf]; omega
    · obtain rfl : j = N := by omega
      have hcl : wr.cell? ⟨w.heap.size + 1, 1, none⟩ = some (.map (some w.heap.size)) := blk_cell INV.out.log 1
      have hlt : w.heap.size + 1 < wr.heap.size := (Array.getElem?_eq_some_iff.1 INV.out.log).1
      go_wp2_with fail
      refine (count_any (w.heap.size + 1) w.heap.size j pv D T wr hcl (by omega) (INV.out.evs hN) (fun kl t ht => by have := INV.out.bnd kl t ht; omega) (by omega) (by omega)).mono ?_
      rintro e w9 ⟨rfl, hb9⟩
      have hP := prod_ok (tot (cnt_ T) D) (by omega) (by omega)
      have HBF : Hid (Below w.heap.size w w9) := INV.out.below.trans (hb9.mono (by omega))
      clear hb9 hcl INV
      generalize tot (val_ T) D = S at *
      generalize tot (cnt_ T) D = C at *
      generalize hPe : C * (C - 1) = PP at *
      have htd : Int.tdiv PP 2 = PP / 2 := Int.tdiv_eq_ediv_of_nonneg (by omega)
      go_wp2_with fail
      go_ret
      exact ⟨rfl, HBF.out⟩
end Go.Proofs.Ybulkgly
