import Derived.Test.YbulkgkwDoorApp
namespace Go.Proofs.YbulkgkwDoor
open Go.RowKit
set_option linter.unusedVariables false

theorem St.grown {w0 w1 : World} {base : Nat} {ao0 : Option Addr} {cap0 lo hi : Nat} {w : World} {ao : Option Addr} {n cap : Nat} {xs : List Int} (h : St w0 w1 base ao0 cap0 lo hi w ao n cap xs) {w' : World} (hg : w.grownBy w' none) : St w0 w1 base ao0 cap0 lo hi w' ao n cap xs :=
  ⟨h.own.grown hg, h.step.trans (Step.of_grown hg ao n cap) (Nat.le_refl _), h.apart, Nat.le_trans h.size hg.size, h.low, fun b h1 h2 => (hg.block b (by have := h.size; omega) (by simp)).trans (h.kept b h1 h2)⟩
theorem St.alloc {w0 w1 : World} {base : Nat} {ao0 : Option Addr} {cap0 lo hi : Nat} {w : World} {ao : Option Addr} {n cap : Nat} {xs : List Int} (h : St w0 w1 base ao0 cap0 lo hi w ao n cap xs) (o : Obj) : St w0 w1 base ao0 cap0 lo hi (w.alloc o) ao n cap xs := h.grown (alloc1 w o)
/-- The new length's bound, behind an append of k elements. -/
theorem St.lenle {w0 w1 : World} {base : Nat} {ao0 : Option Addr} {cap0 lo hi : Nat} {w w' : World} {ao ao' : Option Addr} {n cap n' cap' k : Nat} {xs ys : List Int} (h : St w0 w1 base ao0 cap0 lo hi w ao n cap xs) (h' : St w0 w1 base ao0 cap0 lo hi w' ao' n' cap' (xs ++ ys)) (hk : ys.length ≤ k) : n' ≤ n + k := by
  rw [h'.len, h.own.len]; omega

set_option maxHeartbeats 400000 in
theorem crec_any (base : Nat) (ao : Option Addr) (n cap : Nat) (xs : List Int) (ks : List Int) (bo : Option Addr) (m c : Nat) (ys : List Int) (p : Int) (s : Bool) (w : World)
    (h : Own base w ao n cap xs) (hb : base ≤ w.heap.size) (hn : n ≤ 10000000) (hk : ks.length = 16) (hy : Bytes w bo m ys) (hyb : ∀ a, bo = some a → m ≠ 0 → a.block < base) (hm : m ≤ 1024) (h0 : 0 ≤ p) (hp : p < 65536) :
    Calls Ybad.prog 7 #[.slice ao n cap, .agg (bs ks).toArray, .int .u16 p, .bool s, .slice bo m c] w fun e w' => ∃ ao' n' cap', e = .returned (.slice ao' n' cap') ∧ Own base w' ao' n' cap' (xs ++ rcd ks p s ys) ∧ Step w w' ao cap ao' n' cap' := by
  obtain ⟨K, hK⟩ : ∃ K, K = (bs ks).toArray := ⟨_, rfl⟩
  have HK : Hid _ := hK
  rw [← hK]
  clear hK
  have hAb : ∀ a : Addr, bo = some a → m ≠ 0 → some a.block ≠ ao.map (·.block) := (fun a ha hm0 => by
    cases ao with
    | none => simp
    | some a' => simp; have := hyb a ha hm0; have := (h.blk a' rfl).1; omega)
  have hub : (uv m).length ≤ 2 := by unfold uv; split <;> simp
  have hln := h.len
  have st1 : St w (w.alloc (.cells K 23)) base ao cap w.heap.size (w.heap.size + 1) (w.alloc (.cells K 23)) ao n cap xs := ⟨h.alloc _, Step.of_grown (alloc1 w _) ao n cap, fun a ha => .inl (h.blk a ha).2, by simp, hb, fun _ _ _ => rfl⟩
  have hkb : Bytes (w.alloc (.cells K 23)) (some ⟨w.heap.size, 0, none⟩) 16 ks := by rw [HK.out, ← hk]; exact bytes_alloc w ks 23
  have hz1 : base ≤ (w.alloc (.cells K 23)).heap.size := st1.base (by omega)
  cases s
  all_goals
    go_enter Ybad.func7, Ybad.ntmps7
    go_wp2_with (first
      | (at_builtin; refine wpList_app (by rfl) (.tmp 11) (.tmp 12) (by rfl) base (by rfl) st1.own (by rfl) hkb (by omega) hz1 ?_; intro ao2 n2 cap2 w2 ho2 hst2; have st2 := st1.next ho2 hst2; have hb2 : n2 ≤ 10000016 := (by have := st1.lenle st2 (k := 16) (by omega); omega); clear ho2 hst2)
      | (at_builtin; refine wpList_app (by rfl) (.tmp 14) (.tmp 20) (by rfl) base (by rfl) (st2.alloc _).own (by rfl) (bytes_three _ _ _ _ _) (by omega) ((st2.alloc _).base (by omega)) ?_; intro ao3 n3 cap3 w3 ho3 hst3; have st3 := (st2.alloc _).next ho3 hst3; have hb3 : n3 ≤ 10000019 := (by have := st2.lenle st3 (k := 3) (by exact Nat.le_refl _); omega); clear ho3 hst3)
      | (at_builtin; refine wpList_app (by rfl) (.tmp 23) (.tmp 24) (by rfl) base (by rfl) (st3.alloc _).own (by rfl) (bytes_one _ _ _) (by omega) ((st3.alloc _).base (by omega)) ?_; intro ao4 n4 cap4 w4 ho4 hst4; have st4 := (st3.alloc _).next ho4 hst4; have hb4 : n4 ≤ 10000020 := (by have := st3.lenle st4 (k := 1) (by exact Nat.le_refl _); omega); clear ho4 hst4)
      | (at_builtin; refine wpList_app (by rfl) (.tmp 26) (.tmp 27) (by rfl) base (by rfl) (st3.alloc _).own (by rfl) (bytes_one _ _ _) (by omega) ((st3.alloc _).base (by omega)) ?_; intro ao4 n4 cap4 w4 ho4 hst4; have st4 := (st3.alloc _).next ho4 hst4; have hb4 : n4 ≤ 10000020 := (by have := st3.lenle st4 (k := 1) (by exact Nat.le_refl _); omega); clear ho4 hst4))
    refine (uvarint_any base ao4 n4 cap4 _ m w4 st4.own (st4.base (by omega)) (by omega) (by omega) (by omega)).mono ?_
    rintro e w5 ⟨ao5, n5, cap5, rfl, ho5, hst5⟩
    have st5 := st4.next ho5 hst5
    have hb5 : n5 ≤ 10000022 := (by have := st4.lenle st5 (k := 2) hub; omega)
    clear ho5 hst5
    have hy5 := st5.bytes hy hAb
    go_wp2_with (at_builtin; refine wpList_app (by rfl) (.tmp 34) (.tmp 35) (by rfl) base (by rfl) st5.own (by rfl) hy5 (by omega) (st5.base (by omega)) ?_; intro ao6 n6 cap6 w6 ho6 hst6)
    have st6 := st5.next ho6 hst6
    go_ret
    refine ⟨ao6, n6, cap6, rfl, ?_, st6.step⟩
    have e := st6.own
    simpa [rcd, ep, hy.len, List.append_assoc] using e
end Go.Proofs.YbulkgkwDoor
