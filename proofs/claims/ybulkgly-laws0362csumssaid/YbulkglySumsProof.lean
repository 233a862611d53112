/-
  'Rows.LawS0362CSumsSaid', proved: the row by the walk.
-/
import Derived.Test.YbulkglySums
import Derived.ProofKit
import Derived.OpenShut
import Derived.ShutString
import Derived.ChangeOld
import Derived.Below
import Derived.Deep.Slices
namespace Go.Proofs.Ybulkgly.lawS0362CSums
open Go.ChangeShapes Go.WideShapes Go.ChangeAt Go.RowKit Go.Deep
set_option linter.unusedVariables false

theorem own : ownKnob Yba.prog.godebug = none := by kernel_rfl
theorem laidOut : laidOutB Yba.prog = true := by kernel_rfl

theorem item_of {H : Type} {enc : TypeId × Value → H} {W : World} {n : Nat} {b o : Nat} {cs : List Value} {x : DataW H × List MemPlace} (hr : W.rangeAt b o cs) (hf : DataW.trod enc Yba.prog W 0 (fun _ => true) true n 31 cs = some x) : ∃ k a0 a1 a2, ItemAt W b o k a0 a1 a2 := by
  have c31 : Yba.prog.cellsOf 31 = 4 := by kernel_rfl
  have c5 : Yba.prog.cellsOf 5 = 1 := by kernel_rfl
  have c29 : Yba.prog.cellsOf 29 = 1 := by kernel_rfl
  obtain ⟨xs, m, rfl, _, hl, hx, hel⟩ := DataW.trod_struct Yba.underlying31 hf
  rw [c31] at hl
  have hx4 : xs.length = 4 := hx
  have g0 : DataW.trod enc Yba.prog W 0 (fun _ => true) true m 5 ((cs.drop 0).take (Yba.prog.cellsOf 5)) = xs[0]? := hel 0 _ rfl
  have g1 : DataW.trod enc Yba.prog W 0 (fun _ => true) true m 29 ((cs.drop 1).take (Yba.prog.cellsOf 29)) = xs[1]? := hel 1 _ rfl
  have g2 : DataW.trod enc Yba.prog W 0 (fun _ => true) true m 29 ((cs.drop 2).take (Yba.prog.cellsOf 29)) = xs[2]? := hel 2 _ rfl
  have g3 : DataW.trod enc Yba.prog W 0 (fun _ => true) true m 29 ((cs.drop 3).take (Yba.prog.cellsOf 29)) = xs[3]? := hel 3 _ rfl
  rw [c5, List.getElem?_eq_getElem (by omega)] at g0
  rw [c29, List.getElem?_eq_getElem (by omega)] at g1 g2 g3
  match cs, hl with
  | [v0, v1, v2, v3], _ =>
    obtain ⟨k, f0, _, w0⟩ := DataW.trod_int Yba.underlying5 g0
    obtain ⟨a0, f1, _, w1⟩ := DataW.trod_int Yba.underlying29 g1
    obtain ⟨a1, f2, _, w2⟩ := DataW.trod_int Yba.underlying29 g2
    obtain ⟨a2, f3, _, w3⟩ := DataW.trod_int Yba.underlying29 g3
    simp at f0 f1 f2 f3
    have b0 := bounds_u8 w0
    have b1 := bounds_u16 w1
    have b2 := bounds_u16 w2
    have b3 := bounds_u16 w3
    subst f0 f1 f2 f3
    refine ⟨k.toNat, a0.toNat, a1.toNat, a2.toNat, ?_, by omega, by omega, by omega, by omega⟩
    rw [Int.toNat_of_nonneg (by omega), Int.toNat_of_nonneg (by omega), Int.toNat_of_nonneg (by omega), Int.toNat_of_nonneg (by omega)]
    exact hr

theorem open_items {H : Type} {enc : TypeId × Value → H} {W : World} {base : Nat} {v : Value} {d : DataW H} {p : List MemPlace} (hok : Value.okWide Yba.prog W .any base 22 v) (h : DataW.Trod enc Yba.prog W 0 (fun _ => true) true 22 v d p) :
    ∃ ao N q b off, v = .slice ao N q ∧ (0 < N → ao = some ⟨b, off, none⟩) ∧ N ≤ q ∧ q ≤ 9223372036854775807 ∧ (∀ i, i < N → ∃ k a0 a1 a2, ItemAt W b (off + i * 4) k a0 a1 a2) ∧ (0 < N → b < W.heap.size) := by
  obtain ⟨a2, len2, cap2, rfl⟩ := okWide_slice Yba.underlying22 hok
  have c31 : Yba.prog.cellsOf 31 = 4 := by kernel_rfl
  obtain ⟨fuel, hf⟩ := h
  rcases open_slice Yba.underlying22 hf with ⟨hcs, _⟩ | ⟨a, len, cap, m, n, D, Pl, hcs, _, hl, hm, hmm, _, hel⟩
  · simp [Value.cells] at hcs
    obtain ⟨rfl, rfl, rfl⟩ := hcs
    exact ⟨none, 0, 0, 0, 0, rfl, by omega, by omega, by omega, by omega, by omega⟩
  · simp [Value.cells] at hcs
    obtain ⟨rfl, rfl, rfl⟩ := hcs
    have hmc : m = cap2 := by simpa using hmm
    obtain ⟨b, off, spot⟩ := a
    have hsp : 0 < len2 → spot = none := fun h0 => by
      obtain ⟨cs', h1, _⟩ := hel 0 (by omega)
      obtain ⟨_, hl1, hc1⟩ := World.cells?_some h1
      rw [c31] at hc1 hl1
      have h2 := hc1 0 (by omega)
      rw [List.getElem?_eq_getElem (by omega)] at h2
      simpa [Addr.add] using World.cell?_spot h2
    refine ⟨some ⟨b, off, spot⟩, len2, cap2, b, off, rfl, fun h0 => by rw [hsp h0], hl, by unfold maxLen at hm; omega, fun i hi => ?_, fun h0 => ?_⟩
    · obtain rfl := hsp (by omega)
      obtain ⟨cs', h1, h2⟩ := hel i (by omega)
      obtain ⟨_, hl1, hc1⟩ := World.cells?_some h1
      rw [c31] at hc1 hl1
      refine item_of (fun j v hv => ?_) h2
      have hj : j < 4 := by have := (List.getElem?_eq_some_iff.1 hv).1; omega
      have h3 := hc1 j hj
      rw [Addr.add_lit, Addr.add_lit, hv] at h3
      exact h3
    · obtain rfl := hsp h0
      obtain ⟨cs', h1, _⟩ := hel 0 (by omega)
      obtain ⟨_, hl1, hc1⟩ := World.cells?_some h1
      rw [c31] at hc1 hl1
      have h2 := hc1 0 (by omega)
      rw [List.getElem?_eq_getElem (by omega)] at h2
      have := World.block_lt_of_cell? _ _ h2
      simpa [Addr.add] using this

set_option maxRecDepth 100000 in
set_option maxHeartbeats 400000 in
theorem sums_long (ao : Option Addr) (N q : Nat) (w : World) (h : 1024 < N) : Calls Yba.prog 3 #[.slice ao N q] w fun e w' => e = .returned (.bool true) ∧ Below w.heap.size w w' := by
  have h1 : (1024 : Int) < N := by omega
  go_enter Yba.func3, Yba.ntmps3
  go_wp2_with fail
  go_ret
  exact ⟨rfl, Below.refl _ _⟩

set_option maxRecDepth 100000 in
theorem lifted (os : Os) (started : os.Started) (H : Type) (enc : TypeId × Value → H) :
    ReturnsInHanded {} Yba.checked os 3 .any (Rows.lawS0362CSumsSpec.pre6 enc Yba.prog Yba.f3 Rows.lawS0362CSumsRow.domain false) (Rows.lawS0362CSumsSpec.post enc Yba.prog Yba.f3 false true false false) := by
  refine returnsInHanded_of_change (C := Yba.checked) own started (by kernel_rfl) Yba.func3
    (ChangeSpec.witness6 (enc := enc) (C := Yba.checked) false ⟨#[], #[.slice none 0 0], []⟩ 8 (by kernel_rfl) (by kernel_rfl) (by kernel_rfl) (by kernel_rfl)) ?_
  intro W base args ds gs before hval0 hW hcnd _
  have hval : ∀ (j : Nat) t v, Yba.f3.params[j]? = some t → args[j]? = some v → Value.okWide Yba.prog W .any base t v := hval0
  have hW' := hW
  obtain ⟨p, q, hA0, hV, rfl, hfz, hnd⟩ := hW
  have hA : DataW.TrodAll enc Yba.prog W 0 (fun _ => true) true Yba.f3.params.toList args.toList ds p := hA0
  rw [Yba.params3] at hA hval
  obtain ⟨v0, vs0, d0, ds0, p0, q0, hargs, rfl, rfl, h0, r0⟩ := trodAll_cons hA
  obtain ⟨rfl, rfl, rfl⟩ := trodAll_nil r0
  obtain rfl : args = #[v0] := by cases args; simp_all
  obtain ⟨rfl, rfl⟩ := trodVars_none hV
  have k0 := h0
  have lt0 : ∀ x ∈ p0, x.block < W.heap.size := by obtain ⟨m, hm⟩ := k0; exact DataW.trod_lt m _ _ _ hm
  obtain ⟨ao, N, q, b, off, rfl, hao, hq, hq2, hI, hbb⟩ := open_items (hval 0 22 v0 rfl rfl) h0
  clear hA0 hval0
  have fin : Calls Yba.prog 3 #[.slice ao N q] W fun e w' => e = .returned (.bool true) ∧ Below W.heap.size W w' := by
    by_cases hl : 1024 < N
    · exact sums_long ao N q W hl
    · exact sums_walk ao N q W b off hao (by omega) hq hq2 hI hbb
  refine fin.mono fun e W' ⟨he, bel⟩ => ?_
  subst he
  exact ⟨_, rfl, _, _, _, [], _, [], hW', trodAll_mk1 (shut_bool Yba.underlying4 _), (trodAll_cons_mk (Below.trod laidOut (by kernel_rfl) (of_decide_eq_true (by kernel_rfl)) k0 bel lt0) trodAll_mk0), rfl, bel.frame _, fun h => by cases h⟩

theorem over : Rows.lawS0362CSumsRow.holds Yba.pinned (OpenSpec.ofChange Rows.lawS0362CSumsSpec) :=
  OpenClaim.holds_of_wide 3 Yba.f3 rfl rfl rfl rfl rfl rfl rfl ⟨rfl, rfl, rfl, rfl, rfl⟩ rfl rfl rfl rfl rfl (by kernel_rfl) Yba.func3 (by kernel_rfl)
    (of_decide_eq_true (by kernel_rfl)) (by unfold Func.isWrapper; first | (rw [if_pos (by decide +kernel)]; kernel_rfl) | (rw [if_neg (by decide +kernel)]; exact ⟨rfl, rfl⟩))
    (fun os started H enc _ => lifted os started H enc)

theorem proved : Rows.LawS0362CSumsSaid := over
end Go.Proofs.Ybulkgly.lawS0362CSums
