/-
  'Rows.LawS0360COneCardSaid', proved: the row by the walk, the card by the given tie.
-/
import Derived.Test.YbulkgkwDoorOne
import Derived.Test.YbulkgkwDoorLaid
import Derived.Test.YbulkgkwDoorTie
import Derived.Test.YbulkgkwDoorCards
import Derived.SevenTiedAt
namespace Go.Proofs.YbulkgkwDoor
open Go.ChangeShapes Go.WideShapes Go.ChangeAt Go.WideMaps Go.WideElems Go.RowKit
set_option linter.unusedVariables false

/-- An array of sixteen bytes by value. -/
theorem open_key {H : Type} {enc : TypeId × Value → H} {W : World} {base : Nat} {v : Value} {d : DataW H} {p : List MemPlace} (hok : Value.okWide Ybad.prog W .any base 23 v) (h : DataW.Trod enc Ybad.prog W 0 (fun _ => true) true 23 v d p) :
    ∃ k0 k1 k2 k3 k4 k5 k6 k7 k8 k9 k10 k11 k12 k13 k14 k15 : Int, v = .agg #[.int .u8 k0, .int .u8 k1, .int .u8 k2, .int .u8 k3, .int .u8 k4, .int .u8 k5, .int .u8 k6, .int .u8 k7, .int .u8 k8, .int .u8 k9, .int .u8 k10, .int .u8 k11, .int .u8 k12, .int .u8 k13, .int .u8 k14, .int .u8 k15] := by
  obtain ⟨cs, rfl, hsz, _⟩ : ∃ cs, v = .agg cs ∧ cs.size = Ybad.prog.cellsOf 23 ∧ True := by
    simp only [Value.okWide, Ybad.underlying23] at hok
    obtain ⟨cs, h1, h2, _⟩ := hok
    exact ⟨cs, h1, h2, trivial⟩
  have c23 : Ybad.prog.cellsOf 23 = 16 := by kernel_rfl
  have c5 : Ybad.prog.cellsOf 5 = 1 := by kernel_rfl
  rw [c23] at hsz
  obtain ⟨fuel, hf⟩ := h
  obtain ⟨xs, m, rfl, _, hl, hx, hel⟩ := DataW.trod_array Ybad.underlying23 hf
  have hcell : ∀ i, i < 16 → ∃ k : Int, cs[i]? = some (.int .u8 k) := fun i hi => by
    have h1 := hel i hi
    rw [c5, Nat.mul_one, List.getElem?_eq_getElem (by omega)] at h1
    obtain ⟨k, e1, _, _⟩ := DataW.trod_int Ybad.underlying5 h1
    refine ⟨k, ?_⟩
    have e2 : (List.drop i cs.toList)[0]? = some (.int .u8 k) := by
      have := congrArg (fun l : List Value => l[0]?) e1
      simpa [Value.cells] using this
    simpa using e2
  obtain ⟨l⟩ := cs
  match l, hsz, hcell with
  | [v0, v1, v2, v3, v4, v5, v6, v7, v8, v9, v10, v11, v12, v13, v14, v15], _, hcell =>
    obtain ⟨k0, e0⟩ := hcell 0 (by omega)
    obtain ⟨k1, e1⟩ := hcell 1 (by omega)
    obtain ⟨k2, e2⟩ := hcell 2 (by omega)
    obtain ⟨k3, e3⟩ := hcell 3 (by omega)
    obtain ⟨k4, e4⟩ := hcell 4 (by omega)
    obtain ⟨k5, e5⟩ := hcell 5 (by omega)
    obtain ⟨k6, e6⟩ := hcell 6 (by omega)
    obtain ⟨k7, e7⟩ := hcell 7 (by omega)
    obtain ⟨k8, e8⟩ := hcell 8 (by omega)
    obtain ⟨k9, e9⟩ := hcell 9 (by omega)
    obtain ⟨k10, e10⟩ := hcell 10 (by omega)
    obtain ⟨k11, e11⟩ := hcell 11 (by omega)
    obtain ⟨k12, e12⟩ := hcell 12 (by omega)
    obtain ⟨k13, e13⟩ := hcell 13 (by omega)
    obtain ⟨k14, e14⟩ := hcell 14 (by omega)
    obtain ⟨k15, e15⟩ := hcell 15 (by omega)
    simp at e0 e1 e2 e3 e4 e5 e6 e7 e8 e9 e10 e11 e12 e13 e14 e15
    exact ⟨k0, k1, k2, k3, k4, k5, k6, k7, k8, k9, k10, k11, k12, k13, k14, k15, by rw [e0, e1, e2, e3, e4, e5, e6, e7, e8, e9, e10, e11, e12, e13, e14, e15]⟩

set_option maxRecDepth 100000 in
theorem one_lifted (os : Os) (started : os.Started) (H : Type) (enc : TypeId × Value → H) :
    ReturnsInHanded {} Ybad.checked os 4 .any (fun w args => (Rows.lawS0360COneSpec.pre enc Ybad.prog Ybad.f4 [] false w args ∧ laidMetH Ybad.prog laidL w) ∧ sizedMet enc Ybad.prog Ybad.f4 (OpenSpec.ofChange Rows.lawS0360COneSpec) false w args)
      (Rows.lawS0360COneSpec.post enc Ybad.prog Ybad.f4 false true false false) := by
  refine returnsInHanded_of_change_and (C := Ybad.checked) (X := fun w _ => laidMetH Ybad.prog laidL w) (fun _ _ _ hh h => h.of_heap hh) ownk started (by kernel_rfl) Ybad.func4
    (ChangeSpec.witness_shaped (enc := enc) (C := Ybad.checked) (os := os) (X := fun w _ => laidMetH Ybad.prog laidL w) false (addZ4 (World.settled Ybad.prog os)) #[.slice none 0 0, .int .u8 0, .bool false, .int .u16 0, .agg #[.int .u8 0, .int .u8 0, .int .u8 0, .int .u8 0, .int .u8 0, .int .u8 0, .int .u8 0, .int .u8 0, .int .u8 0, .int .u8 0, .int .u8 0, .int .u8 0, .int .u8 0, .int .u8 0, .int .u8 0, .int .u8 0], .int .u16 0, .bool false, .slice none 0 0] 8 rfl (World.shaped_of_RefB (by kernel_rfl) (by kernel_rfl)) (by kernel_rfl) (by kernel_rfl) (by kernel_rfl) (door_met os _)) ?_
  intro W base args ds gs before hval0 hW _ _ hL _
  have hval : ∀ (j : Nat) t v, Ybad.f4.params[j]? = some t → args[j]? = some v → Value.okWide Ybad.prog W .any base t v := hval0
  have hW' := hW
  obtain ⟨p, q, hA0, hV, rfl, hfz, hnd⟩ := hW
  have hA : DataW.TrodAll enc Ybad.prog W 0 (fun _ => true) true Ybad.f4.params.toList args.toList ds p := hA0
  rw [Ybad.params4] at hA hval
  obtain ⟨v0, vs0, d0, ds0, p0, q0, hargs, rfl, rfl, h0, r0⟩ := trodAll_cons hA
  obtain ⟨v1, vs1, d1, ds1, p1, q1, rfl, rfl, rfl, h1, r1⟩ := trodAll_cons r0
  obtain ⟨v2, vs2, d2, ds2, p2, q2, rfl, rfl, rfl, h2, r2⟩ := trodAll_cons r1
  obtain ⟨v3, vs3, d3, ds3, p3, q3, rfl, rfl, rfl, h3, r3⟩ := trodAll_cons r2
  obtain ⟨v4, vs4, d4, ds4, p4, q4, rfl, rfl, rfl, h4, r4⟩ := trodAll_cons r3
  obtain ⟨v5, vs5, d5, ds5, p5, q5, rfl, rfl, rfl, h5, r5⟩ := trodAll_cons r4
  obtain ⟨v6, vs6, d6, ds6, p6, q6, rfl, rfl, rfl, h6, r6⟩ := trodAll_cons r5
  obtain ⟨v7, vs7, d7, ds7, p7, q7, rfl, rfl, rfl, h7, r7⟩ := trodAll_cons r6
  obtain ⟨rfl, rfl, rfl⟩ := trodAll_nil r7
  obtain rfl : args = #[v0, v1, v2, v3, v4, v5, v6, v7] := by cases args; simp_all
  obtain ⟨rfl, rfl⟩ := trodVars_none hV
  have t0 := h0
  have t4 := h4
  have t7 := h7
  have lt0 : ∀ x ∈ p0, x.block < W.heap.size := by obtain ⟨m, hm⟩ := t0; exact DataW.trod_lt m _ _ _ hm
  have lt4 : ∀ x ∈ p4, x.block < W.heap.size := by obtain ⟨m, hm⟩ := t4; exact DataW.trod_lt m _ _ _ hm
  have lt7 : ∀ x ∈ p7, x.block < W.heap.size := by obtain ⟨m, hm⟩ := t7; exact DataW.trod_lt m _ _ _ hm
  obtain ⟨io, n0, c0, is, rfl, hi, hib⟩ := open_bytes (hval 0 25 v0 rfl rfl) h0
  obtain ⟨ex, rfl, rfl, rfl, w1⟩ := open_int Ybad.underlying5 (hval 1 5 v1 rfl rfl) h1
  obtain ⟨near, rfl, rfl, rfl⟩ := open_bool Ybad.underlying4 (hval 2 4 v2 rfl rfl) h2
  obtain ⟨c16, rfl, rfl, rfl, w3⟩ := open_int Ybad.underlying24 (hval 3 24 v3 rfl rfl) h3
  obtain ⟨k0, k1, k2, k3, k4, k5, k6, k7, k8, k9, k10, k11, k12, k13, k14, k15, rfl⟩ := open_key (hval 4 23 v4 rfl rfl) h4
  obtain ⟨pt, rfl, rfl, rfl, w5⟩ := open_int Ybad.underlying24 (hval 5 24 v5 rfl rfl) h5
  obtain ⟨st, rfl, rfl, rfl⟩ := open_bool Ybad.underlying4 (hval 6 4 v6 rfl rfl) h6
  obtain ⟨bo, m, c, ys, rfl, hy, hyb⟩ := open_bytes (hval 7 25 v7 rfl rfl) h7
  have hz0 := of_laid hL
  have hp0 : 0 < W.heap.size := World.block_lt_of_cell? _ _ hz0
  have b1 := bounds_u8 w1
  have b3 := bounds_u16 w3
  have b5 := bounds_u16 w5
  clear hA0 hval0
  have fin : Calls Ybad.prog 4 #[.slice io n0 c0, .int .u8 ex, .bool near, .int .u16 c16, .agg #[.int .u8 k0, .int .u8 k1, .int .u8 k2, .int .u8 k3, .int .u8 k4, .int .u8 k5, .int .u8 k6, .int .u8 k7, .int .u8 k8, .int .u8 k9, .int .u8 k10, .int .u8 k11, .int .u8 k12, .int .u8 k13, .int .u8 k14, .int .u8 k15], .int .u16 pt, .bool st, .slice bo m c] W fun e w' => e = .returned (.bool true) ∧ Below W.heap.size W w' := by
    by_cases hl : 1024 < n0 ∨ 1024 < m
    · exact one_long io n0 c0 ex near c16 k0 k1 k2 k3 k4 k5 k6 k7 k8 k9 k10 k11 k12 k13 k14 k15 pt st bo m c W hl
    · exact one_short io n0 c0 is ex near c16 k0 k1 k2 k3 k4 k5 k6 k7 k8 k9 k10 k11 k12 k13 k14 k15 pt st bo m c ys W hi hib hy hyb (by omega) (by omega) b1.1 b1.2 b3.1 b3.2 b5.1 (by omega) hz0 hp0
  refine fin.mono fun e W' ⟨he, bel⟩ => ?_
  subst he
  exact ⟨_, rfl, _, _, _, [], _, [], hW', trodAll_mk1 (shut_bool Ybad.underlying4 _), (trodAll_cons_mk (Below.trod laidOut (by kernel_rfl) (of_decide_eq_true (by kernel_rfl)) t0 bel lt0) (trodAll_cons_mk (shut_int Ybad.underlying5 w1) (trodAll_cons_mk (shut_bool Ybad.underlying4 _) (trodAll_cons_mk (shut_int Ybad.underlying24 w3) (trodAll_cons_mk (Below.trod laidOut (by kernel_rfl) (of_decide_eq_true (by kernel_rfl)) t4 bel lt4) (trodAll_cons_mk (shut_int Ybad.underlying24 w5) (trodAll_cons_mk (shut_bool Ybad.underlying4 _) (trodAll_cons_mk (Below.trod laidOut (by kernel_rfl) (of_decide_eq_true (by kernel_rfl)) t7 bel lt7) trodAll_mk0)))))))), rfl, bel.frame _, fun h => by cases h⟩

theorem one_holds : Rows.LawS0360COneSaid :=
  OpenClaim.holds_of_wide 4 Ybad.f4 rfl rfl rfl rfl rfl rfl rfl ⟨rfl, rfl, rfl, rfl, rfl⟩ rfl rfl rfl rfl rfl (by kernel_rfl) Ybad.func4 (by kernel_rfl)
    (of_decide_eq_true (by kernel_rfl)) (by unfold Func.isWrapper; first | (rw [if_pos (by decide +kernel)]; kernel_rfl) | (rw [if_neg (by decide +kernel)]; exact ⟨rfl, rfl⟩))
    (fun os started H enc _ => one_lifted os started H enc)

theorem lawS0360COne_card : Rows.LawS0360COneCardSaid :=
  Claim7.holds_tied_plain_at .later [] [.called, .zero] true (true, "ae679dd8c29530722d9ab73b5b487bb20d977d671a15d7c7d8f90898c8646e25") false
    one_holds (fun _ h => by cases h) (by kernel_rfl) (fun _ h => by cases h) lawS0360COne_row_tie rfl ⟨rfl, rfl⟩ (by kernel_rfl) rfl
    (fun f fn hf hfn => by
      obtain rfl : f = 4 := Option.some.inj ((show Ybad.prog.funcNamed Rows.lawS0360COneRow.func = some 4 by kernel_rfl).symm.trans hf) |>.symm
      obtain rfl : fn = Ybad.f4 := (Option.some.inj (Ybad.func4.symm.trans hfn)).symm
      exact ⟨by kernel_rfl, fun j t ht => by
        rw [Ybad.params4] at ht
        have hm : t ∈ [25, 5, 4, 24, 23, 24, 4, 25] := by simpa using Array.mem_of_getElem? ht
        have hall : ([25, 5, 4, 24, 23, 24, 4, 25].all fun u => !Ybad.prog.wantsStandIn u) = true := by kernel_rfl
        exact (show Ybad.prog.wantsStandIn t = false by simpa using List.all_eq_true.1 hall t hm)⟩)
    (by kernel_rfl)
end Go.Proofs.YbulkgkwDoor
