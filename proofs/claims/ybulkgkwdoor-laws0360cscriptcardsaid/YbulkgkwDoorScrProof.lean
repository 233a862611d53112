/-
  'Rows.LawS0360CScriptCardSaid', proved: the row by the walk, the card by the given tie.
-/
import Derived.Test.YbulkgkwDoorScr
import Derived.Test.YbulkgkwDoorLaid
import Derived.Test.YbulkgkwDoorTie
import Derived.Test.YbulkgkwDoorCards
import Derived.SevenTiedAt
import Derived.Deep.Slices
namespace Go.Proofs.YbulkgkwDoor
open Go.ChangeShapes Go.WideShapes Go.ChangeAt Go.WideMaps Go.WideElems Go.RowKit Go.Deep
set_option linter.unusedVariables false

theorem bytes_cell {H : Type} {enc : TypeId × Value → H} {W : World} {n : Nat} {v : Value} {x : DataW H × List MemPlace} (hf : DataW.trod enc Ybad.prog W 0 (fun _ => true) true n 25 [v] = some x) :
    ∃ ao n c ys, v = .slice ao n c ∧ Bytes W ao n ys ∧ (∀ a, ao = some a → n ≠ 0 → a.block < W.heap.size) := by
  rcases open_ints Ybad.underlying25 Ybad.underlying5 (by kernel_rfl) hf with ⟨hcs, _⟩ | ⟨x, l, c, zs, hcs, _, hl, hm, hz, _, hcell, hwz⟩
  · simp at hcs
    subst hcs
    exact ⟨none, 0, 0, [], rfl, ⟨rfl, fun _ => rfl, fun a ha => by cases ha⟩, fun a ha => by cases ha⟩
  · simp at hcs
    subst hcs
    have hz' : zs.length = c := by simpa using hz
    refine ⟨some x, l, c, zs.take l, rfl, ⟨by simp; omega, (fun e => by cases e), fun a ha j u hu => ?_⟩, fun a ha hn => ?_⟩
    · obtain rfl := Option.some.inj ha
      have hj : j < l := by
        have := (List.getElem?_eq_some_iff.1 hu).1
        rw [bs_length, List.length_take] at this; omega
      rw [hcell j (by omega), ← hu, bs_get, List.getElem?_take, if_pos hj, List.getElem?_eq_getElem (show j < zs.length by omega)]
      simp [List.getD, List.getElem?_eq_getElem (show j < zs.length by omega)]
    · obtain rfl := Option.some.inj ha
      have := World.block_lt_of_cell? _ _ (hcell 0 (by omega))
      simpa [Addr.add] using this

theorem key_cells {H : Type} {enc : TypeId × Value → H} {W : World} {n : Nat} {cs : List Value} {x : DataW H × List MemPlace} (hf : DataW.trod enc Ybad.prog W 0 (fun _ => true) true n 23 cs = some x) (i : Nat) (hi : i < 16) : ∃ k : Int, cs[i]? = some (.int .u8 k) := by
  have c5 : Ybad.prog.cellsOf 5 = 1 := by kernel_rfl
  obtain ⟨xs, m, rfl, _, hl, hx, hel⟩ := DataW.trod_array Ybad.underlying23 hf
  have h1 := hel i hi
  rw [c5, Nat.mul_one, List.getElem?_eq_getElem (by omega)] at h1
  obtain ⟨k, e1, _, _⟩ := DataW.trod_int Ybad.underlying5 h1
  refine ⟨k, ?_⟩
  have e2 : (List.drop i cs)[0]? = some (.int .u8 k) := by
    have := congrArg (fun l : List Value => l[0]?) e1
    simpa using this
  simpa using e2

theorem item_of {H : Type} {enc : TypeId × Value → H} {W : World} {n : Nat} {b o : Nat} {cs : List Value} {x : DataW H × List MemPlace} (hr : W.rangeAt b o cs) (hf : DataW.trod enc Ybad.prog W 0 (fun _ => true) true n 27 cs = some x) : ItemAt W b o := by
  have c27 : Ybad.prog.cellsOf 27 = 19 := by kernel_rfl
  have c23 : Ybad.prog.cellsOf 23 = 16 := by kernel_rfl
  have c24 : Ybad.prog.cellsOf 24 = 1 := by kernel_rfl
  have c4 : Ybad.prog.cellsOf 4 = 1 := by kernel_rfl
  have c25 : Ybad.prog.cellsOf 25 = 1 := by kernel_rfl
  obtain ⟨xs, m, rfl, _, hl, hx, hel⟩ := DataW.trod_struct Ybad.underlying27 hf
  rw [c27] at hl
  have hx4 : xs.length = 4 := hx
  have g0 : DataW.trod enc Ybad.prog W 0 (fun _ => true) true m 23 ((cs.drop 0).take (Ybad.prog.cellsOf 23)) = xs[0]? := hel 0 _ rfl
  have g1 : DataW.trod enc Ybad.prog W 0 (fun _ => true) true m 24 ((cs.drop 16).take (Ybad.prog.cellsOf 24)) = xs[1]? := hel 1 _ rfl
  have g2 : DataW.trod enc Ybad.prog W 0 (fun _ => true) true m 4 ((cs.drop 17).take (Ybad.prog.cellsOf 4)) = xs[2]? := hel 2 _ rfl
  have g3 : DataW.trod enc Ybad.prog W 0 (fun _ => true) true m 25 ((cs.drop 18).take (Ybad.prog.cellsOf 25)) = xs[3]? := hel 3 _ rfl
  rw [c23, List.getElem?_eq_getElem (by omega)] at g0
  rw [c24, List.getElem?_eq_getElem (by omega)] at g1
  rw [c4, List.getElem?_eq_getElem (by omega)] at g2
  rw [c25, List.getElem?_eq_getElem (by omega)] at g3
  match cs, hl with
  | [v0, v1, v2, v3, v4, v5, v6, v7, v8, v9, v10, v11, v12, v13, v14, v15, v16, v17, v18], _ =>
    have kc := key_cells g0
    obtain ⟨k0, e0⟩ := kc 0 (by omega)
    obtain ⟨k1, e1⟩ := kc 1 (by omega)
    obtain ⟨k2, e2⟩ := kc 2 (by omega)
    obtain ⟨k3, e3⟩ := kc 3 (by omega)
    obtain ⟨k4, e4⟩ := kc 4 (by omega)
    obtain ⟨k5, e5⟩ := kc 5 (by omega)
    obtain ⟨k6, e6⟩ := kc 6 (by omega)
    obtain ⟨k7, e7⟩ := kc 7 (by omega)
    obtain ⟨k8, e8⟩ := kc 8 (by omega)
    obtain ⟨k9, e9⟩ := kc 9 (by omega)
    obtain ⟨k10, e10⟩ := kc 10 (by omega)
    obtain ⟨k11, e11⟩ := kc 11 (by omega)
    obtain ⟨k12, e12⟩ := kc 12 (by omega)
    obtain ⟨k13, e13⟩ := kc 13 (by omega)
    obtain ⟨k14, e14⟩ := kc 14 (by omega)
    obtain ⟨k15, e15⟩ := kc 15 (by omega)
    simp at e0 e1 e2 e3 e4 e5 e6 e7 e8 e9 e10 e11 e12 e13 e14 e15
    obtain ⟨p, f1, _, wp⟩ := DataW.trod_int Ybad.underlying24 g1
    obtain ⟨s, f2, _⟩ := DataW.trod_bool Ybad.underlying4 g2
    obtain ⟨bo, mm, c, ys, f3, hy, hyb⟩ := bytes_cell (v := v18) g3
    simp at f1 f2
    have bp := bounds_u16 wp
    subst e0 e1 e2 e3 e4 e5 e6 e7 e8 e9 e10 e11 e12 e13 e14 e15 f1 f2 f3
    exact ⟨k0, k1, k2, k3, k4, k5, k6, k7, k8, k9, k10, k11, k12, k13, k14, k15, p, s, bo, mm, c, ys, hr, hy, hyb, bp.1, by omega⟩

theorem open_items {H : Type} {enc : TypeId × Value → H} {W : World} {base : Nat} {v : Value} {d : DataW H} {p : List MemPlace} (hok : Value.okWide Ybad.prog W .any base 22 v) (h : DataW.Trod enc Ybad.prog W 0 (fun _ => true) true 22 v d p) :
    ∃ ao N q b off, v = .slice ao N q ∧ (0 < N → ao = some ⟨b, off, none⟩) ∧ N ≤ q ∧ q ≤ 9223372036854775807 ∧ (∀ i, i < N → ItemAt W b (off + i * 19)) ∧ (0 < N → b < W.heap.size) := by
  obtain ⟨a2, len2, cap2, rfl⟩ := okWide_slice Ybad.underlying22 hok
  have c27 : Ybad.prog.cellsOf 27 = 19 := by kernel_rfl
  obtain ⟨fuel, hf⟩ := h
  rcases open_slice Ybad.underlying22 hf with ⟨hcs, _⟩ | ⟨a, len, cap, m, n, D, Pl, hcs, _, hl, hm, hmm, _, hel⟩
  · simp [Value.cells] at hcs
    obtain ⟨rfl, rfl, rfl⟩ := hcs
    exact ⟨none, 0, 0, 0, 0, rfl, by omega, by omega, by omega, by omega, by omega⟩
  · simp [Value.cells] at hcs
    obtain ⟨rfl, rfl, rfl⟩ := hcs
    have hmc : m = cap2 := by simpa using hmm
    obtain ⟨b, off, spot⟩ := a
    have hsp : 0 < len2 → spot = none := fun h0 => by
      obtain ⟨cs', h1, _⟩ := hel 0 (by omega)
      obtain ⟨_, hl1, hc1⟩ := World.cells?_some h1
      rw [c27] at hc1 hl1
      have h2 := hc1 0 (by omega)
      rw [List.getElem?_eq_getElem (by omega)] at h2
      simpa [Addr.add] using World.cell?_spot h2
    refine ⟨some ⟨b, off, spot⟩, len2, cap2, b, off, rfl, fun h0 => by rw [hsp h0], hl, by unfold maxLen at hm; omega, fun i hi => ?_, fun h0 => ?_⟩
    · obtain rfl := hsp (by omega)
      obtain ⟨cs', h1, h2⟩ := hel i (by omega)
      obtain ⟨_, hl1, hc1⟩ := World.cells?_some h1
      rw [c27] at hc1 hl1
      refine item_of (fun j v hv => ?_) h2
      have hj : j < 19 := by have := (List.getElem?_eq_some_iff.1 hv).1; omega
      have h3 := hc1 j hj
      rw [Addr.add_lit, Addr.add_lit, hv] at h3
      exact h3
    · obtain rfl := hsp h0
      obtain ⟨cs', h1, _⟩ := hel 0 (by omega)
      obtain ⟨_, hl1, hc1⟩ := World.cells?_some h1
      rw [c27] at hc1 hl1
      have h2 := hc1 0 (by omega)
      rw [List.getElem?_eq_getElem (by omega)] at h2
      have := World.block_lt_of_cell? _ _ h2
      simpa [Addr.add] using this

set_option maxRecDepth 100000 in
set_option maxHeartbeats 400000 in
theorem script_long (ao : Option Addr) (N q : Nat) (w : World) (h : 256 < N) : Calls Ybad.prog 3 #[.slice ao N q] w fun e w' => e = .returned (.bool true) ∧ Below w.heap.size w w' := by
  have h1 : (256 : Int) < N := by omega
  go_enter Ybad.func3, Ybad.ntmps3
  go_wp2_with fail
  go_ret
  exact ⟨rfl, Below.refl _ _⟩

set_option maxRecDepth 100000 in
theorem script_lifted (os : Os) (started : os.Started) (H : Type) (enc : TypeId × Value → H) :
    ReturnsInHanded {} Ybad.checked os 3 .any (fun w args => (Rows.lawS0360CScriptSpec.pre enc Ybad.prog Ybad.f3 [] false w args ∧ laidMetH Ybad.prog laidL w) ∧ sizedMet enc Ybad.prog Ybad.f3 (OpenSpec.ofChange Rows.lawS0360CScriptSpec) false w args)
      (Rows.lawS0360CScriptSpec.post enc Ybad.prog Ybad.f3 false true false false) := by
  refine returnsInHanded_of_change_and (C := Ybad.checked) (X := fun w _ => laidMetH Ybad.prog laidL w) (fun _ _ _ hh h => h.of_heap hh) ownk started (by kernel_rfl) Ybad.func3
    (ChangeSpec.witness_shaped (enc := enc) (C := Ybad.checked) (os := os) (X := fun w _ => laidMetH Ybad.prog laidL w) false (addZ4 (World.settled Ybad.prog os)) #[.slice none 0 0] 8 rfl (World.shaped_of_RefB (by kernel_rfl) (by kernel_rfl)) (by kernel_rfl) (by kernel_rfl) (by kernel_rfl) (door_met os _)) ?_
  intro W base args ds gs before hval0 hW _ _ hL _
  have hval : ∀ (j : Nat) t v, Ybad.f3.params[j]? = some t → args[j]? = some v → Value.okWide Ybad.prog W .any base t v := hval0
  have hW' := hW
  obtain ⟨p, q, hA0, hV, rfl, hfz, hnd⟩ := hW
  have hA : DataW.TrodAll enc Ybad.prog W 0 (fun _ => true) true Ybad.f3.params.toList args.toList ds p := hA0
  rw [Ybad.params3] at hA hval
  obtain ⟨v0, vs0, d0, ds0, p0, q0, hargs, rfl, rfl, h0, r0⟩ := trodAll_cons hA
  obtain ⟨rfl, rfl, rfl⟩ := trodAll_nil r0
  obtain rfl : args = #[v0] := by cases args; simp_all
  obtain ⟨rfl, rfl⟩ := trodVars_none hV
  have t0 := h0
  have lt0 : ∀ x ∈ p0, x.block < W.heap.size := by obtain ⟨m, hm⟩ := t0; exact DataW.trod_lt m _ _ _ hm
  obtain ⟨ao, N, q, b, off, rfl, hao, hq, hq2, hI, hbb⟩ := open_items (hval 0 22 v0 rfl rfl) h0
  have hz0 := of_laid hL
  have hp0 : 0 < W.heap.size := World.block_lt_of_cell? _ _ hz0
  clear hA0 hval0
  have fin : Calls Ybad.prog 3 #[.slice ao N q] W fun e w' => e = .returned (.bool true) ∧ Below W.heap.size W w' := by
    by_cases hl : 256 < N
    · exact script_long ao N q W hl
    · exact script_walk ao N q W b off hao (by omega) hq hq2 hI hbb hz0 hp0
  refine fin.mono fun e W' ⟨he, bel⟩ => ?_
  subst he
  exact ⟨_, rfl, _, _, _, [], _, [], hW', trodAll_mk1 (shut_bool Ybad.underlying4 _), (trodAll_cons_mk (Below.trod laidOut (by kernel_rfl) (of_decide_eq_true (by kernel_rfl)) t0 bel lt0) trodAll_mk0), rfl, bel.frame _, fun h => by cases h⟩

theorem script_holds : Rows.LawS0360CScriptSaid :=
  OpenClaim.holds_of_wide 3 Ybad.f3 rfl rfl rfl rfl rfl rfl rfl ⟨rfl, rfl, rfl, rfl, rfl⟩ rfl rfl rfl rfl rfl (by kernel_rfl) Ybad.func3 (by kernel_rfl)
    (of_decide_eq_true (by kernel_rfl)) (by unfold Func.isWrapper; first | (rw [if_pos (by decide +kernel)]; kernel_rfl) | (rw [if_neg (by decide +kernel)]; exact ⟨rfl, rfl⟩))
    (fun os started H enc _ => script_lifted os started H enc)

theorem lawS0360CScript_card : Rows.LawS0360CScriptCardSaid :=
  Claim7.holds_tied_plain_at .later [] [.called, .zero] true (true, "ae679dd8c29530722d9ab73b5b487bb20d977d671a15d7c7d8f90898c8646e25") false
    script_holds (fun _ h => by cases h) (by kernel_rfl) (fun _ h => by cases h) lawS0360CScript_row_tie rfl ⟨rfl, rfl⟩ (by kernel_rfl) rfl
    (fun f fn hf hfn => by
      obtain rfl : f = 3 := Option.some.inj ((show Ybad.prog.funcNamed Rows.lawS0360CScriptRow.func = some 3 by kernel_rfl).symm.trans hf) |>.symm
      obtain rfl : fn = Ybad.f3 := (Option.some.inj (Ybad.func3.symm.trans hfn)).symm
      exact ⟨by kernel_rfl, fun j t ht => by
        rw [Ybad.params3] at ht
        have hm : t ∈ [22] := by simpa using Array.mem_of_getElem? ht
        have hall : ([22].all fun u => !Ybad.prog.wantsStandIn u) = true := by kernel_rfl
        exact (show Ybad.prog.wantsStandIn t = false by simpa using List.all_eq_true.1 hall t hm)⟩)
    (by kernel_rfl)
end Go.Proofs.YbulkgkwDoor
