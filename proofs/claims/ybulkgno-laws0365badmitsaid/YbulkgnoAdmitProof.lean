/-
  'Rows.LawS0365BAdmitSaid', proved: the row by the walk.
-/
import Derived.Test.YbulkgnoMain
import Derived.ProofKit
import Derived.OpenShut
import Derived.ShutString
import Derived.ChangeOld
import Derived.Below
import Derived.SliceStrings
import Derived.SizedLaws
namespace Go.Proofs.Ybulkgno.lawS0365BAdmit
open Go.ChangeShapes Go.WideShapes Go.ChangeAt Go.RowKit
open Go.ChangeMaps (open_string shut_string)
set_option linter.unusedVariables false

theorem own : ownKnob Yba.prog.godebug = none := by kernel_rfl
theorem laidOut : laidOutB Yba.prog = true := by kernel_rfl

set_option maxRecDepth 100000 in
set_option maxHeartbeats 400000 in
theorem admit_long (self rname raddr : ByteArray) (sel pick : Int) (ao : Option Addr) (N q : Nat) (w : World) (h : 256 < N) : Calls Yba.prog 3 #[.string self, .int .u8 sel, .slice ao N q, .string rname, .string raddr, .int .u8 pick] w fun e w' => e = .returned (.bool true) ∧ RowKit.Below w.heap.size w w' := by
  have h1 : (256 : Int) < N := by omega
  go_enter Yba.func3, Yba.ntmps3
  go_wp2_with fail
  go_ret
  exact ⟨rfl, (Below.refl _ _).alloc (Nat.le_refl _) _⟩

theorem weights_strs {H : Type} (P : Program) (e : TypeId) : ∀ (ss : List ByteArray) (s : ByteArray), s ∈ ss → s.data.toList.length ∈ DataW.weightsAll (H := H) P e (strs ss)
  | [], _, h => by cases h
  | x :: ss, s, h => by
    simp only [strs, List.map_cons, DataW.weightsAll, List.mem_append]
    rcases List.mem_cons.1 h with rfl | h
    · exact .inl (by simp [DataW.weights])
    · exact .inr (weights_strs P e ss s h)

theorem walk (self rname raddr : ByteArray) (sel pick : Int) (ao : Option Addr) (len cap : Nat) (w : World) (hs : self.size ≤ reachBytes) (hr : rname.size ≤ reachBytes) (w1 : (Lit.int .u8 sel).wf = true) (w5 : (Lit.int .u8 pick).wf = true)
    (hrow : (ao = none ∧ len = 0 ∧ cap = 0) ∨ ∃ (a : Addr) (ss : List ByteArray), ao = some a ∧ len ≤ cap ∧ cap ≤ maxLen ∧ ss.length = cap ∧ (∀ i, i < ss.length → w.cell? (a.add i) = some (.string (ss.getD i ByteArray.empty))) ∧ ∀ s ∈ ss.take len, s.size ≤ reachBytes) :
    Calls Yba.prog 3 #[.string self, .int .u8 sel, .slice ao len cap, .string rname, .string raddr, .int .u8 pick] w fun e w' => e = .returned (.bool true) ∧ RowKit.Below w.heap.size w w' := by
  by_cases hl : 256 < len
  · exact admit_long self rname raddr sel pick ao len cap w hl
  · have b1 := bounds_u8 w1
    have b5 := bounds_u8 w5
    unfold maxLen at hrow
    unfold reachBytes at hs hr hrow
    obtain ⟨x1, rfl⟩ : ∃ x1 : Nat, sel = (x1 : Int) := ⟨sel.toNat, by omega⟩
    obtain ⟨x5, rfl⟩ : ∃ x5 : Nat, pick = (x5 : Int) := ⟨pick.toNat, by omega⟩
    rcases hrow with ⟨rfl, rfl, rfl⟩ | ⟨⟨b, off, spot⟩, ss, rfl, h1, h2, h3, h4, h5⟩
    · exact main_walk self rname raddr x1 x5 (by omega) (by omega) none 0 0 [] w 0 0 (by omega) rfl (by omega) (by omega) (by omega) (by omega) (by omega) (fun s hs => by cases hs) (fun i s hs => by simp at hs) (by omega)
    · have hsp : 0 < len → spot = none := fun h0 => by
        have := h4 0 (by omega)
        simpa [Addr.add] using World.cell?_spot this
      refine main_walk self rname raddr x1 x5 (by omega) (by omega) _ len cap (ss.take len) w b off (fun h0 => by rw [hsp h0]) (by rw [List.length_take]; omega) (by omega) h1 (by omega) (by omega) (by omega) (fun s hs => by have := h5 s hs; omega) (fun i s hs => ?_) (fun h0 => ?_)
      · rw [List.getElem?_take] at hs
        split at hs
        · rename_i hi
          obtain rfl := hsp (by omega)
          have h6 := h4 i (by omega)
          rw [Addr.add_lit, List.getD_eq_getElem?_getD, hs] at h6
          exact h6
        · cases hs
      · obtain rfl := hsp h0
        have := World.block_lt_of_cell? _ _ (h4 0 (by omega))
        simpa [Addr.add] using this

set_option maxRecDepth 100000 in
theorem lifted (os : Os) (started : os.Started) (H : Type) (enc : TypeId × Value → H) :
    ReturnsInHanded {} Yba.checked os 3 .any (Rows.lawS0365BAdmitSpec.pre6 enc Yba.prog Yba.f3 Rows.lawS0365BAdmitRow.domain false) (Rows.lawS0365BAdmitSpec.post enc Yba.prog Yba.f3 false true false false) := by
  refine returnsInHanded_of_change_sized (C := Yba.checked) own started (by kernel_rfl) Yba.func3
    (ChangeSpec.witness6 (enc := enc) (C := Yba.checked) false ⟨#[], #[.string ⟨#[]⟩, .int .u8 0, .slice none 0 0, .string ⟨#[]⟩, .string ⟨#[]⟩, .int .u8 0], []⟩ 8 (by kernel_rfl) (by kernel_rfl) (by kernel_rfl) (by kernel_rfl)) ?_
  intro W base args ds gs before hval0 hW hcnd hsz0 _
  have hsz : (DataW.weightsEach Yba.prog (Yba.f3.params.toList ++ []) (ds ++ gs)).all (· ≤ reachBytes) = true := hsz0
  have hval : ∀ (j : Nat) t v, Yba.f3.params[j]? = some t → args[j]? = some v → Value.okWide Yba.prog W .any base t v := hval0
  have hW' := hW
  obtain ⟨p, q, hA0, hV, rfl, hfz, hnd⟩ := hW
  have hA : DataW.TrodAll enc Yba.prog W 0 (fun _ => true) true Yba.f3.params.toList args.toList ds p := hA0
  rw [Yba.params3] at hA hval hsz
  obtain ⟨v0, vs0, d0, ds0, p0, q0, hargs, rfl, rfl, h0, r0⟩ := trodAll_cons hA
  obtain ⟨v1, vs1, d1, ds1, p1, q1, rfl, rfl, rfl, h1, r1⟩ := trodAll_cons r0
  obtain ⟨v2, vs2, d2, ds2, p2, q2, rfl, rfl, rfl, h2, r2⟩ := trodAll_cons r1
  obtain ⟨v3, vs3, d3, ds3, p3, q3, rfl, rfl, rfl, h3, r3⟩ := trodAll_cons r2
  obtain ⟨v4, vs4, d4, ds4, p4, q4, rfl, rfl, rfl, h4, r4⟩ := trodAll_cons r3
  obtain ⟨v5, vs5, d5, ds5, p5, q5, rfl, rfl, rfl, h5, r5⟩ := trodAll_cons r4
  obtain ⟨rfl, rfl, rfl⟩ := trodAll_nil r5
  obtain rfl : args = #[v0, v1, v2, v3, v4, v5] := by cases args; simp_all
  obtain ⟨rfl, rfl⟩ := trodVars_none hV
  obtain ⟨self, rfl, rfl, rfl, s0⟩ := open_string Yba.underlying9 (hval 0 9 v0 rfl rfl) h0
  obtain ⟨sel, rfl, rfl, rfl, w1⟩ := open_int Yba.underlying5 (hval 1 5 v1 rfl rfl) h1
  obtain ⟨a2, len2, cap2, rfl⟩ := okWide_slice Yba.underlying22 (hval 2 22 v2 rfl rfl)
  obtain ⟨rname, rfl, rfl, rfl, s3⟩ := open_string Yba.underlying9 (hval 3 9 v3 rfl rfl) h3
  obtain ⟨raddr, rfl, rfl, rfl, s4⟩ := open_string Yba.underlying9 (hval 4 9 v4 rfl rfl) h4
  obtain ⟨pick, rfl, rfl, rfl, w5⟩ := open_int Yba.underlying5 (hval 5 5 v5 rfl rfl) h5
  have k2 := h2
  have lt2 : ∀ x ∈ p2, x.block < W.heap.size := by obtain ⟨m, hm⟩ := k2; exact DataW.trod_lt m _ _ _ hm
  have hrow : (a2 = none ∧ len2 = 0 ∧ cap2 = 0) ∨ ∃ (a : Addr) (ss : List ByteArray), a2 = some a ∧ len2 ≤ cap2 ∧ cap2 ≤ maxLen ∧ ss.length = cap2 ∧ (∀ i, i < ss.length → W.cell? (a.add i) = some (.string (ss.getD i ByteArray.empty))) ∧ ∀ s ∈ ss.take len2, s.size ≤ reachBytes := by
    obtain ⟨fuel, hf⟩ := h2
    rcases open_strings Yba.underlying22 Yba.underlying9 (by kernel_rfl) hf with ⟨hcs, _⟩ | ⟨x, l, c, ss, hcs, _, hl, hm, hz, hxd, hcell, hwz⟩
    · simp [Value.cells] at hcs
      obtain ⟨rfl, rfl, rfl⟩ := hcs
      exact .inl ⟨rfl, rfl, rfl⟩
    · simp [Value.cells] at hcs
      obtain ⟨rfl, rfl, rfl⟩ := hcs
      refine .inr ⟨_, ss, rfl, hl, hm, by simpa using hz, hcell, fun s hs => ?_⟩
      simp only [Prod.mk.injEq] at hxd
      have hmem : s.data.toList.length ∈ DataW.weights Yba.prog 22 d2 := by
        rw [hxd.1]
        simp only [DataW.weights, Yba.underlying22, List.mem_cons, List.mem_append]
        exact .inr (.inl (weights_strs _ _ _ s hs))
      have := List.all_eq_true.1 hsz _ (DataW.weights_mem_each (j := 2) (t := 22) rfl rfl _ hmem)
      have h3 : s.size = s.data.toList.length := by rw [Array.length_toList]; rfl
      rw [h3]
      exact of_decide_eq_true this
  have z0 : self.size ≤ reachBytes := by
    have := sized_string hsz (j := 0) (t := 9) rfl rfl
    rw [Array.length_toList] at this
    exact this
  have z3 : rname.size ≤ reachBytes := by
    have := sized_string hsz (j := 3) (t := 9) rfl rfl
    rw [Array.length_toList] at this
    exact this
  clear hA0 hval0 hsz0
  refine (walk self rname raddr sel pick a2 len2 cap2 W z0 z3 w1 w5 hrow).mono fun e W' ⟨he, bel⟩ => ?_
  subst he
  exact ⟨_, rfl, _, _, _, [], _, [], hW', trodAll_mk1 (shut_bool Yba.underlying4 _), (trodAll_cons_mk (shut_string Yba.underlying9 s0) (trodAll_cons_mk (shut_int Yba.underlying5 w1) (trodAll_cons_mk (Below.trod laidOut (by kernel_rfl) (of_decide_eq_true (by kernel_rfl)) k2 bel lt2) (trodAll_cons_mk (shut_string Yba.underlying9 s3) (trodAll_cons_mk (shut_string Yba.underlying9 s4) (trodAll_cons_mk (shut_int Yba.underlying5 w5) trodAll_mk0)))))), rfl, bel.frame _, fun h => by cases h⟩

theorem over : Rows.lawS0365BAdmitRow.holds Yba.pinned (OpenSpec.ofChange Rows.lawS0365BAdmitSpec) :=
  OpenClaim.holds_of_wide 3 Yba.f3 rfl rfl rfl rfl rfl rfl rfl ⟨rfl, rfl, rfl, rfl, rfl⟩ rfl rfl rfl rfl rfl (by kernel_rfl) Yba.func3 (by kernel_rfl)
    (of_decide_eq_true (by kernel_rfl)) (by unfold Func.isWrapper; first | (rw [if_pos (by decide +kernel)]; kernel_rfl) | (rw [if_neg (by decide +kernel)]; exact ⟨rfl, rfl⟩))
    (fun os started H enc _ => lifted os started H enc)

theorem proved : Rows.LawS0365BAdmitSaid := over
end Go.Proofs.Ybulkgno.lawS0365BAdmit
