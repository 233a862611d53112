/-
  'Rows.LawS0379AUnlinkScriptSaid', proved: the shell written by the kit's tool for this function, its hole filled by YbulkgvcScript.
-/
import Derived.Test.YbulkgvcScript
import Derived.Test.YbulkgvcRows
import Derived.WalkKit
import Derived.ProofKit
import Derived.OpenShut
import Derived.ShutString
import Derived.ChangeOld
import Derived.Below
namespace Go.Proofs.Ybulkgvc.lawS0379AUnlinkScript
open Go.ChangeShapes Go.WideShapes Go.ChangeAt Go.RowKit
open Go.ChangeMaps (open_string shut_string)
set_option linter.unusedVariables false

theorem own : ownKnob Yba.prog.godebug = none := by kernel_rfl
theorem laidOut : laidOutB Yba.prog = true := by kernel_rfl

/-- WHAT THE WALK IS TOLD OF A SLICE OF INTEGERS THAT CAME IN: it is nil; or it leads to a row of 'cap' cells, the numbers 'zs' (the first 'len' are its elements, the rest its spare room), each fitting its kind. -/
def IsRow (k : IntKind) (w : World) (a : Option Addr) (len cap : Nat) (zs : List Int) : Prop :=
  (a = none ∧ len = 0 ∧ cap = 0 ∧ zs = []) ∨
  ∃ x, a = some x ∧ len ≤ cap ∧ cap ≤ maxLen ∧ zs.length = cap ∧ (∀ i, i < zs.length → w.cell? (x.add i) = some (.int k (zs.getD i 0))) ∧ ∀ n ∈ zs, (Lit.int k n).wf = true

set_option maxRecDepth 100000 in
set_option maxHeartbeats 400000 in
theorem script_long (a0 a1 : Int) (ao : Option Addr) (N q : Nat) (w : World) (h : 1024 < N) : Calls Yba.prog 3 #[.int .u8 a0, .int .u8 a1, .slice ao N q] w fun e w' => e = .returned (.bool true) ∧ Below w.heap.size w w' := by
  have h1 : (1024 : Int) < N := by omega
  go_enter Yba.func3, Yba.ntmps3
  go_wp2_with fail
  go_ret
  exact ⟨rfl, Below.refl _ _⟩

theorem walk (a0 : Int) (a1 : Int) (a2 : Option Addr) (len2 cap2 : Nat) (z2 : List Int) (w : World) (w0 : (Lit.int .u8 a0).wf = true) (w1 : (Lit.int .u8 a1).wf = true) (w2 : IsRow .u8 w a2 len2 cap2 z2) :
    Calls Yba.prog 3 #[.int .u8 a0, .int .u8 a1, .slice a2 len2 cap2] w fun e w' => e = .returned (.bool true) ∧ Below w.heap.size w w' := by
  by_cases hl : 1024 < len2
  · exact script_long a0 a1 a2 len2 cap2 w hl
  · have b0 := bounds_u8 w0
    have b1 := bounds_u8 w1
    obtain ⟨x0, rfl⟩ : ∃ x0 : Nat, a0 = (x0 : Int) := ⟨a0.toNat, by omega⟩
    obtain ⟨x1, rfl⟩ : ∃ x1 : Nat, a1 = (x1 : Int) := ⟨a1.toNat, by omega⟩
    rcases w2 with ⟨rfl, rfl, rfl, rfl⟩ | ⟨⟨b, off, spot⟩, rfl, h1, h2, h3, h4, h5⟩
    · exact script_walk x0 x1 (by omega) (by omega) none 0 0 w 0 0 (by omega) (by omega) (by omega) (by omega) (fun i hi => by omega) (by omega)
    · have hsp : 0 < len2 → spot = none := fun h0 => by
        have := h4 0 (by omega)
        simpa [Addr.add] using World.cell?_spot this
      refine script_walk x0 x1 (by omega) (by omega) _ len2 cap2 w b off (fun h0 => by rw [hsp h0]) (by omega) h1 (by unfold maxLen at h2; omega) (fun i hi => ?_) (fun h0 => ?_)
      · obtain rfl := hsp (by omega)
        have h6 := h4 i (by omega)
        have hm : z2.getD i 0 ∈ z2 := by rw [List.getD_eq_getElem?_getD, List.getElem?_eq_getElem (by omega)]; simp
        have h7 := bounds_u8 (h5 _ hm)
        refine ⟨(z2.getD i 0).toNat, ?_, by omega⟩
        rw [Int.toNat_of_nonneg (by omega)]
        rw [Addr.add_lit] at h6
        exact h6
      · obtain rfl := hsp h0
        have := World.block_lt_of_cell? _ _ (h4 0 (by omega))
        simpa [Addr.add] using this

set_option maxRecDepth 100000 in
theorem lifted (os : Os) (started : os.Started) (H : Type) (enc : TypeId × Value → H) :
    ReturnsInHanded {} Yba.checked os 3 .any (Rows.lawS0379AUnlinkScriptSpec.pre6 enc Yba.prog Yba.f3 Rows.lawS0379AUnlinkScriptRow.domain false) (Rows.lawS0379AUnlinkScriptSpec.post enc Yba.prog Yba.f3 false true false false) := by
  refine returnsInHanded_of_change (C := Yba.checked) own started (by kernel_rfl) Yba.func3
    (ChangeSpec.witness6 (enc := enc) (C := Yba.checked) false ⟨#[], #[.int .u8 0, .int .u8 0, .slice none 0 0], []⟩ 8 (by kernel_rfl) (by kernel_rfl) (by kernel_rfl) (by kernel_rfl)) ?_
  intro W base args ds gs before hval0 hW hcnd _
  have hval : ∀ (j : Nat) t v, Yba.f3.params[j]? = some t → args[j]? = some v → Value.okWide Yba.prog W .any base t v := hval0
  have hW' := hW
  obtain ⟨p, q, hA0, hV, rfl, hfz, hnd⟩ := hW
  have hA : DataW.TrodAll enc Yba.prog W 0 (fun _ => true) true Yba.f3.params.toList args.toList ds p := hA0
  rw [Yba.params3] at hA hval
  obtain ⟨v0, vs0, d0, ds0, p0, q0, hargs, rfl, rfl, h0, r0⟩ := trodAll_cons hA
  obtain ⟨v1, vs1, d1, ds1, p1, q1, rfl, rfl, rfl, h1, r1⟩ := trodAll_cons r0
  obtain ⟨v2, vs2, d2, ds2, p2, q2, rfl, rfl, rfl, h2, r2⟩ := trodAll_cons r1
  obtain ⟨rfl, rfl, rfl⟩ := trodAll_nil r2
  obtain rfl : args = #[v0, v1, v2] := by cases args; simp_all
  obtain ⟨rfl, rfl⟩ := trodVars_none hV
  obtain ⟨a0, rfl, rfl, rfl, w0⟩ := open_int Yba.underlying5 (hval 0 5 v0 rfl rfl) h0
  obtain ⟨a1, rfl, rfl, rfl, w1⟩ := open_int Yba.underlying5 (hval 1 5 v1 rfl rfl) h1
  obtain ⟨a2, len2, cap2, rfl⟩ := okWide_slice Yba.underlying22 (hval 2 22 v2 rfl rfl)
  have k2 := h2
  have lt2 : ∀ x ∈ p2, x.block < W.heap.size := by obtain ⟨m, hm⟩ := k2; exact DataW.trod_lt m _ _ _ hm
  obtain ⟨z2, w2⟩ : ∃ zs, IsRow .u8 W a2 len2 cap2 zs := by
    obtain ⟨fuel, hf⟩ := h2
    rcases open_ints Yba.underlying22 Yba.underlying5 (by kernel_rfl) hf with ⟨hcs, _⟩ | ⟨x, l, c, zs, hcs, _, hl, hm, hz, _, hcell, hwz⟩
    · simp [Value.cells] at hcs
      obtain ⟨rfl, rfl, rfl⟩ := hcs
      exact ⟨[], .inl ⟨rfl, rfl, rfl, rfl⟩⟩
    · simp [Value.cells] at hcs
      obtain ⟨rfl, rfl, rfl⟩ := hcs
      exact ⟨zs, .inr ⟨_, rfl, hl, hm, by simpa using hz, hcell, hwz⟩⟩
  clear hA0 hval0
  refine (walk a0 a1 a2 len2 cap2 z2 W w0 w1 w2).mono fun e W' ⟨he, bel⟩ => ?_
  subst he
  exact ⟨_, rfl, _, _, _, [], _, [], hW', trodAll_mk1 (shut_bool Yba.underlying4 _), (trodAll_cons_mk (shut_int Yba.underlying5 w0) (trodAll_cons_mk (shut_int Yba.underlying5 w1) (trodAll_cons_mk (Below.trod laidOut (by kernel_rfl) (of_decide_eq_true (by kernel_rfl)) k2 bel lt2) trodAll_mk0))), rfl, bel.frame _, fun h => by cases h⟩

theorem over : Rows.lawS0379AUnlinkScriptRow.holds Yba.pinned (OpenSpec.ofChange Rows.lawS0379AUnlinkScriptSpec) :=
  OpenClaim.holds_of_wide 3 Yba.f3 rfl rfl rfl rfl rfl rfl rfl ⟨rfl, rfl, rfl, rfl, rfl⟩ rfl rfl rfl rfl rfl (by kernel_rfl) Yba.func3 (by kernel_rfl)
    (of_decide_eq_true (by kernel_rfl)) (by unfold Func.isWrapper; first | (rw [if_pos (by decide +kernel)]; kernel_rfl) | (rw [if_neg (by decide +kernel)]; exact ⟨rfl, rfl⟩))
    (fun os started H enc _ => lifted os started H enc)

theorem proved : Rows.LawS0379AUnlinkScriptSaid := over
end Go.Proofs.Ybulkgvc.lawS0379AUnlinkScript
