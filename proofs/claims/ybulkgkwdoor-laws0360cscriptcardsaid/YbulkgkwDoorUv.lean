import Derived.Test.YbulkgkwDoorOwn
import Derived.WalkSpells
import Derived.WalkLawsBesides
namespace Go.Proofs.YbulkgkwDoor
open Go.RowKit

/-- A number below 16384 as a uvarint. -/
def uv (x : Int) : List Int := if x < 128 then [x] else [x % 128 + 128, x / 128]
theorem uv_small {x : Int} (h : x < 128) : uv x = [x] := by simp [uv, h]
theorem uv_step {x : Int} (h : 128 ≤ x) (h2 : x < 16384) : uv x = [x % 128 + 128] ++ uv (x / 128) := by
  have h3 : x / 128 < 128 := by omega
  rw [uv_small h3]; simp [uv, show ¬ x < 128 by omega]

theorem or128_nat : ∀ k : Fin 256, bits BinOp.or IntKind.u8 ((k.val : Nat) : Int) 128 = ((k.val : Nat) : Int) % 128 + 128 := by decide +kernel
theorem or128 (y : Int) (_h0 : 0 ≤ y) : bits BinOp.or IntKind.u8 (y % 256) 128 = y % 128 + 128 := by
  have h1 : 0 ≤ y % 256 ∧ y % 256 < 256 := by omega
  have h2 := or128_nat ⟨(y % 256).toNat, by omega⟩
  simp only [show (((y % 256).toNat : Nat) : Int) = y % 256 by omega] at h2
  rw [h2]; omega

theorem Step.app {w w1 w2 : World} {o : Obj} {ao ao1 ao2 : Option Addr} {cap n1 cap1 n2 cap2 : Nat} (h : Step w w1 ao cap ao1 n1 cap1) (k : Step (w1.alloc o) w2 ao1 cap1 ao2 n2 cap2) (hn : n1 ≤ n2) : Step w w2 ao cap ao2 n2 cap2 :=
  (h.trans (Step.of_grown (World.grownBy_alloc w1 o none) ao1 n1 cap1) (Nat.le_refl _)).trans k hn

set_option maxHeartbeats 400000 in
theorem uvarint_any (base : Nat) (ao : Option Addr) (n cap : Nat) (xs : List Int) (x : Int) (w : World) (h : Own base w ao n cap xs) (hb : base ≤ w.heap.size) (hn : n ≤ 1000000000) (hx0 : 0 ≤ x) (hx : x < 16384) :
    Calls Ybad.prog 12 #[.slice ao n cap, .int .u64 x] w fun e w' => ∃ ao' n' cap', e = .returned (.slice ao' n' cap') ∧ Own base w' ao' n' cap' (xs ++ uv x) ∧ Step w w' ao cap ao' n' cap' := by
  go_enter Ybad.func12, Ybad.ntmps12
  go_wp2
  go_loopw [0, 1] (fun v y wr => ∃ ao1 n1 cap1 ys y', v = .slice ao1 n1 cap1 ∧ y = .int .u64 y' ∧ 0 ≤ y' ∧ y' < 16384 ∧ Own base wr ao1 n1 cap1 (xs ++ ys) ∧ Step w wr ao cap ao1 n1 cap1 ∧ Hid (ys ++ uv y' = uv x) ∧ base ≤ wr.heap.size ∧ n1 + y'.toNat ≤ 1000000000 + 16384)
    (fun _ y _ => (intOf y).toNat)
  case atStart => exact ⟨ao, n, cap, [], x, rfl, rfl, hx0, hx, by simpa using h, Step.refl _ _ _ _, (by show _ = _; simp), hb, by omega⟩
  case round =>
    obtain ⟨ao1, n1, cap1, ys, y, rfl, rfl, hy0, hy, ho, hst, H, hb1, hn1⟩ := hrel
    by_cases hlt : 128 ≤ y
    · go_wp2_with (at_builtin; refine wpList_app (by rfl) (.tmp 7) (.tmp 11) (by rfl) base (by rfl) (ho.alloc _) (by rfl) (bytes_one _ _ _) (by omega) (by simp; omega) ?_; intro ao2 n2 cap2 w2 ho2 hst2)
      have hl1 := ho.len
      have hl2 := ho2.len
      simp only [List.length_append, List.length_cons, List.length_nil] at hl1 hl2
      rw [or128 y hy0] at ho2
      rw [List.append_assoc] at ho2
      have hsz := hst2.grown.size
      simp only [World.size_alloc] at hsz
      go_roundw
      case rel => exact ⟨ao2, n2, cap2, _, _, rfl, rfl, by omega, by omega, ho2, hst.app hst2 (by omega), (by show _ = _; rw [List.append_assoc, ← uv_step hlt hy]; exact H.out), by omega, by omega⟩
      case measure => simp [intOf]; omega
    · go_wp2_with (at_builtin; refine wpList_app (by rfl) (.tmp 15) (.tmp 18) (by rfl) base (by rfl) (ho.alloc _) (by rfl) (bytes_one _ _ _) (by omega) (by simp; omega) ?_; intro ao2 n2 cap2 w2 ho2 hst2)
      have hl1 := ho.len
      have hl2 := ho2.len
      simp only [List.length_append, List.length_cons, List.length_nil] at hl1 hl2
      have e := H.out
      rw [uv_small (by omega)] at e
      rw [List.append_assoc, e] at ho2
      go_ret
      exact ⟨ao2, n2, cap2, rfl, ho2, hst.app hst2 (by omega)⟩
end Go.Proofs.YbulkgkwDoor
