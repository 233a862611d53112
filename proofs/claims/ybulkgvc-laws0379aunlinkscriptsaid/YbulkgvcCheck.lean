/-
  zzs0379acheck, walked.
-/
import Derived.Test.YbulkgvcUnlink
import Derived.Lib.Builder
namespace Go.Proofs.Ybulkgvc
open Go.RowKit
set_option linter.unusedVariables false
set_option linter.unusedSimpArgs false

theorem Yba.info36 : (Yba.prog.info? 36).map (fun i => (i.zero, i.size, i.bytes)) = some (some (.agg #[.pointer none, .int .i64 0, .slice none 0 0, .slice none 0 0, .int .i64 0, .pointer none, .pointer none]), 7, 88) := by kernel_rfl
theorem eql_same (a : Addr) (w : World) : (binOp .eql 28 (.pointer (some a)) (.pointer (some a))).run Yba.prog w = .ok (.bool true) w := by
  cases h : Yba.prog.info? 36 with
  | none => have := Yba.info36; rw [h] at this; cases this
  | some j => exact run_eql_ptr_same w a Yba.underlying28 h
theorem neq_same (a : Addr) (w : World) : (binOp .neq 28 (.pointer (some a)) (.pointer (some a))).run Yba.prog w = .ok (.bool false) w := by
  cases h : Yba.prog.info? 36 with
  | none => have := Yba.info36; rw [h] at this; cases this
  | some j => exact Lib.run_neq_ptr_same w a Yba.underlying28 h

set_option maxRecDepth 100000 in
set_option maxHeartbeats 2000000 in
theorem check_any (w : World) (P : Nat) (c : Nat → Nat) (n m N g cap : Nat) (ao : Option Addr) (s : Lk) (L : List Nat) (h : Rep w P c n s) (hl : IsL s L) (hL : ∀ i ∈ L, i < n) (hnm : n ≤ m) (hm8 : m ≤ 8) (hLm : L.length ≤ 8)
    (hnodes : ∀ i, i < n → w.cell? ⟨N, i, none⟩ = some (ptr c (some i))) (hao : 0 < L.length → ao = some ⟨g, 0, none⟩) (hmod : ∀ (j x : Nat), L[j]? = some x → w.cell? ⟨g, j, none⟩ = some (.int .i64 (x : Int))) :
    Calls Yba.prog 6 #[.pointer (some ⟨P, 0, none⟩), .slice (some ⟨N, 0, none⟩) m m, .slice ao L.length cap] w fun e w' => e = .returned (.bool true) ∧ w' = w := by
  have H0 : Hid (Rep w P c n s) := h
  obtain ⟨a1, a2, a3, a4⟩ := h.new
  clear h
  have HL : Hid (IsL s L) := hl
  rw [hl.new] at a1
  rw [hl.old] at a2
  clear hl
  generalize hlen : L.length = len at *
  have hq1 := eql_same
  have hq2 := neq_same
  go_enter Yba.func6, Yba.ntmps6
  simp only [ptr] at a1 a2
  go_wp2_with fail
  go_loopw [7, 8, 9] (fun cv pv i wr => ∃ A B : List Nat, L = A ++ B ∧ i = .int .i64 (A.length : Int) ∧ cv = ptr c B.head? ∧ pv = ptr c A.getLast? ∧ wr = w) (fun _ _ i _ => len - (intOf i).toNat)
  case atStart => exact ⟨[], L, rfl, rfl, rfl, rfl, rfl⟩
  case round =>
    obtain ⟨A, B, hAB, rfl, rfl, rfl, rfl⟩ := hrel
    cases B with
    | nil =>
      have hA : (A.length : Int) = len := by rw [← hlen, hAB]; simp
      rw [hAB] at a2
      simp only [List.append_nil] at a2
      clear a1
      cases hlast : A.getLast? with
      | none =>
        simp only [hlast, ptr, Option.map_none, List.head?_nil] at *
        go_wp2_with fail
        go_ret
        exact ⟨rfl, rfl⟩
      | some y =>
        simp only [hlast, ptr, Option.map_some, Option.map_none, List.head?_nil] at *
        go_wp2_with fail
        go_ret
        exact ⟨rfl, rfl⟩
    | cons x B' =>
      have hs := HL.out.seg
      rw [hAB, seg_append] at hs
      obtain ⟨_, hxn, hxo, _⟩ := hs
      simp only [Option.or_none] at hxn hxo
      have hxL : L[A.length]? = some x := by rw [hAB]; simp
      have hAl : A.length < len := by rw [← hlen, hAB]; simp
      have hxlt : x < n := hL x (by rw [hAB]; simp)
      have hc1 := hmod _ _ hxL
      have hc2 := hnodes x hxlt
      obtain rfl := hao (by omega)
      obtain ⟨b1, b2, _, _⟩ := H0.out.nod hxlt
      rw [hxn] at b1
      rw [hxo] at b2
      have HAB : Hid (L = A ++ x :: B') := hAB
      clear hAB hxn hxo hxL a1 a2 hnodes hmod hL hao
      have hi1 : (A.length : Int) < len := by omega
      have hi2 : (x : Int) < m := by omega
      generalize hAe : A.length = q at *
      have HAE : Hid (A.length = q) := hAe
      clear hAe
      cases hlast : A.getLast? with
      | none =>
        simp only [hlast, ptr, Option.map_some, Option.map_none, List.head?_cons] at *
        go_wp2_with fail
        go_roundw
        case rel =>
          refine ⟨A ++ [x], B', by simp [HAB.out], by simp [HAE.out], rfl, by simp [ptr], trivial⟩
        case measure => simp [intOf]; omega
      | some y =>
        simp only [hlast, ptr, Option.map_some, Option.map_none, List.head?_cons] at *
        go_wp2_with fail
        go_roundw
        case rel =>
          refine ⟨A ++ [x], B', by simp [HAB.out], by simp [HAE.out], rfl, by simp [ptr], trivial⟩
        case measure => simp [intOf]; omega
end Go.Proofs.Ybulkgvc
