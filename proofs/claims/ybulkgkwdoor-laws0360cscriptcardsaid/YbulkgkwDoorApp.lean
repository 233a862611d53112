import Derived.Test.YbulkgkwDoorRec
namespace Go.Proofs.YbulkgkwDoor
open Go.RowKit
set_option linter.unusedVariables false
attribute [local go_sem ↓] Go.wp_at_zero Go.wp_at_succ

/-- The record of a datagram: its key, the endpoint behind its length, the data behind its length. -/
def rcd (ks : List Int) (p : Int) (s : Bool) (ys : List Int) : List Int := ks ++ ([3] ++ (ep p s ++ (uv ys.length ++ ys)))

def Apart (lo hi : Nat) (ao : Option Addr) : Prop := ∀ a, ao = some a → a.block < lo ∨ hi ≤ a.block
theorem Apart.step {lo hi : Nat} {w w' : World} {ao ao' : Option Addr} {cap n' cap' : Nat} (h : Apart lo hi ao) (hs : Step w w' ao cap ao' n' cap') (hh : hi ≤ w.heap.size) : Apart lo hi ao' := by
  intro a ha
  rcases hs.lies with rfl | ⟨b, hb, hl⟩
  · exact h a ha
  · rw [ha] at hb; obtain rfl := Option.some.inj hb; exact .inr (by omega)
theorem Apart.ne {lo hi : Nat} {ao : Option Addr} (h : Apart lo hi ao) {b : Nat} (h1 : lo ≤ b) (h2 : b < hi) : some b ≠ ao.map (·.block) := by
  cases ao with
  | none => simp
  | some a => simp; have := h a rfl; omega

theorem bytes_blk {w : World} {b : Nat} {ks : List Int} {t : TypeId} {fr : Nat × Nat} (h : w.heap[b]? = some (.cells (bs ks).toArray t fr)) : Bytes w (some ⟨b, 0, none⟩) ks.length ks := by
  refine ⟨rfl, (fun h => by cases h), fun a ha j u hu => ?_⟩
  obtain rfl := Option.some.inj ha
  rw [Addr.add_lit, Nat.zero_add, blk_cell h j, List.getElem?_toArray, hu]

/-- A run of appends onto one slice: what is owned by now, the frame since w0, the locals' blocks lo .. hi as they were in w1. -/
structure St (w0 w1 : World) (base : Nat) (ao0 : Option Addr) (cap0 lo hi : Nat) (w : World) (ao : Option Addr) (n cap : Nat) (xs : List Int) : Prop where
  own : Own base w ao n cap xs
  step : Step w0 w ao0 cap0 ao n cap
  apart : Apart lo hi ao
  size : hi ≤ w.heap.size
  low : base ≤ lo
  kept : ∀ b, lo ≤ b → b < hi → w.heap[b]? = w1.heap[b]?
theorem St.next {w0 w1 : World} {base : Nat} {ao0 : Option Addr} {cap0 lo hi : Nat} {w : World} {ao : Option Addr} {n cap : Nat} {xs : List Int} (h : St w0 w1 base ao0 cap0 lo hi w ao n cap xs) {w' : World} {ao' : Option Addr} {n' cap' : Nat} {ys : List Int}
    (ho : Own base w' ao' n' cap' (xs ++ ys)) (hs : Step w w' ao cap ao' n' cap') : St w0 w1 base ao0 cap0 lo hi w' ao' n' cap' (xs ++ ys) := by
  have e1 := h.own.len
  have e2 := ho.len
  rw [List.length_append] at e2
  exact ⟨ho, h.step.trans hs (by omega), h.apart.step hs h.size, Nat.le_trans h.size hs.grown.size, h.low, fun b h1 h2 => (hs.grown.block b (by have := h.size; omega) (h.apart.ne h1 h2)).trans (h.kept b h1 h2)⟩
theorem St.drew {w0 w1 : World} {base : Nat} {ao0 : Option Addr} {cap0 lo hi : Nat} {w : World} {ao : Option Addr} {n cap : Nat} {xs : List Int} (h : St w0 w1 base ao0 cap0 lo hi w ao n cap xs) : St w0 w1 base ao0 cap0 lo hi w.drew ao n cap xs :=
  ⟨h.own.drew, h.step.trans (Step.of_grown (grownBy_drew w none) ao n cap) (Nat.le_refl _), h.apart, h.size, h.low, h.kept⟩
theorem St.len {w0 w1 : World} {base : Nat} {ao0 : Option Addr} {cap0 lo hi : Nat} {w : World} {ao : Option Addr} {n cap : Nat} {xs ys : List Int} (h : St w0 w1 base ao0 cap0 lo hi w ao n cap (xs ++ ys)) : n = xs.length + ys.length := by
  rw [← h.own.len, List.length_append]
theorem St.base {w0 w1 : World} {base : Nat} {ao0 : Option Addr} {cap0 lo hi : Nat} {w : World} {ao : Option Addr} {n cap : Nat} {xs : List Int} (h : St w0 w1 base ao0 cap0 lo hi w ao n cap xs) (hl : lo ≤ hi) : base ≤ w.heap.size := by
  have := h.low; have := h.size; omega
theorem St.bytes {w0 w1 : World} {base : Nat} {ao0 : Option Addr} {cap0 lo hi : Nat} {w : World} {ao : Option Addr} {n cap : Nat} {xs : List Int} (h : St w0 w1 base ao0 cap0 lo hi w ao n cap xs) {bo : Option Addr} {m : Nat} {ys : List Int} (hy : Bytes w0 bo m ys) (hne : ∀ a : Addr, bo = some a → m ≠ 0 → some a.block ≠ ao0.map (·.block)) : Bytes w bo m ys := hy.kept h.step.grown hne

set_option maxHeartbeats 400000 in
theorem apprec_any (base : Nat) (ao : Option Addr) (n cap : Nat) (xs : List Int) (ks : List Int) (bo : Option Addr) (m c : Nat) (ys : List Int) (p : Int) (s : Bool) (w : World)
    (h : Own base w ao n cap xs) (hb : base ≤ w.heap.size) (hn : n ≤ 10000000) (hk : ks.length = 16) (hy : Bytes w bo m ys) (hyb : ∀ a, bo = some a → m ≠ 0 → a.block < base) (hm : m ≤ 1024) (h0 : 0 ≤ p) (hp : p < 65536) (hz0 : w.cell? ⟨0, 0, none⟩ = some (.pointer none)) (hp0 : 0 < base) :
    Calls Ybad.prog 10 #[.slice ao n cap, .agg (bs ks).toArray, .agg #[.slice bo m c, .int .u64 0, .int .u64 0, .pointer none, .int .u16 p, .bool s]] w fun e w' => ∃ ao' n' cap', e = .returned (.slice ao' n' cap') ∧ Own base w' ao' n' cap' (xs ++ rcd ks p s ys) ∧ Step w w' ao cap ao' n' cap' := by
  obtain ⟨K, hK⟩ : ∃ K, K = (bs ks).toArray := ⟨_, rfl⟩
  have HK : Hid _ := hK
  rw [← hK]
  clear hK
  go_enter Ybad.func10, Ybad.ntmps10
  go_wp2_with fail
  have hG0 := alloc3 w (.cells K 32) (.cells #[.slice bo m c, .int .u64 0, .int .u64 0, .pointer none, .int .u16 p, .bool s] 46) (.cells (Array.replicate 32 (.int .u8 0)) 58)
  have hK0 := blk_new w (.cells K 32) (alloc2 (w.alloc (.cells K 32)) (.cells #[.slice bo m c, .int .u64 0, .int .u64 0, .pointer none, .int .u16 p, .bool s] 46) (.cells (Array.replicate 32 (.int .u8 0)) 58))
  have hS0 := blk_new (w.alloc (.cells K 32)) (.cells #[.slice bo m c, .int .u64 0, .int .u64 0, .pointer none, .int .u16 p, .bool s] 46) (alloc1 _ (.cells (Array.replicate 32 (.int .u8 0)) 58))
  have hO0 : Own (w.heap.size + 1 + 1) (((w.alloc (.cells K 32)).alloc (.cells #[.slice bo m c, .int .u64 0, .int .u64 0, .pointer none, .int .u16 p, .bool s] 46)).alloc (.cells (Array.replicate 32 (.int .u8 0)) 58)) (some ⟨w.heap.size + 1 + 1, 0, none⟩) 0 32 [] := own_buf' _ _ _ (by simp) (by rfl)
  rw [World.size_alloc] at hS0
  have hz : (((w.alloc (.cells K 32)).alloc (.cells #[.slice bo m c, .int .u64 0, .int .u64 0, .pointer none, .int .u16 p, .bool s] 46)).alloc (.cells (Array.replicate 32 (.int .u8 0)) 58)).heap.size = w.heap.size + 3 := by simp
  change Code.wp _ _ _ _ (((w.alloc (.cells K 32)).alloc (.cells #[.slice bo m c, .int .u64 0, .int .u64 0, .pointer none, .int .u16 p, .bool s] 46)).alloc (.cells (Array.replicate 32 (.int .u8 0)) 58))
  generalize (((w.alloc (.cells K 32)).alloc (.cells #[.slice bo m c, .int .u64 0, .int .u64 0, .pointer none, .int .u16 p, .bool s] 46)).alloc (.cells (Array.replicate 32 (.int .u8 0)) 58)) = W0 at hG0 hK0 hS0 hO0 hz ⊢
  have hz1 : W0.cell? ⟨0, 0, none⟩ = some (.pointer none) := z_kept hG0 hz0 (by simp)
  go_region_held3 (fun w' => w'.cell? ⟨w.heap.size + 1, 1, none⟩ = some (.int .u64 0) ∧ w'.cell? ⟨w.heap.size + 1, 2, none⟩ = some (.int .u64 0) ∧ w'.cell? ⟨w.heap.size + 1, 3, none⟩ = some (.pointer none) ∧ w'.cell? ⟨w.heap.size + 1, 4, none⟩ = some (.int .u16 p) ∧ w'.cell? ⟨w.heap.size + 1, 5, none⟩ = some (.bool s))
    (first | exact (blk6 (show W0.drew.heap[w.heap.size + 1]? = _ from hS0)).2 | exact (blk6 hB1).2)
    ((go_at_call 13; refine (endpoint_buf (w.heap.size + 1 + 1) p s _ ?_ h0 hp ?_ ?_).mono ?_; (exact Own.drew hO0); (exact hz1); (show 0 < W0.heap.size; omega); rintro e w1 ⟨rfl, ho1, hg1⟩; have hB1 := blk_kept hg1 (show W0.drew.heap[w.heap.size + 1]? = _ from hS0) (by simp)))
  have hG1 : w.grownBy w1 none := grown_new (grownBy_trans hG0 (grownBy_drew _ _)) hg1 (by omega)
  have hK1 : w1.heap[w.heap.size]? = some (.cells K 32) := blk_kept hg1 (show W0.drew.heap[w.heap.size]? = _ from hK0) (fun e => by have := Option.some.inj e; omega)
  have hs1 : w.heap.size + 3 ≤ w1.heap.size := by have := hg1.size; rw [show W0.drew.heap.size = W0.heap.size from rfl, hz] at this; exact this
  have hAb : ∀ a : Addr, bo = some a → m ≠ 0 → some a.block ≠ ao.map (·.block) := (fun a ha hm0 => by
    cases ao with
    | none => simp
    | some a' => simp; have := hyb a ha hm0; have := (h.blk a' rfl).1; omega)
  have hub : (uv m).length ≤ 2 := by unfold uv; split <;> simp
  have hln := h.len
  have st1 : St w w1 base ao cap w.heap.size (w.heap.size + 3) w1 ao n cap xs := ⟨h.grown hG1, Step.of_grown hG1 ao n cap, fun a ha => .inl (h.blk a ha).2, hs1, hb, fun _ _ _ => rfl⟩
  rw [HK.out] at hK1
  have hkb := bytes_blk hK1
  rw [hk] at hkb
  have HB1 : Hid _ := hB1
  clear hg1 hG0 hK0 hS0 hO0 hz hz1 W0 hG1 hB1 hK1
  go_wp2_with (at_builtin; refine wpList_app (by rfl) (.tmp 13) (.tmp 14) (by rfl) base (by rfl) st1.own (by rfl) hkb (by omega) (by omega) ?_; intro ao2 n2 cap2 w2 ho2 hst2)
  have st2 := st1.next ho2 hst2
  have hl2 := st2.len
  rw [hln, hk] at hl2
  have hto2 := ho1.kept hst2.grown (fun a ha => by obtain rfl := Option.some.inj ha; exact st1.apart.ne (by simp <;> omega) (by simp <;> omega))
  clear hst2 ho2 ho1 hkb
  have HL2 : Hid _ := hl2
  have hb2 : n2 ≤ 20000000 := by omega
  clear hl2
  refine (uvarint_any base ao2 n2 cap2 _ 3 w2 st2.own (st2.base (by omega)) (by omega) (by omega) (by omega)).mono ?_
  rintro e w3 ⟨ao3, n3, cap3, rfl, ho3, hst3⟩
  have st3 := st2.next ho3 hst3
  have hto3 := hto2.kept hst3.grown (fun a ha => by obtain rfl := Option.some.inj ha; exact st2.apart.ne (by simp <;> omega) (by simp <;> omega))
  have hb3 : n3 ≤ 20000001 := by have := st3.len; rw [st2.own.len, show (uv 3).length = 1 from rfl] at this; omega
  have hs3 := st3.base (by omega)
  clear hst3 ho3 hto2
  go_wp2_with (at_builtin; refine wpList_app (by rfl) (.tmp 20) (.tmp 21) (by rfl) base (by rfl) st3.own (by rfl) hto3.bytes (by omega) (by omega) ?_; intro ao4 n4 cap4 w4 ho4 hst4)
  have st4 := st3.next ho4 hst4
  have hb4 : n4 ≤ 20000004 := by have := st4.len; rw [st3.own.len, show (ep p s).length = 3 from rfl] at this; omega
  have hs4 := st4.base (by omega)
  clear hst4 ho4 hto3 st3 st2 hs3
  have hB4 : w4.heap[w.heap.size + 1]? = _ := (st4.kept (w.heap.size + 1) (by omega) (by omega)).trans HB1.out
  have HB4 : Hid _ := hB4
  clear hB4 HB1
  have hcall : Calls Ybad.prog 12 #[.slice ao4 n4 cap4, .int .u64 m] w4.drew fun e w' => ∃ ao' n' cap', e = .returned (.slice ao' n' cap') ∧ (n' ≤ 20000010 ∧ w'.cell? ⟨w.heap.size + 1, 0, none⟩ = some (.slice bo m c)) ∧ St w w1 base ao cap w.heap.size (w.heap.size + 3) w' ao' n' cap' ((xs ++ ks ++ uv 3 ++ ep p s) ++ uv m) := by
    refine (uvarint_any base ao4 n4 cap4 _ m w4.drew st4.own.drew hs4 (by omega) (by omega) (by omega)).mono ?_
    rintro e w5 ⟨ao5, n5, cap5, rfl, ho5, hst5⟩
    have st5 := st4.drew.next ho5 hst5
    refine ⟨ao5, n5, cap5, rfl, ⟨?_, ?_⟩, st5⟩
    · have := st5.len; rw [st4.own.len] at this; omega
    · exact blk_cell ((st5.kept (w.heap.size + 1) (by omega) (by omega)).trans ((st4.kept (w.heap.size + 1) (by omega) (by omega)).symm.trans HB4.out)) 0
  have HB4c : w4.drew.cell? ⟨w.heap.size + 1, 0, none⟩ = some (.slice bo m c) := blk_cell (show w4.drew.heap[w.heap.size + 1]? = _ from HB4.out) 0
  have hwm : IntKind.u64.wrap (m : Int) = m := IntWalk.u64_in _ (by omega)
  have HC : Hid _ := hcall
  clear hcall
  go_region_held3 (fun w' => w'.cell? ⟨w.heap.size + 1, 0, none⟩ = some (.slice bo m c))
    (first | exact hc6 | exact hc5 | exact HB4c)
    (first
      | (go_at_call 12; refine Calls.mono HC.out ?_; rintro e w5 ⟨ao5, n5, cap5, rfl, ⟨hn5, hc5⟩, st5⟩)
      | (have hx5 := st5; clear hx5; refine step_app (by rfl) (.tmp 28) (.tmp 30) (by rfl) base (by rfl) st5.own (by rfl) (st5.bytes hy hAb) (by omega) (st5.base (by omega)) ?_; intro ao6 n6 cap6 w6 ho6 hst6; have st6 := st5.next ho6 hst6; have hc6 : w6.cell? ⟨w.heap.size + 1, 0, none⟩ = some (.slice bo m c) := (World.cell?_of_block (w := w5) (a := ⟨w.heap.size + 1, 0, none⟩) ((st6.kept (w.heap.size + 1) (by omega) (by omega)).trans (st5.kept (w.heap.size + 1) (by omega) (by omega)).symm)).trans hc5; clear hst6 ho6))
  go_wp2_with fail
  go_ret
  refine ⟨ao6, n6, cap6, rfl, ?_, st6.step⟩
  have e := st6.own
  rw [uv_small (show (3 : Int) < 128 by omega)] at e
  simpa [rcd, hy.len, List.append_assoc] using e
end Go.Proofs.YbulkgkwDoor
