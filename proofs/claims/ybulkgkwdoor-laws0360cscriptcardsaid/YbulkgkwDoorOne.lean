import Derived.Test.YbulkgkwDoorAddb
namespace Go.Proofs.YbulkgkwDoor
open Go.RowKit
set_option linter.unusedVariables false
attribute [local go_sem ↓] Go.wp_at_zero Go.wp_at_succ

theorem below_grown {B : Nat} {w w1 w2 : World} {r : Option Nat} (h : Below B w w1) (hg : w1.grownBy w2 r) (hB : B ≤ w1.heap.size) (hr : ∀ k, r = some k → B ≤ k) : Below B w w2 := h.grown hg hB hr
theorem below_step {B : Nat} {w w1 w2 : World} {ao ao' : Option Addr} {n cap n' cap' : Nat} {xs : List Int} (h : Below B w w1) (ho : Own B w1 ao n cap xs) (hs : Step w1 w2 ao cap ao' n' cap') (hB : B ≤ w1.heap.size) : Below B w w2 :=
  h.grown hs.grown hB (fun k hk => by
    cases ao with
    | none => simp at hk
    | some a => simp at hk; rw [← hk]; exact (ho.blk a rfl).1)
theorem below_bytes {B : Nat} {w w1 : World} (h : Below B w w1) {ao : Option Addr} {n : Nat} {xs : List Int} (hx : Bytes w ao n xs) (hb : ∀ a, ao = some a → n ≠ 0 → a.block < B) : Bytes w1 ao n xs := by
  refine ⟨hx.len, hx.nil, fun a ha j u hu => ?_⟩
  have hj : j < n := by
    have := (List.getElem?_eq_some_iff.1 hu).1
    rw [bs_length, hx.len] at this; exact this
  have hbl : (a.add j).block = a.block := by unfold Addr.add; split <;> rfl
  rw [h.cell (p := a.add j) (by rw [hbl]; exact hb a ha (by omega))]
  exact hx.cells a ha j u hu

set_option maxRecDepth 100000 in
set_option maxHeartbeats 1000000 in
theorem one_long (io : Option Addr) (n0 q0 : Nat) (ex : Int) (near : Bool) (c16 : Int) (k0 k1 k2 k3 k4 k5 k6 k7 k8 k9 k10 k11 k12 k13 k14 k15 : Int) (p : Int) (s : Bool) (bo : Option Addr) (m c : Nat) (w : World) (h : 1024 < n0 ∨ 1024 < m) :
    Calls Ybad.prog 4 #[.slice io n0 q0, .int .u8 ex, .bool near, .int .u16 c16, .agg #[.int .u8 k0, .int .u8 k1, .int .u8 k2, .int .u8 k3, .int .u8 k4, .int .u8 k5, .int .u8 k6, .int .u8 k7, .int .u8 k8, .int .u8 k9, .int .u8 k10, .int .u8 k11, .int .u8 k12, .int .u8 k13, .int .u8 k14, .int .u8 k15], .int .u16 p, .bool s, .slice bo m c] w fun e w' => e = .returned (.bool true) ∧ Below w.heap.size w w' := by
  by_cases h1 : (1024 : Int) < n0
  · go_enter Ybad.func4, Ybad.ntmps4
    go_wp2_with fail
    go_ret
    exact ⟨rfl, (Below.refl _ _).alloc (Nat.le_refl _) _⟩
  · have h2 : (1024 : Int) < m := by omega
    go_enter Ybad.func4, Ybad.ntmps4
    go_wp2_with fail
    go_ret
    exact ⟨rfl, (Below.refl _ _).alloc (Nat.le_refl _) _⟩

theorem Ybad.size23 : (Ybad.prog.info? 23).map (·.size) = some 16 := by kernel_rfl
theorem range_blk {w : World} {b : Nat} {cs : List Value} {t : TypeId} {fr : Nat × Nat} (h : w.heap[b]? = some (.cells cs.toArray t fr)) : w.rangeAt b 0 cs := fun j v hv => by
  rw [Nat.zero_add, blk_cell h j, List.getElem?_toArray, hv]
theorem csent_x (p : Int) (s : Bool) (ao : Option Addr) (n c : Nat) (w : World) :
    Calls Ybad.prog 6 #[.int .u16 p, .bool s, .slice ao n c] w fun e w' => e = .returned (.agg #[.slice ao n c, .int .u64 0, .int .u64 0, .pointer none, .int .u16 p, .bool s]) ∧ w.grownBy w' none := csent_any p s ao n c w
theorem Gen.grown {base : Nat} {w w' : World} {gb : Nat} {ao : Option Addr} {n cap cnt : Nat} {xs : List Int} (h : Gen base w gb ao n cap cnt xs) (hg : w.grownBy w' none) : Gen base w' gb ao n cap cnt xs :=
  ⟨blk_kept hg h.blk (by simp), h.own.grown hg, h.ne⟩
theorem hz_of {w w4 w5 : World} (hg : w4.grownBy w5 none) (hb : Below w.heap.size w w4) {v : Value} (hz : w.cell? ⟨0, 0, none⟩ = some v) (hp0 : 0 < w.heap.size) : w5.cell? ⟨0, 0, none⟩ = some v :=
  z_kept hg ((hb.cell (p := ⟨0, 0, none⟩) hp0).trans hz) (by simp)

theorem fr_blk {w w' : World} {gb : Nat} {ao : Option Addr} (h : Fr w w' gb ao) {b : Nat} {o : Obj} (hb : w.heap[b]? = some o) (h1 : b ≠ gb) (h2 : ∀ a, ao = some a → a.block ≠ b) : w'.heap[b]? = some o :=
  (h.block b (Array.getElem?_eq_some_iff.1 hb).1 h1 (fun e => by
    cases ao with
    | none => simp at e
    | some a => simp at e; exact h2 a rfl e.symm)).trans hb
theorem fr_own {B : Nat} {w w' : World} {gb : Nat} {ao ao1 : Option Addr} {n cap : Nat} {xs : List Int} (h : Fr w w' gb ao) (ho : Own B w ao1 n cap xs) (h1 : ∀ a, ao1 = some a → a.block ≠ gb) (h2 : ∀ a b, ao1 = some a → ao = some b → b.block ≠ a.block) : Own B w' ao1 n cap xs := by
  have hb : ∀ a, ao1 = some a → w'.heap[a.block]? = w.heap[a.block]? := fun a ha => h.block a.block (ho.blk a ha).2 (h1 a ha) (fun e => by
    cases hao : ao with
    | none => rw [hao] at e; simp at e
    | some b => rw [hao] at e; simp at e; exact h2 a b ha hao e.symm)
  exact ⟨ho.len, ho.le, ho.max, ho.nil, ho.off, fun a ha => ⟨(ho.blk a ha).1, Nat.lt_of_lt_of_le (ho.blk a ha).2 h.size⟩, fun a ha j hj => by
    rw [World.cell?_of_block (w := w) (a := ⟨a.block, j, none⟩) (hb a ha)]; exact ho.cells a ha j hj, fun a ha j hj => by
    rw [World.cell?_of_block (w := w) (a := ⟨a.block, j, none⟩) (hb a ha), World.frozen?_of_block (w := w) (a := ⟨a.block, j, none⟩) (hb a ha)]; exact ho.there a ha j hj⟩
theorem below_fr {B : Nat} {w w1 w2 : World} {gb : Nat} {ao : Option Addr} (hb : Below B w w1) (h : Fr w1 w2 gb ao) (hB : B ≤ w1.heap.size) (h1 : B ≤ gb) (h2 : ∀ a, ao = some a → B ≤ a.block) : Below B w w2 :=
  hb.trans ⟨h.os, h.tape, h.output, h.size, fun k hk => h.block k (by omega) (by omega) (fun e => by
    cases ao with
    | none => simp at e
    | some a => simp at e; have := h2 a rfl; omega)⟩
theorem below_own {B N : Nat} {w w' : World} {ao : Option Addr} {n cap : Nat} {xs : List Int} (h : Below N w w') (ho : Own B w ao n cap xs) (hN : w.heap.size ≤ N) : Own B w' ao n cap xs := by
  have hb : ∀ a, ao = some a → w'.heap[a.block]? = w.heap[a.block]? := fun a ha => h.block a.block (by have := (ho.blk a ha).2; omega)
  exact ⟨ho.len, ho.le, ho.max, ho.nil, ho.off, fun a ha => ⟨(ho.blk a ha).1, Nat.lt_of_lt_of_le (ho.blk a ha).2 h.size⟩, fun a ha j hj => by
    rw [World.cell?_of_block (w := w) (a := ⟨a.block, j, none⟩) (hb a ha)]; exact ho.cells a ha j hj, fun a ha j hj => by
    rw [World.cell?_of_block (w := w) (a := ⟨a.block, j, none⟩) (hb a ha), World.frozen?_of_block (w := w) (a := ⟨a.block, j, none⟩) (hb a ha)]; exact ho.there a ha j hj⟩

set_option maxRecDepth 100000 in
set_option maxHeartbeats 1000000 in
theorem one_short (io : Option Addr) (n0 q0 : Nat) (is : List Int) (ex : Int) (near : Bool) (c16 : Int) (k0 k1 k2 k3 k4 k5 k6 k7 k8 k9 k10 k11 k12 k13 k14 k15 : Int) (p : Int) (s : Bool) (bo : Option Addr) (m c : Nat) (ys : List Int) (w : World)
    (hi : Bytes w io n0 is) (hib : ∀ a, io = some a → n0 ≠ 0 → a.block < w.heap.size) (hy : Bytes w bo m ys) (hyb : ∀ a, bo = some a → m ≠ 0 → a.block < w.heap.size) (hn0 : n0 ≤ 1024) (hm : m ≤ 1024) (hex0 : 0 ≤ ex) (hex : ex ≤ 255) (hc0 : 0 ≤ c16) (hc1 : c16 ≤ 65535) (h0 : 0 ≤ p) (hp : p < 65536) (hz0 : w.cell? ⟨0, 0, none⟩ = some (.pointer none)) (hp0 : 0 < w.heap.size) :
    Calls Ybad.prog 4 #[.slice io n0 q0, .int .u8 ex, .bool near, .int .u16 c16, .agg #[.int .u8 k0, .int .u8 k1, .int .u8 k2, .int .u8 k3, .int .u8 k4, .int .u8 k5, .int .u8 k6, .int .u8 k7, .int .u8 k8, .int .u8 k9, .int .u8 k10, .int .u8 k11, .int .u8 k12, .int .u8 k13, .int .u8 k14, .int .u8 k15], .int .u16 p, .bool s, .slice bo m c] w fun e w' => e = .returned (.bool true) ∧ Below w.heap.size w w' := by
  have h1 : ¬ (1024 : Int) < n0 := by omega
  have h2 : ¬ (1024 : Int) < m := by omega
  have hown0 : ∀ o, Own w.heap.size (w.alloc o) none 0 0 [] := fun o => ⟨rfl, Nat.le_refl _, by unfold maxLen; omega, fun _ => rfl, (fun a ha => by cases ha), (fun a ha => by cases ha), (fun a ha => by cases ha), (fun a ha => by cases ha)⟩
  cases near
  case' false =>
    go_enter Ybad.func4, Ybad.ntmps4
    go_upto_region 6 with fail
    have hC0 : 0 ≤ c16 % 64 ∧ c16 % 64 ≤ 43690 := by omega
    generalize (c16 % 64 : Int) = CC at hC0 ⊢
  case' true =>
    go_enter Ybad.func4, Ybad.ntmps4
    go_upto_region 6 with fail
    have hC0 : 0 ≤ 43690 - c16 % 64 ∧ 43690 - c16 % 64 ≤ 43690 := by omega
    generalize (43690 - c16 % 64 : Int) = CC at hC0 ⊢
  all_goals
    obtain ⟨C, rfl⟩ := Int.eq_ofNat_of_zero_le hC0.1
    have hC1 : C ≤ 43690 := by omega
    clear hC0
    go_wp2_with fail
    refine (crec_any w.heap.size none 0 0 [] [k0, k1, k2, k3, k4, k5, k6, k7, k8, k9, k10, k11, k12, k13, k14, k15] bo m c ys p s _ (hown0 _) (by simp) (by omega) rfl (hy.grown (alloc1 _ _)) hyb hm h0 hp).mono ?_
    rintro e w1 ⟨ao1, n1, cap1, rfl, ho1, hst1⟩
    have hbl1 := below_step ((Below.refl w.heap.size w).alloc (Nat.le_refl _) _) (hown0 _) hst1 (by simp)
    have hk1 := blk_kept hst1.grown (heap_alloc_new w _) (by simp)
    have hln1 := ho1.len
    rw [List.nil_append, rcd_len _ _ _ _ rfl, hy.len] at hln1
    have hrl := rlen_le m
    rw [List.nil_append] at ho1
    have hs1 : w.heap.size + 1 ≤ w1.heap.size := by have := hst1.grown.size; simpa using this
    have HL1 : Hid _ := hln1
    have hn1 : n1 ≤ 1046 := by omega
    clear hst1 hown0 hln1
    have HK1 : Hid _ := hk1
    clear hk1
    go_upto_region 9 with (at_make; refine wpList_mk (by rfl) (.tmp 52) (.tmp 58) (by rfl) w.heap.size .i64 .i64 (n0 : Int) ((n0 : Int) + ex % 64) (by rfl) (by rfl) (by omega) (by omega) (by omega) (by omega) ?_; intro g2 n2 cap2 w2 HE ho2 hgr2 hgl)
    obtain rfl : n0 = n2 := by have := HE.out.1; omega
    have hcap2 : (cap2 : Int) = n0 + ex % 64 := HE.out.2
    have hcb : cap2 ≤ 1100 := by omega
    clear hcap2 HE
    have hbl2 := below_grown hbl1 hgr2 (by omega) (by simp)
    have hi2 := below_bytes hbl2 hi hib
    obtain ⟨v3, w3, hcp, ho3, hgr3⟩ := run_cp w.heap.size ho2 q0 hi2
    have hbl3 := below_grown hbl2 hgr3 (by have := hgr2.size; omega) (fun k hk => by have := Option.some.inj hk; omega)
    have ho13 := (ho1.grown hgr2).kept hgr3 (fun a ha => by have := (ho1.blk a ha).2; simp; omega)
    have hk3 := blk_kept hgr3 (blk_kept hgr2 HK1.out (by simp)) (by simp; omega)
    have hs3 : w1.heap.size + 1 ≤ w3.heap.size := by have := hgr2.size; have := hgr3.size; have := (ho3.blk _ rfl).2; simp at this; omega
    have HK3 : Hid _ := hk3
    have hg2 : w.heap.size + 1 ≤ g2 := by omega
    have hne1 : ∀ a, ao1 = some a → a.block ≠ g2 ∧ a.block < w3.heap.size := fun a ha => by have := (ho1.blk a ha).2; omega
    clear hk3 HK1 ho2 hgr2 hgr3 hi2 hbl1 hbl2 ho1
    go_upto_region 13 with fail
    have hgen : Gen w.heap.size (w3.alloc (.cells #[.slice (some ⟨g2, 0, none⟩) n0 cap2, .int .i64 C] 29)) w3.heap.size (some ⟨g2, 0, none⟩) n0 cap2 C is :=
      ⟨heap_alloc_new w3 _, ho3.alloc _, fun a ha => by obtain rfl := Option.some.inj ha; have := (ho3.blk _ rfl).2; simp at this ⊢; omega⟩
    have hbl4 := hbl3.alloc (by omega) (.cells #[.slice (some ⟨g2, 0, none⟩) n0 cap2, .int .i64 C] 29)
    have ho14 := ho13.alloc (.cells #[.slice (some ⟨g2, 0, none⟩) n0 cap2, .int .i64 C] 29)
    have hk4 := blk_kept (alloc1 w3 (.cells #[.slice (some ⟨g2, 0, none⟩) n0 cap2, .int .i64 C] 29)) HK3.out (by simp)
    have hs4 : (w3.alloc (.cells #[.slice (some ⟨g2, 0, none⟩) n0 cap2, .int .i64 C] 29)).heap.size = w3.heap.size + 1 := by simp
    generalize w3.alloc (.cells #[.slice (some ⟨g2, 0, none⟩) n0 cap2, .int .i64 C] 29) = w4 at hgen hbl4 ho14 hk4 hs4 ⊢
    have hs4' : w.heap.size + 1 ≤ w3.heap.size := by omega
    have hs4l : w3.heap.size < w4.heap.size := by omega
    have HS4 : Hid _ := hs4
    clear hcp hbl3 ho13 HK3 ho3 hs4
    generalize w3.heap.size = gb at *
    have HK4 : Hid _ := hk4
    clear hk4
    by_cases hE : (n0 : Int) + (n1 : Int) ≤ 2097152 - ((C : Int) + 1) * 48
    · by_cases hP : (cap2 : Int) ≤ 2097152 - ((C : Int) + 1) * 48
      · go_upto_region 14 with fail
        have hu23 := Ybad.underlying23
        have hi23 : (Ybad.prog.info? 23).map (·.size) = some ([.int .u8 k0, .int .u8 k1, .int .u8 k2, .int .u8 k3, .int .u8 k4, .int .u8 k5, .int .u8 k6, .int .u8 k7, .int .u8 k8, .int .u8 k9, .int .u8 k10, .int .u8 k11, .int .u8 k12, .int .u8 k13, .int .u8 k14, .int .u8 k15] : List Value).length := Ybad.size23
        have HROOM : Hid _ := And.intro hE hP
        clear hE hP
        go_region_held3 (fun w' => w'.rangeAt w.heap.size 0 [.int .u8 k0, .int .u8 k1, .int .u8 k2, .int .u8 k3, .int .u8 k4, .int .u8 k5, .int .u8 k6, .int .u8 k7, .int .u8 k8, .int .u8 k9, .int .u8 k10, .int .u8 k11, .int .u8 k12, .int .u8 k13, .int .u8 k14, .int .u8 k15])
          (first | exact range_blk HK6.out | exact range_blk HK5.out | exact range_blk (show w4.drew.heap[w.heap.size]? = _ from HK4.out))
          (first
            | (go_at_call 6; refine (csent_x _ _ _ _ _ _).mono ?_; rintro e w5 ⟨rfl, hg5⟩; have HK5 : Hid _ := blk_kept hg5 (show w4.drew.heap[w.heap.size]? = _ from HK4.out) (by simp); have HG5 : Hid _ := grownBy_trans (grownBy_drew w4 none) hg5; clear hg5)
            | (go_at_call 5; refine (add_yes w.heap.size gb (some ⟨g2, 0, none⟩) n0 cap2 C is k0 k1 k2 k3 k4 k5 k6 k7 k8 k9 k10 k11 k12 k13 k14 k15 bo m c ys p s _ (hgen.grown HG5.out) (by have := HG5.out.size; omega) (by omega) (by omega) (by omega) (below_bytes (below_grown hbl4 HG5.out (by omega) (by simp)) hy hyb) hyb hm h0 hp (hz_of HG5.out hbl4 hz0 hp0) hp0 (by omega) (by rw [HL1.out]; exact HROOM.out.1) HROOM.out.2).mono ?_; rintro e w6 ⟨rfl, hadd⟩; obtain ⟨ao6, n6, cap6, hgen6, hfr6, _, hcap6, _⟩ := hadd.gen; have HK6 : Hid _ := fr_blk hfr6 HK5.out (by omega) (fun a ha => by obtain rfl := Option.some.inj ha; simp; omega)))
        have hs5 := HG5.out.size
        have hbl5 := below_grown hbl4 HG5.out (by omega) (by simp)
        have hbl6 := below_fr hbl5 hfr6 (by omega) (by omega) (fun a ha => by obtain rfl := Option.some.inj ha; simp; omega)
        have ho16 := fr_own hfr6 (ho14.grown HG5.out) (fun a ha => by have := hne1 a ha; omega) (fun a b ha hb => by obtain rfl := Option.some.inj hb; have := hne1 a ha; simp; omega)
        have hi6 := below_bytes hbl6 hi hib
        have hs6 : w.heap.size ≤ w6.heap.size := by have := hfr6.size; omega
        have hln6 : n6 = n0 + n1 := by have := hgen6.own.len; rw [List.length_append, rcd_len _ _ _ _ rfl, hy.len, HL1.out, hi.len] at this; exact this.symm
        have hgl6 := (Array.getElem?_eq_some_iff.1 hgen6.blk).1
        have HGen6 : Hid _ := hgen6
        have HLn6 : Hid _ := hln6
        have HCap6 : Hid _ := hcap6
        clear hgen6 hfr6 hadd hln6 hcap6 hbl5 hbl4 ho14 hgen HG5 HK5 HK6 HK4 hi23 hu23
        go_upto_region 20 with (at_make; refine wpList_mk (by rfl) (.const (.int .i64 0)) (.tmp 124) (by rfl) w6.heap.size .i64 .i64 0 ((n0 : Int) + (n1 : Int)) (by rfl) (by rfl) (by omega) (by omega) (by omega) (by omega) ?_; intro g7 n7 cap7 w7 HE7 ho7 hgr7 hgl7)
        obtain rfl : n7 = 0 := by have := HE7.out.1; omega
        have hb7 := below_grown (Below.refl w6.heap.size w6) hgr7 (Nat.le_refl _) (by simp)
        have hi7 := hi6.grown hgr7
        have hs7 := hgr7.size
        clear HE7 hgr7
        go_upto_region 21 with (at_builtin; refine wpList_app (by rfl) (.tmp 126) (.tmp 127) (by rfl) w6.heap.size (by rfl) ho7 (by rfl) hi7 (by omega) hs7 ?_; intro ao8 n8 cap8 w8 ho8 hst8)
        have hb8 := below_step hb7 ho7 hst8 hs7
        have ho18 := below_own hb8 ho16 (Nat.le_refl _)
        have hs8 : w6.heap.size ≤ w8.heap.size := hb8.size
        have hn8 : n8 ≤ 1024 := by have := ho8.len; rw [List.length_append, hi.len] at this; simp at this; omega
        clear hst8 hi7 ho7 hb7
        go_upto_region 22 with (at_builtin; refine wpList_app (by rfl) (.tmp 129) (.tmp 130) (by rfl) w6.heap.size (by rfl) ho8 (by rfl) ho18.bytes (by omega) hs8 ?_; intro ao9 n9 cap9 w9 ho9 hst9)
        have hb9 := below_step hb8 ho8 hst9 hs8
        have hB9 : w9.heap[gb]? = _ := (hb9.block gb hgl6).trans HGen6.out.blk
        have ho69 := below_own hb9 HGen6.out.own (Nat.le_refl _)
        have hblF : Below w.heap.size w w9 := hbl6.trans (hb9.mono hs6)
        have c0 := blk_cell hB9 0
        have c1 := blk_cell hB9 1
        simp only [List.getElem?_toArray, List.getElem?_cons_zero, List.getElem?_cons_succ] at c0 c1
        have e1 : ((C + 1 : Nat) : Int) = (C : Int) + 1 := by omega
        rw [e1] at c1
        have hcp6 := HCap6.out
        clear hb8 ho18 ho8 hst9 hB9 hb9 hbl6 e1
        go_wp2_with fail
        refine (equal_same _ _ _ _ _ _ _ _ _ ho69.bytes ho9.bytes (by simp)).mono ?_
        rintro e w10 ⟨rfl, rfl⟩
        go_wp2_with fail
        go_ret
        exact ⟨rfl, hblF⟩
      · have hno : 2097152 - ((C : Int) + 1) * 48 < n0 + (n1 : Nat) ∨ 2097152 - ((C : Int) + 1) * 48 < cap2 := by omega
        go_upto_region 14 with fail
        clear hE hP
        have hu23 := Ybad.underlying23
        have hi23 : (Ybad.prog.info? 23).map (·.size) = some ([.int .u8 k0, .int .u8 k1, .int .u8 k2, .int .u8 k3, .int .u8 k4, .int .u8 k5, .int .u8 k6, .int .u8 k7, .int .u8 k8, .int .u8 k9, .int .u8 k10, .int .u8 k11, .int .u8 k12, .int .u8 k13, .int .u8 k14, .int .u8 k15] : List Value).length := Ybad.size23
        go_region_held3 (fun w' => w'.rangeAt w.heap.size 0 [.int .u8 k0, .int .u8 k1, .int .u8 k2, .int .u8 k3, .int .u8 k4, .int .u8 k5, .int .u8 k6, .int .u8 k7, .int .u8 k8, .int .u8 k9, .int .u8 k10, .int .u8 k11, .int .u8 k12, .int .u8 k13, .int .u8 k14, .int .u8 k15])
          (first | exact range_blk HK6.out | exact range_blk HK5.out | exact range_blk (show w4.drew.heap[w.heap.size]? = _ from HK4.out))
          (first
            | (go_at_call 6; refine (csent_x _ _ _ _ _ _).mono ?_; rintro e w5 ⟨rfl, hg5⟩; have HK5 : Hid _ := blk_kept hg5 (show w4.drew.heap[w.heap.size]? = _ from HK4.out) (by simp); have HG5 : Hid _ := grownBy_trans (grownBy_drew w4 none) hg5; clear hg5)
            | (go_at_call 5; refine (add_no w.heap.size gb (some ⟨g2, 0, none⟩) n0 cap2 C is [k0, k1, k2, k3, k4, k5, k6, k7, k8, k9, k10, k11, k12, k13, k14, k15] bo m c p s _ (hgen.grown HG5.out) (by omega) (by omega) (by omega) hm h0 hp (hz_of HG5.out hbl4 hz0 hp0) (by have := HG5.out.size; omega) (by rw [HL1.out]; exact hno)).mono ?_; rintro e w6 ⟨rfl, hg6⟩; have HK6 : Hid _ := blk_kept hg6 HK5.out (by simp); have HG6 : Hid _ := grownBy_trans HG5.out hg6; clear hg6))
        have hB6 := (hgen.grown HG6.out).blk
        have c0 := blk_cell hB6 0
        have c1 := blk_cell hB6 1
        simp only [List.getElem?_toArray, List.getElem?_cons_zero, List.getElem?_cons_succ] at c0 c1
        have hx6 := (hgen.grown HG6.out).own.bytes
        have hbl6 := below_grown hbl4 HG6.out (by omega) (by simp)
        have hi6 := below_bytes hbl6 hi hib
        clear hB6
        go_wp2_with fail
        refine (equal_same _ _ _ _ _ _ is is _ hx6 hi6 rfl).mono ?_
        rintro e w7 ⟨rfl, rfl⟩
        go_wp2_with fail
        go_ret
        exact ⟨rfl, hbl6⟩
    · have hno : 2097152 - ((C : Int) + 1) * 48 < n0 + (n1 : Nat) ∨ 2097152 - ((C : Int) + 1) * 48 < cap2 := by omega
      go_upto_region 14 with fail
      clear hE
      have hu23 := Ybad.underlying23
      have hi23 : (Ybad.prog.info? 23).map (·.size) = some ([.int .u8 k0, .int .u8 k1, .int .u8 k2, .int .u8 k3, .int .u8 k4, .int .u8 k5, .int .u8 k6, .int .u8 k7, .int .u8 k8, .int .u8 k9, .int .u8 k10, .int .u8 k11, .int .u8 k12, .int .u8 k13, .int .u8 k14, .int .u8 k15] : List Value).length := Ybad.size23
      go_region_held3 (fun w' => w'.rangeAt w.heap.size 0 [.int .u8 k0, .int .u8 k1, .int .u8 k2, .int .u8 k3, .int .u8 k4, .int .u8 k5, .int .u8 k6, .int .u8 k7, .int .u8 k8, .int .u8 k9, .int .u8 k10, .int .u8 k11, .int .u8 k12, .int .u8 k13, .int .u8 k14, .int .u8 k15])
        (first | exact range_blk HK6.out | exact range_blk HK5.out | exact range_blk (show w4.drew.heap[w.heap.size]? = _ from HK4.out))
        (first
          | (go_at_call 6; refine (csent_x _ _ _ _ _ _).mono ?_; rintro e w5 ⟨rfl, hg5⟩; have HK5 : Hid _ := blk_kept hg5 (show w4.drew.heap[w.heap.size]? = _ from HK4.out) (by simp); have HG5 : Hid _ := grownBy_trans (grownBy_drew w4 none) hg5; clear hg5)
          | (go_at_call 5; refine (add_no w.heap.size gb (some ⟨g2, 0, none⟩) n0 cap2 C is [k0, k1, k2, k3, k4, k5, k6, k7, k8, k9, k10, k11, k12, k13, k14, k15] bo m c p s _ (hgen.grown HG5.out) (by omega) (by omega) (by omega) hm h0 hp (hz_of HG5.out hbl4 hz0 hp0) (by have := HG5.out.size; omega) (by rw [HL1.out]; exact hno)).mono ?_; rintro e w6 ⟨rfl, hg6⟩; have HK6 : Hid _ := blk_kept hg6 HK5.out (by simp); have HG6 : Hid _ := grownBy_trans HG5.out hg6; clear hg6))
      have hB6 := (hgen.grown HG6.out).blk
      have c0 := blk_cell hB6 0
      have c1 := blk_cell hB6 1
      simp only [List.getElem?_toArray, List.getElem?_cons_zero, List.getElem?_cons_succ] at c0 c1
      have hx6 := (hgen.grown HG6.out).own.bytes
      have hbl6 := below_grown hbl4 HG6.out (by omega) (by simp)
      have hi6 := below_bytes hbl6 hi hib
      clear hB6
      go_wp2_with fail
      refine (equal_same _ _ _ _ _ _ is is _ hx6 hi6 rfl).mono ?_
      rintro e w7 ⟨rfl, rfl⟩
      go_wp2_with fail
      go_ret
      exact ⟨rfl, hbl6⟩
end Go.Proofs.YbulkgkwDoor
