/-
  slices.CompactFunc at the project's struct, walked.
-/
import Derived.Test.YbulkgnoSearch
import Derived.Lib.SliceRun
import Derived.Deep.MidRow
namespace Go.Proofs.Ybulkgno
open Go.RowKit Go.Sort
set_option linter.unusedVariables false
set_option linter.unusedSimpArgs false
set_option linter.unnecessarySimpa false

theorem Yba.info26 : (Yba.prog.info? 26).map (fun i => (i.zero, i.size, i.bytes)) = some (some (.agg #[.string ByteArray.empty, .string ByteArray.empty]), 2, 32) := by kernel_rfl
theorem Yba.size26 : (Yba.prog.info? 26).map (·.size) = some 2 := by kernel_rfl
theorem zero26 (w : World) : (zeroValue 26).run Yba.prog w = .ok (.agg #[.string ByteArray.empty, .string ByteArray.empty]) w := by
  obtain ⟨i, hi, h0, h1, h2⟩ := info_parts Yba.info26
  simp [zeroValue, typeInfo, hi, h0]

def zz (n : Nat) : List Value := (Builtin.zeroCells #[.string ⟨#[]⟩, .string ⟨#[]⟩] n).toList
theorem zz_length (n : Nat) : (zz n).length = n * 2 := by simp [zz, Builtin.zeroCells]
theorem zz_one (n : Nat) : ∀ v ∈ zz n, v.oneCell' = true := by
  intro v hv
  simp [zz, Builtin.zeroCells] at hv
  obtain ⟨a, _, rfl⟩ := hv
  rcases Nat.mod_two_eq_zero_or_one a with h | h <;> simp [h, Value.oneCell']
theorem clear_run (w : World) (g o n c : Nat) (hn : 0 < n) (ht : w.there g o (n * 2)) (ty : TypeId) :
    (Builtin.clear_ #[24] ty #[.slice (some ⟨g, o, none⟩) n c]).run Yba.prog w = .ok (.tuple #[]) (w.setCells g o (zz n)) := by
  obtain ⟨m, rfl⟩ : ∃ m, n = m + 1 := ⟨n - 1, by omega⟩
  have hst := run_storeCells_cells (P := Yba.prog) g o (zz (m + 1)) 0 w (fun j hj => by rw [zz_length] at hj; exact (ht j hj).1) (fun j hj => by rw [zz_length] at hj; exact (ht j hj).2) (zz_one _)
  simp only [Nat.add_zero] at hst
  have hz : (Builtin.zeroCells #[Value.string ⟨#[]⟩, Value.string ⟨#[]⟩] (m + 1)).toList = zz (m + 1) := rfl
  simp [Builtin.clear_, run_underlying Yba.underlying24, zero26, Value.cells, hz, hst]

/-- Two names are one. -/
def same (x y : RefV) : Bool := (cut x.1).toList == (cut y.1).toList
/-- What CompactFunc leaves of the first n. -/
def comp (L : List RefV) : Nat → List RefV
  | 0 => []
  | 1 => L.take 1
  | n + 2 => comp L (n + 1) ++ (match L[n + 1]?, L[n]? with | some x, some y => if same x y then [] else [x] | _, _ => [])
theorem comp_step {L : List RefV} {n : Nat} {x y : RefV} (hx : L[n + 1]? = some x) (hy : L[n]? = some y) : comp L (n + 2) = comp L (n + 1) ++ (if same x y then [] else [x]) := by
  simp [comp, hx, hy]
theorem setCells_grown (b : Nat) : ∀ (vs : List Value) (o : Nat) (w : World), w.grownBy (w.setCells b o vs) (some b)
  | [], _, w => ⟨rfl, rfl, rfl, Nat.le_refl _, fun _ _ _ => rfl⟩
  | v :: vs, o, w => by
    rw [World.setCells]
    have h := setCells_grown b vs (o + 1) (w.setCell ⟨b, o, none⟩ v)
    exact ⟨h.os, h.tape, h.output, by have := h.size; simpa using this, fun k hk hne => (h.block k (by simpa using hk) hne).trans (heap_setCell_other w _ k v (fun e => hne (by rw [e])))⟩
theorem grow_grown (w : World) (n : Nat) (os : Array Obj) : w.grownBy (grow (w.drewN n) os) none :=
  ⟨rfl, rfl, rfl, by simp [grow], fun k hk _ => by
    show (w.heap ++ os)[k]? = _
    rw [Array.getElem?_append_left hk]⟩
theorem there_grow {w : World} {g o n : Nat} (h : w.there g o n) (m : Nat) (os : Array Obj) : (grow (w.drewN m) os).there g o n := fun j hj => by
  obtain ⟨h1, h2⟩ := h j hj
  obtain ⟨v, hv⟩ := Option.isSome_iff_exists.1 h1
  have hlt : g < w.heap.size := World.block_lt_of_cell? _ _ hv
  refine ⟨by rw [cell_grow2 hv]; rfl, ?_⟩
  rw [← h2]
  have hb : (grow (w.drewN m) os).heap[g]? = w.heap[g]? := (grow_grown w m os).block g hlt (by simp)
  exact World.frozen?_of_block (w := w) hb

/-- The state of the inner loop: p elements looked at, E kept. -/
structure CI (w wr : World) (g n : Nat) (L E : List RefV) (p : Nat) : Prop where
  grown : w.grownBy wr (some g)
  done : RefsAt wr g E
  rest : ∀ (t : Nat) (x : RefV), p ≤ t + 1 → L[t]? = some x → wr.cell? ⟨g, t * 2, none⟩ = some (.string (cut x.1)) ∧ wr.cell? ⟨g, t * 2 + 1, none⟩ = some (.string x.2)
  there : wr.there g 0 (n * 2)
theorem CI.grow {w wr : World} {g n p : Nat} {L E : List RefV} (h : CI w wr g n L E p) (m : Nat) (os : Array Obj) : CI w (Sort.grow (wr.drewN m) os) g n L E p :=
  ⟨h.grown.trans ((grow_grown wr m os).but _), h.done.grow m os, fun t x ht hx => ⟨cell_grow2 (h.rest t x ht hx).1 m os, cell_grow2 (h.rest t x ht hx).2 m os⟩, there_grow h.there m os⟩
theorem CI.skip {w wr : World} {g n p : Nat} {L E : List RefV} (h : CI w wr g n L E p) : CI w wr g n L E (p + 1) := ⟨h.grown, h.done, fun t x ht hx => h.rest t x (by omega) hx, h.there⟩
theorem there_setCells {w : World} {g n o : Nat} {vs : List Value} (h : w.there g 0 n) (hv : o + vs.length ≤ n) : (w.setCells g o vs).there g 0 n := fun j hj => by
  refine ⟨?_, by rw [World.frozen?_setCells]; exact (h j hj).2⟩
  by_cases e : o ≤ 0 + j ∧ 0 + j < o + vs.length
  · have := World.cell?_setCells_in g vs o w (fun k hk => by have := (h (o + k) (by omega)).1; simpa using this) (0 + j - o) (by omega)
    rw [show o + (0 + j - o) = 0 + j by omega] at this
    rw [this]; rfl
  · rw [World.cell?_setCells_out g vs o w _ (fun _ _ => by simp only; omega)]
    exact (h j hj).1
theorem CI.put {w wr : World} {g n p : Nat} {L E : List RefV} (h : CI w wr g n L E p) {x : RefV} (hE : E.length < p) (hp : p ≤ n) : CI w (wr.setCells g (E.length * 2) [.string (cut x.1), .string x.2]) g n L (E ++ [x]) (p + 1) := by
  refine ⟨h.grown.trans (setCells_grown g _ _ _), fun j y hy => ?_, fun t y ht hy => ?_, there_setCells h.there (by simp; omega)⟩
  · rw [List.getElem?_append] at hy
    split at hy
    · rename_i hlt
      have := h.done j y hy
      rw [World.cell?_setCells_out g _ _ _ _ (fun _ _ => by simp; omega), World.cell?_setCells_out g _ _ _ _ (fun _ _ => by simp; omega)]
      exact this
    · rename_i hge
      have hj : j = E.length := by
        have := (List.getElem?_eq_some_iff.1 hy).1
        simp at this
        omega
      subst hj
      simp at hy
      subst hy
      have hin := World.cell?_setCells_in g [.string (cut x.1), .string x.2] (E.length * 2) wr (fun k hk => by have := (h.there (E.length * 2 + k) (by simp at hk; omega)).1; simpa using this)
      exact ⟨by simpa using hin 0 (by simp), by simpa using hin 1 (by simp)⟩
  · have := h.rest t y (by omega) hy
    rw [World.cell?_setCells_out g _ _ _ _ (fun _ _ => by simp; omega), World.cell?_setCells_out g _ _ _ _ (fun _ _ => by simp; omega)]
    exact this

def Compacted (w : World) (g cap n : Nat) (L : List RefV) (e : Ending) (w' : World) : Prop := e = .returned (.slice (some ⟨g, 0, none⟩) (comp L n).length cap) ∧ RefsAt w' g (comp L n) ∧ w.grownBy w' (some g)
theorem take_all {L : List RefV} {n : Nat} (h : L.length = n) : L.take n = L := List.take_of_length_le (by omega)

set_option maxRecDepth 100000 in
set_option maxHeartbeats 2000000 in
theorem compact_any (g cap n : Nat) (L : List RefV) (w : World) (hL : L.length = n) (hn : n ≤ 256) (hcap : n ≤ cap) (hc2 : cap ≤ 1000) (hrow : RefsAt w g L) (hth : w.there g 0 (n * 2)) :
    Calls Yba.prog 10 #[.slice (some ⟨g, 0, none⟩) n cap, .func (.func 11) #[] #[]] w fun e w' => Compacted w g cap n L e w' := by
  have mixed := Yba.mixed
  have eg : ∀ args w, (callFunc 11 args).run Yba.prog w = .ok (.enter 11 args) w := enters_of Yba.func11 (by kernel_rfl) rfl
  have HLL : Hid (L.length = n) := hL
  have HR : Hid (RefsAt w g L) := hrow
  have HT : Hid (w.there g 0 (n * 2)) := hth
  clear hL hrow hth
  by_cases h2 : (n : Int) < 2
  · have hE : comp L n = L := by
      have := HLL.out
      match n, this with
      | 0, h => simp [comp, List.length_eq_zero_iff.1 h]
      | 1, h => exact take_all h
      | k + 2, _ => omega
    have HE : Hid (comp L n = L) := hE
    clear hE
    go_enter Yba.func10, Yba.ntmps10
    go_wp2_with fail
    go_ret
    exact ⟨by rw [HE.out, HLL.out]; rfl, by rw [HE.out]; exact HR.out, World.grownBy.refl _ _⟩
  · go_enter Yba.func10, Yba.ntmps10
    go_wp2_with fail
    go_loopw [5] (fun v wr => ∃ (k q : Nat) (os : Array Obj), v = .int .i64 (k : Int) ∧ 1 ≤ k ∧ k ≤ n ∧ comp L k = L.take k ∧ wr = grow (w.drewN q) os) (fun v _ => n + 1 - (intOf v).toNat)
    case atStart => exact ⟨1, 0, #[], rfl, by omega, by omega, rfl, by rw [grow_empty]; rfl⟩
    case round =>
      obtain ⟨k, q, os, rfl, hk1, hkn, hcomp, hwr⟩ := hrel
      obtain ⟨i, hki⟩ : ∃ i, k = i + 1 := ⟨k - 1, by omega⟩
      have hkm : (k : Int) - 1 = (i : Int) := by omega
      have HKI : Hid (k = i + 1) := hki
      have hwi : IntKind.i64.wrap (i : Int) = (i : Int) := by rw [IntKind.wrap_i64]; omega
      clear hki
      have HCOMP : Hid (comp L k = L.take k) := hcomp
      have HWR : Hid (wr = grow (w.drewN q) os) := hwr
      have HRW : Hid (RefsAt wr g L) := by have := HR.out.grow q os; rw [← hwr] at this; exact this
      have HTW : Hid (wr.there g 0 (n * 2)) := by have := there_grow HT.out q os; rw [← hwr] at this; exact this
      clear hcomp hwr
      by_cases hlt : (k : Int) < n
      · have hx : L[k]? = some (L[k]'(by have := HLL.out; omega)) := List.getElem?_eq_getElem _
        have hin : (i : Int) < n := by omega
        have hy : L[i]? = some (L[i]'(by have := HLL.out; have := HKI.out; omega)) := List.getElem?_eq_getElem _
        generalize L[k]'(by have := HLL.out; omega) = x at hx
        generalize L[i]'(by have := HLL.out; have := HKI.out; omega) = y at hy
        have HSTEP : Hid (comp L (k + 1) = comp L k ++ (if same x y then [] else [x])) := by rw [HKI.out] at hx ⊢; exact comp_step hx hy
        have HX : Hid (L[k]? = some x) := hx
        obtain ⟨x1, x2⟩ := HRW.out _ _ hx
        obtain ⟨y1, y2⟩ := HRW.out _ _ hy
        have f1 := fun n' os' => cell_grow2 x1 n' os'
        have f2 := fun n' os' => cell_grow2 x2 n' os'
        have f3 := fun n' os' => cell_grow2 y1 n' os'
        have f4 := fun n' os' => cell_grow2 y2 n' os'
        clear x1 x2 y1 y2 hx hy
        have HCALL : Hid (∀ n' os', Calls Yba.prog 11 #[.agg #[.string (cut x.1), .string x.2], .agg #[.string (cut y.1), .string y.2]] (grow (wr.drewN n') os') fun e w' => e = .returned (.bool (same x y)) ∧ ∃ q os, w' = grow ((grow (wr.drewN n') os').drewN q) os) := fun n' os' => clo11 x y _
        generalize same x y = sm at *
        go_upto_region 6 with fail
        go_quiet_grown (first | (go_at_call 11; exact Calls.grown_of (HCALL.out _ _)))
        clear f1 f2 f3 f4
        have hw2 : grow (wr.drewN nq) osq = grow (w.drewN (q + nq)) (os ++ osq) := by rw [HWR.out, grow_on]
        have HW2 : Hid (grow (wr.drewN nq) osq = grow (w.drewN (q + nq)) (os ++ osq)) := hw2
        clear hw2
        cases sm with
        | false =>
          have hcn : comp L (k + 1) = L.take (k + 1) := by rw [HSTEP.out, HCOMP.out, List.take_add_one, HX.out]; simp
          have HCN : Hid (comp L (k + 1) = L.take (k + 1)) := hcn
          clear hcn
          go_wp2_with fail
          go_roundw
          case rel => exact ⟨k + 1, q + nq, os ++ osq, by go_num, by omega, by omega, HCN.out, HW2.out⟩
          case measure => simp [intOf]; omega
        | true =>
          have hcn : comp L (k + 1) = L.take k := by have h := HSTEP.out; rw [HCOMP.out] at h; simpa using h
          have HCN : Hid (comp L (k + 1) = L.take k) := hcn
          clear hcn
          have hci : CI w (grow (wr.drewN nq) osq) g n L (L.take k) (k + 1) := by
            refine ⟨?_, fun t y hy => ?_, fun t y ht hy => (HRW.out.grow nq osq) t y hy, there_grow HTW.out nq osq⟩
            · rw [HW2.out]; exact (grow_grown w _ _).but _
            · rw [List.getElem?_take] at hy
              split at hy
              · exact (HRW.out.grow nq osq) t y hy
              · cases hy
          have HCI : Hid (CI w (grow (wr.drewN nq) osq) g n L (L.take k) (k + 1)) := hci
          have htl : (L.take k).length = k := by rw [List.length_take]; have := HLL.out; omega
          have HTL : Hid ((L.take k).length = k) := htl
          clear hci htl HW2
          generalize grow (wr.drewN nq) osq = w4 at *
          go_wp2_with fail
          have hnk : k + (n - k) = n := by omega
          have hcpk : cap - k ≤ 1000 := by omega
          generalize n - k = nk at *
          have HNK : Hid (k + nk = n) := hnk
          have hnk2 : 1 ≤ nk := by omega
          have hnk3 : nk ≤ 256 := by omega
          have hkk3 : k ≤ 256 := by omega
          clear hnk hlt hin hkm hwi hk1 HSTEP HCALL HX HRW HTW HWR HCOMP HKI
          go_loopw [5, 7] (fun s5 s7 wr => ∃ (k2 e : Nat) (E : List RefV), s7 = .int .i64 (k2 : Int) ∧ 1 ≤ k2 ∧ k2 ≤ nk ∧ s5 = .int .i64 (e : Int) ∧ E.length = e ∧ comp L (k + k2) = E ∧ e < k + k2 ∧ CI w wr g n L E (k + k2)) (fun _ s7 _ => nk + 1 - (intOf s7).toNat)
          case atStart => exact ⟨1, k, L.take k, rfl, Nat.le_refl _, hnk2, rfl, HTL.out, HCN.out, by omega, HCI.out⟩
          case round =>
            obtain ⟨k2, e, E, rfl, hk1, hk2, rfl, hEl, hE, hek, ci⟩ := hrel
            clear HTL HCN HCI
            obtain ⟨j, hkj⟩ : ∃ j, k2 = j + 1 := ⟨k2 - 1, by omega⟩
            have hkm : (k2 : Int) - 1 = (j : Int) := by omega
            have hwj : IntKind.i64.wrap (j : Int) = (j : Int) := by rw [IntKind.wrap_i64]; omega
            have HKJ : Hid (k2 = j + 1) := hkj
            have HEL : Hid (E.length = e) := hEl
            have HE : Hid (comp L (k + k2) = E) := hE
            have HEK : Hid (e < k + k2) := hek
            have HCI : Hid (CI w wr g n L E (k + k2)) := ci
            clear hkj hEl hE ci
            by_cases hlt : (k2 : Int) < nk
            · have hjn : (j : Int) < nk := by omega
              have hx : L[k + k2]? = some (L[k + k2]'(by have := HLL.out; have := HNK.out; omega)) := List.getElem?_eq_getElem _
              have hy : L[k + j]? = some (L[k + j]'(by have := HLL.out; have := HNK.out; have := HKJ.out; omega)) := List.getElem?_eq_getElem _
              generalize L[k + k2]'(by have := HLL.out; have := HNK.out; omega) = x at hx
              generalize L[k + j]'(by have := HLL.out; have := HNK.out; have := HKJ.out; omega) = y at hy
              have hstep : comp L (k + k2 + 1) = comp L (k + k2) ++ (if same x y then [] else [x]) := by
                rw [HKJ.out] at hx ⊢
                exact comp_step (n := k + j) hx hy
              rw [HE.out] at hstep
              have HSTEP : Hid (comp L (k + k2 + 1) = E ++ (if same x y then [] else [x])) := hstep
              obtain ⟨x1, x2⟩ := HCI.out.rest _ _ (by omega) hx
              obtain ⟨y1, y2⟩ := HCI.out.rest _ _ (by have := HKJ.out; omega) hy
              rw [show (k + k2) * 2 = k * 2 + k2 * 2 by omega] at x1 x2
              rw [show (k + j) * 2 = k * 2 + j * 2 by omega] at y1 y2
              have f1 := fun n' os' => cell_grow2 x1 n' os'
              have f2 := fun n' os' => cell_grow2 x2 n' os'
              have f3 := fun n' os' => cell_grow2 y1 n' os'
              have f4 := fun n' os' => cell_grow2 y2 n' os'
              clear x1 x2 y1 y2 hx hy hstep
              have HCALL : Hid (∀ n' os', Calls Yba.prog 11 #[.agg #[.string (cut x.1), .string x.2], .agg #[.string (cut y.1), .string y.2]] (grow (wr.drewN n') os') fun e w' => e = .returned (.bool (same x y)) ∧ ∃ q os, w' = grow ((grow (wr.drewN n') os').drewN q) os) := fun n' os' => clo11 x y _
              generalize same x y = sm at *
              go_upto_region 11 with fail
              go_quiet_grown (first | (go_at_call 11; exact Calls.grown_of (HCALL.out _ _)))
              have HCI2 : Hid (CI w (grow (wr.drewN nq) osq) g n L E (k + k2)) := HCI.out.grow nq osq
              have g1 := f1 nq osq
              have g2 := f2 nq osq
              clear f1 f2 f3 f4
              generalize grow (wr.drewN nq) osq = w6 at *
              cases sm with
              | true =>
                have hcn : comp L (k + (k2 + 1)) = E := by rw [← Nat.add_assoc, HSTEP.out]; simp
                have HCN : Hid (comp L (k + (k2 + 1)) = E) := hcn
                clear hcn
                go_wp2_with fail
                go_roundw
                case rel => exact ⟨k2 + 1, e, E, by go_num, by omega, by omega, rfl, HEL.out, HCN.out, by have := HEK.out; omega, HCI2.out.skip⟩
                case measure => simp [intOf]; omega
              | false =>
                have hcn : comp L (k + (k2 + 1)) = E ++ [x] := by rw [← Nat.add_assoc, HSTEP.out]; simp
                have HCN : Hid (comp L (k + (k2 + 1)) = E ++ [x]) := hcn
                have hth : w6.there g (e * 2) 2 := fun t ht => by
                  have := HCI2.out.there (e * 2 + t) (by have := HNK.out; omega)
                  simpa using this
                have hen : (e : Int) < n := by have := HNK.out; omega
                have hput := HCI2.out.put (x := x) (by rw [HEL.out]; exact HEK.out) (by have := HNK.out; omega)
                rw [HEL.out] at hput
                have HPUT : Hid (CI w (w6.setCells g (e * 2) [.string (cut x.1), .string x.2]) g n L (E ++ [x]) (k + (k2 + 1))) := hput
                clear hcn hput
                go_wp2_with (refine wpList_store_mid (rest := []) (op := ⟨none, .store 26 (.tmp 56) (.tmp 55), 0, _, _, none⟩) rfl 26 (.tmp 56) (.tmp 55) rfl g (e * 2) (List.toArray [.string (cut x.1), .string x.2]) ?A1 ?A2 hth Yba.size26 (all_oneCell_toArray (by simp [Value.oneCell'])) ?_)
                case A1 => rfl
                case A2 => rfl
                go_roundw
                case rel => exact ⟨k2 + 1, e + 1, E ++ [x], by go_num, by omega, by omega, by go_num, by simp [HEL.out], HCN.out, by have := HEK.out; omega, HPUT.out⟩
                case measure => simp [intOf]; omega
            · obtain rfl : k2 = nk := by omega
              have hen : (e : Int) < n := by have := HNK.out; have := HEK.out; omega
              have hen2 : 0 < n - e := by omega
              have hthr : wr.there g (e * 2) ((n - e) * 2) := fun t ht => by
                have := HCI.out.there (e * 2 + t) (by omega)
                simpa using this
              have hcl := fun ty => clear_run wr g (e * 2) (n - e) (cap - e) hen2 hthr ty
              have hfin : RefsAt (wr.setCells g (e * 2) (zz (n - e))) g E := fun t y hy => by
                have htl := (List.getElem?_eq_some_iff.1 hy).1
                have := HEL.out
                rw [World.cell?_setCells_out g _ _ _ _ (fun _ _ => by simp; omega), World.cell?_setCells_out g _ _ _ _ (fun _ _ => by simp; omega)]
                exact HCI.out.done t y hy
              have hEn : comp L n = E := by rw [← HNK.out]; exact HE.out
              have HFIN : Hid (Compacted w g cap n L (.returned (.slice (some ⟨g, 0, none⟩) e cap)) (wr.setCells g (e * 2) (zz (n - e)))) := ⟨by rw [hEn, HEL.out], by rw [hEn]; exact hfin, HCI.out.grown.trans (setCells_grown g _ _ _)⟩
              clear hthr hfin hEn
              go_wp2_with fail
              go_ret
              exact HFIN.out
      · obtain rfl : k = n := by omega
        have hE : comp L k = L := by rw [HCOMP.out]; exact take_all HLL.out
        have HFIN : Hid (Compacted w g cap k L (.returned (.slice (some ⟨g, 0, none⟩) k cap)) wr) := ⟨by rw [hE, HLL.out], by rw [hE]; exact HRW.out, by rw [HWR.out]; exact (grow_grown w _ _).but _⟩
        clear hE
        go_wp2_with fail
        go_ret
        exact HFIN.out
end Go.Proofs.Ybulkgno
