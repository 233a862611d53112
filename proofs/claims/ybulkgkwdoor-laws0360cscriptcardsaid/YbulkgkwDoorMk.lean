import Derived.Test.YbulkgkwDoorCrec
namespace Go.Proofs.YbulkgkwDoor
open Go.RowKit
set_option linter.unusedVariables false
attribute [local go_sem ↓] Go.wp_at_zero Go.wp_at_succ

theorem Bytes.conv {w : World} {ao : Option Addr} {n c : Nat} {ys : List Int} (h : Bytes w ao n ys) : (convert 25 9 (.slice ao n c)).run Ybad.prog w = .ok (.string (strOfNums ys)) w := by
  cases ao with
  | none =>
    obtain rfl : ys = [] := List.eq_nil_of_length_eq_zero (by rw [h.len]; exact h.nil rfl)
    exact run_convert_bytes_nil (P := Ybad.prog) w 25 5 Ybad.underlying25 Ybad.underlying5 n c 9 Ybad.underlying9
  | some a =>
    have hl : (loadCells a n).run Ybad.prog w = .ok (ys.map (Value.int .u8)).toArray w := by
      have := run_loadCells_list (P := Ybad.prog) w a (bs ys) (h.cells a rfl)
      rw [bs_length, h.len] at this
      exact this
    rw [run_convert_bytes_string w 25 9 5 _ n c Ybad.underlying25 Ybad.underlying5 Ybad.underlying9, run_bytesToString w _ n c ys hl, foldl_push_bytes]
    simp [strOfNums, ByteArray.empty, ByteArray.emptyWithCapacity]
    rfl

set_option maxHeartbeats 400000 in
theorem equal_same (ao bo : Option Addr) (n c m d : Nat) (xs ys : List Int) (w : World) (hx : Bytes w ao n xs) (hy : Bytes w bo m ys) (e : xs = ys) :
    Calls Ybad.prog 8 #[.slice ao n c, .slice bo m d] w fun e w' => e = .returned (.bool true) ∧ w' = w := by
  subst e
  have h1 := hx.conv (c := c)
  have h2 := hy.conv (c := d)
  go_enter Ybad.func8, Ybad.ntmps8
  go_wp2
  go_ret
  exact ⟨by simp, rfl⟩

/-- 'make([]byte, L, C)'. -/
theorem wpList_mk {w : World} {ops : Array Oper} {rest : List Oper} {o : Oper} {a : Act} {Q : Exit → Act → World → Prop} (hgd : o.guard = none) (l c : Operand) (ho : o.op = Op.makeSlice 25 l c) (base : Nat) (kl kc : IntKind) (L C : Int)
    (hl : a.eval l = .int kl L) (hc : a.eval c = .int kc C) (h0 : 0 ≤ L) (hLC : L ≤ C) (hC : C ≤ 1000000000) (hb : base ≤ w.heap.size)
    (hK : ∀ (g n cap : Nat) w', Hid ((n : Int) = L ∧ (cap : Int) = C) → Own base w' (some ⟨g, 0, none⟩) n cap (List.replicate n 0) → w.grownBy w' none → w.heap.size ≤ g → wpList Ybad.prog ops Q rest (a.put o.dst (.slice (some ⟨g, 0, none⟩) n cap)) w') :
    wpList Ybad.prog ops Q (o :: rest) a w := by
  refine wpList_plain hgd fun K hK' => ?_
  obtain ⟨i, hi, hz, hsz, hby⟩ := info_parts Ybad.info5
  have hr := run_make (P := Ybad.prog) w 25 5 i _ Ybad.underlying25 hi hz kl kc L C h0 hLC (by rw [hby]; omega) (by omega)
  unfold Oper.wp
  simp [execOp, ho, hl, hc, hr, Result.andThen]
  refine hK' _ _ (hK w.heap.size L.toNat C.toNat _ (show _ ∧ _ from ⟨by omega, by omega⟩) ?_ (alloc1 w _) (Nat.le_refl _))
  have hS : (madeCells (Value.int .u8 0).cells (C.toNat * i.size)).size = C.toNat := by rw [size_madeCells, hsz]; omega
  have hcell := fun j => World.cell?_alloc_new w (madeCells (Value.int .u8 0).cells (C.toNat * i.size)) 5 j
  have hv : ∀ j, j < C.toNat → (madeCells (Value.int .u8 0).cells (C.toNat * i.size))[j]? = some (.int .u8 0) := fun j hj => by
    rw [Array.getElem?_eq_getElem (by omega)]
    simp [madeCells, Value.cells, Nat.mod_one]
  refine ⟨by simp, by omega, by unfold maxLen; omega, (fun e => by cases e), fun b hb' => by obtain rfl := Option.some.inj hb'; rfl, fun b hb' => by obtain rfl := Option.some.inj hb'; exact ⟨hb, by simp⟩, fun b hb' j hj => ?_, fun b hb' j hj => ?_⟩
  · obtain rfl := Option.some.inj hb'
    rw [show (w.alloc _).cell? ⟨w.heap.size, j, none⟩ = _ from hcell j, hv j (by omega)]
    simp [bs, hj]
  · obtain rfl := Option.some.inj hb'
    exact ⟨by rw [show (w.alloc _).cell? ⟨w.heap.size, j, none⟩ = _ from hcell j, hv j hj]; rfl, World.frozen?_alloc_new w _ _ j⟩

/-- 'copy(dst, src)', both of n bytes: the run's equation, for a walk that takes it as a hypothesis. -/
theorem run_cp {w : World} (base : Nat) {g n cap : Nat} {zs : List Int} (hown : Own base w (some ⟨g, 0, none⟩) n cap zs) {bo : Option Addr} (c : Nat) {ys : List Int} (hy : Bytes w bo n ys) :
    ∃ v w', (∀ ty, (Builtin.copy_ #[25, 25] ty #[.slice (some ⟨g, 0, none⟩) n cap, .slice bo n c]).run Ybad.prog w = .ok v w') ∧ Own base w' (some ⟨g, 0, none⟩) n cap ys ∧ w.grownBy w' (some g) := by
  obtain ⟨i, hi, hz, hsz, hby⟩ := info_parts Ybad.info5
  have hsz1 : (Ybad.prog.info? 5).map (·.size) = some 1 := by rw [hi]; simp [hsz]
  by_cases h0 : n = 0
  · obtain rfl : ys = [] := List.eq_nil_of_length_eq_zero (by rw [hy.len]; exact h0)
    obtain rfl : zs = [] := List.eq_nil_of_length_eq_zero (by rw [hown.len]; exact h0)
    exact ⟨_, w, fun ty => run_copy_none (P := Ybad.prog) w 25 25 ty 5 (some ⟨g, 0, none⟩) bo n cap n c Ybad.underlying25 hsz1 (by simp [h0]), hown, World.grownBy.refl _ _⟩
  · cases bo with
    | none => exact absurd (hy.nil rfl) h0
    | some b =>
      have hth := hown.there _ rfl
      have hle := hown.le
      have hin := World.cell?_setCells_in g (bs ys) 0 w (fun k hk => by rw [bs_length, hy.len] at hk; simpa using (hth k (by omega)).1)
      refine ⟨_, _, fun ty => run_copy_cells (P := Ybad.prog) w 25 25 ty 5 g 0 n cap b n c (bs ys) Ybad.underlying25 hsz1 (by rw [bs_length, hy.len]; simp) (hy.cells b rfl)
        (fun j hj => by rw [bs_length, hy.len] at hj; simpa using (hth j (by omega)).1) (fun j hj => by rw [bs_length, hy.len] at hj; simpa using (hth j (by omega)).2) (bs_one ys), ⟨hy.len, hown.le, hown.max, hown.nil, hown.off, fun b' hb' => ⟨(hown.blk b' hb').1, by rw [size_setCells]; exact (hown.blk b' hb').2⟩, fun b' hb' j hj => ?_, fun b' hb' j hj => ?_⟩, ⟨World.os_setCells _ _ _ _, tape_setCells _ _ _ _, World.output_setCells _ _ _ _, by rw [size_setCells]; exact Nat.le_refl _, fun k hk hne => World.heap_setCells_other w _ _ _ hk (fun e => hne (by rw [e]))⟩⟩
      · obtain rfl := Option.some.inj hb'
        have := hin j (by rw [bs_length, hy.len]; exact hj)
        rw [Nat.zero_add] at this
        rw [this, List.getElem?_eq_getElem]
      · obtain rfl := Option.some.inj hb'
        rw [World.frozen?_setCells]
        refine ⟨?_, (hth j hj).2⟩
        by_cases hjn : j < n
        · have := hin j (by rw [bs_length, hy.len]; exact hjn)
          rw [Nat.zero_add] at this
          rw [this]; rfl
        · rw [World.cell?_setCells_out _ _ _ _ _ (fun _ _ => Or.inr (by rw [bs_length, hy.len]; show 0 + n ≤ j; omega))]; exact (hth j hj).1

end Go.Proofs.YbulkgkwDoor
