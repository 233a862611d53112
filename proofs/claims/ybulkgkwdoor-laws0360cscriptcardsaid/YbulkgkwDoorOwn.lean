/-
  Byte slices that the call itself owns, told by their cells (whatever type their block bears), and what an append makes of them: capacity kept where it fits.
-/
import Derived.Test.YbulkgkwDoorRows
import Derived.WalkKit
import Derived.Deep.AppendSrc
import Derived.Deep.Upon
namespace Go.Proofs.YbulkgkwDoor
open Go.RowKit

def bs (xs : List Int) : List Value := xs.map (Value.int .u8)
theorem bs_length (xs : List Int) : (bs xs).length = xs.length := by simp [bs]
theorem bs_get (xs : List Int) (j : Nat) : (bs xs)[j]? = (xs[j]?).map (Value.int .u8) := by simp [bs]
theorem bs_one (xs : List Int) : ∀ u ∈ bs xs, u.oneCell' = true := ints_oneCell .u8 xs
theorem bs_append (xs ys : List Int) : bs (xs ++ ys) = bs xs ++ bs ys := by simp [bs]

/-- The bytes ys lie behind the address (or there are none). -/
structure Bytes (w : World) (ao : Option Addr) (n : Nat) (ys : List Int) : Prop where
  len : ys.length = n
  nil : ao = none → n = 0
  cells : ∀ a, ao = some a → ∀ j u, (bs ys)[j]? = some u → w.cell? (a.add j) = some u

/-- A slice of length n and capacity cap, of the call's own (block at least base), whose elements are the bytes xs. -/
structure Own (base : Nat) (w : World) (ao : Option Addr) (n cap : Nat) (xs : List Int) : Prop where
  len : xs.length = n
  le : n ≤ cap
  max : cap ≤ maxLen
  nil : ao = none → cap = 0
  off : ∀ a, ao = some a → a = ⟨a.block, 0, none⟩
  blk : ∀ a, ao = some a → base ≤ a.block ∧ a.block < w.heap.size
  cells : ∀ a, ao = some a → ∀ j, j < n → w.cell? ⟨a.block, j, none⟩ = (bs xs)[j]?
  there : ∀ a, ao = some a → ∀ j, j < cap → (w.cell? ⟨a.block, j, none⟩).isSome = true ∧ w.frozen? ⟨a.block, j, none⟩ = false

/-- From w to w': of the old blocks only the row of ao may have turned; ao' is that row or a new one; where the new length fits the capacity nothing moved. -/
structure Step (w w' : World) (ao : Option Addr) (cap : Nat) (ao' : Option Addr) (n' cap' : Nat) : Prop where
  grown : w.grownBy w' (ao.map (·.block))
  lies : ao' = ao ∨ ∃ a, ao' = some a ∧ w.heap.size ≤ a.block
  fits : n' ≤ cap → ao' = ao ∧ cap' = cap

theorem grownBy_trans {w w1 w2 : World} {r : Option Nat} (h : w.grownBy w1 r) (k : w1.grownBy w2 r) : w.grownBy w2 r :=
  ⟨k.os.trans h.os, k.tape.trans h.tape, k.output.trans h.output, Nat.le_trans h.size k.size, fun i hi hne => (k.block i (Nat.lt_of_lt_of_le hi h.size) hne).trans (h.block i hi hne)⟩

theorem grownBy_any {w w1 : World} {r : Option Nat} (h : w.grownBy w1 none) : w.grownBy w1 r :=
  ⟨h.os, h.tape, h.output, h.size, fun i hi _ => h.block i hi (by simp)⟩

theorem grownBy_drew (w : World) (r : Option Nat) : w.grownBy w.drew r := ⟨rfl, rfl, rfl, Nat.le_refl _, fun _ _ _ => rfl⟩

theorem Step.trans {w w1 w2 : World} {ao ao1 ao2 : Option Addr} {cap n1 cap1 n2 cap2 : Nat} (h : Step w w1 ao cap ao1 n1 cap1) (k : Step w1 w2 ao1 cap1 ao2 n2 cap2) (hn : n1 ≤ n2) : Step w w2 ao cap ao2 n2 cap2 := by
  refine ⟨⟨k.grown.os.trans h.grown.os, k.grown.tape.trans h.grown.tape, k.grown.output.trans h.grown.output, Nat.le_trans h.grown.size k.grown.size, fun i hi hne => ?_⟩, ?_, fun hf => ?_⟩
  · have e1 := h.grown.block i hi hne
    rw [← e1]
    refine k.grown.block i (Nat.lt_of_lt_of_le hi h.grown.size) (fun e => ?_)
    rcases h.lies with hl | ⟨a, rfl, hl⟩
    · rw [hl] at e; exact hne e
    · simp at e; omega
  · rcases k.lies with hl | ⟨a, hl, hg⟩
    · rw [hl]; exact h.lies
    · exact .inr ⟨a, hl, Nat.le_trans h.grown.size hg⟩
  · obtain ⟨e1, e2⟩ := h.fits (Nat.le_trans hn hf)
    obtain ⟨e3, e4⟩ := k.fits (by omega)
    exact ⟨e3.trans e1, e4.trans e2⟩

theorem Step.refl (w : World) (ao : Option Addr) (n cap : Nat) : Step w w ao cap ao n cap :=
  ⟨World.grownBy.refl _ _, .inl rfl, fun _ => ⟨rfl, rfl⟩⟩
theorem Step.of_grown {w w' : World} (h : w.grownBy w' none) (ao : Option Addr) (n cap : Nat) : Step w w' ao cap ao n cap :=
  ⟨grownBy_any h, .inl rfl, fun _ => ⟨rfl, rfl⟩⟩

theorem Own.bytes {base : Nat} {w : World} {ao : Option Addr} {n cap : Nat} {xs : List Int} (h : Own base w ao n cap xs) : Bytes w ao n xs := by
  refine ⟨h.len, fun e => by have := h.nil e; have := h.le; omega, fun a ha j u hu => ?_⟩
  have hj : j < n := by
    have := (List.getElem?_eq_some_iff.1 hu).1
    rw [bs_length, h.len] at this; exact this
  rw [h.off a ha, Addr.add_lit, Nat.zero_add, h.cells a ha j hj, hu]

theorem Own.kept {base : Nat} {w w' : World} {ao : Option Addr} {n cap : Nat} {xs : List Int} {row : Option Nat} (h : Own base w ao n cap xs) (hg : w.grownBy w' row) (hne : ∀ a, ao = some a → some a.block ≠ row) : Own base w' ao n cap xs := by
  refine ⟨h.len, h.le, h.max, h.nil, h.off, fun a ha => ⟨(h.blk a ha).1, Nat.lt_of_lt_of_le (h.blk a ha).2 hg.size⟩, fun a ha j hj => ?_, fun a ha j hj => ?_⟩
  · rw [World.cell?_of_block (w := w) (a := ⟨a.block, j, none⟩) (hg.block a.block (h.blk a ha).2 (hne a ha))]; exact h.cells a ha j hj
  · rw [World.cell?_of_block (w := w) (a := ⟨a.block, j, none⟩) (hg.block a.block (h.blk a ha).2 (hne a ha)), World.frozen?_of_block (w := w) (a := ⟨a.block, j, none⟩) (hg.block a.block (h.blk a ha).2 (hne a ha))]; exact h.there a ha j hj

theorem Own.grown {base : Nat} {w w' : World} {ao : Option Addr} {n cap : Nat} {xs : List Int} (h : Own base w ao n cap xs) (hg : w.grownBy w' none) : Own base w' ao n cap xs :=
  h.kept hg (fun _ _ => by simp)
theorem Own.alloc {base : Nat} {w : World} {ao : Option Addr} {n cap : Nat} {xs : List Int} (h : Own base w ao n cap xs) (o : Obj) : Own base (w.alloc o) ao n cap xs := h.grown (World.grownBy_alloc w o none)
theorem Own.drew {base : Nat} {w : World} {ao : Option Addr} {n cap : Nat} {xs : List Int} (h : Own base w ao n cap xs) : Own base w.drew ao n cap xs := h.grown (grownBy_drew w none)
theorem Own.mono {base base' : Nat} {w : World} {ao : Option Addr} {n cap : Nat} {xs : List Int} (h : Own base w ao n cap xs) (hb : base' ≤ base) : Own base' w ao n cap xs :=
  ⟨h.len, h.le, h.max, h.nil, h.off, fun a ha => ⟨Nat.le_trans hb (h.blk a ha).1, (h.blk a ha).2⟩, h.cells, h.there⟩

theorem Bytes.kept {w w' : World} {ao : Option Addr} {n : Nat} {ys : List Int} {row : Option Nat} (h : Bytes w ao n ys) (hg : w.grownBy w' row) (hne : ∀ a, ao = some a → n ≠ 0 → some a.block ≠ row) : Bytes w' ao n ys := by
  refine ⟨h.len, h.nil, fun a ha j u hu => ?_⟩
  have h1 := h.cells a ha j u hu
  have hj : j < n := by
    have := (List.getElem?_eq_some_iff.1 hu).1
    rw [bs_length, h.len] at this; exact this
  have hb : (a.add j).block = a.block := by unfold Addr.add; split <;> rfl
  refine World.grownBy.cell hg h1 ?_
  rw [hb]; exact hne a ha (by omega)
theorem Bytes.grown {w w' : World} {ao : Option Addr} {n : Nat} {ys : List Int} (h : Bytes w ao n ys) (hg : w.grownBy w' none) : Bytes w' ao n ys := h.kept hg (fun _ _ _ => by simp)
theorem Bytes.src {w : World} {ao : Option Addr} {n c : Nat} {ys : List Int} (h : Bytes w ao n ys) : Src Ybad.prog 1 25 (.slice ao n c) n (bs ys) w := by
  cases ao with
  | none =>
    have h0 := h.nil rfl
    subst h0
    obtain rfl : ys = [] := List.eq_nil_of_length_eq_zero h.len
    exact Src.ofNil w Ybad.underlying25 c
  | some a => exact Src.ofSlice w Ybad.underlying25 a n c (bs ys) (by rw [bs_length, h.len]; omega) (h.cells a rfl) (bs_one ys)

/-- Bytes out of a block that was laid last. -/
theorem bytes_alloc (w : World) (ys : List Int) (t : TypeId) : Bytes (w.alloc (.cells (bs ys).toArray t)) (some ⟨w.heap.size, 0, none⟩) ys.length ys := by
  refine ⟨rfl, (fun h => by cases h), fun a ha j u hu => ?_⟩
  obtain rfl := Option.some.inj ha
  have e1 := World.cell?_alloc_new w (bs ys).toArray t j
  rw [Addr.add_lit, Nat.zero_add, e1, List.getElem?_toArray, hu]

theorem Ybad.info5 : (Ybad.prog.info? 5).map (fun i => (i.zero, i.size, i.bytes)) = some (some (.int .u8 0), 1, 1) := by kernel_rfl

theorem size_setCells (b : Nat) : ∀ (vs : List Value) (o : Nat) (w : World), (w.setCells b o vs).heap.size = w.heap.size
  | [], _, _ => rfl
  | v :: r, o, w => by rw [World.setCells, size_setCells b r]; simp [World.setCell]
theorem tape_setCells (b : Nat) : ∀ (vs : List Value) (o : Nat) (w : World), (w.setCells b o vs).tape = w.tape
  | [], _, _ => rfl
  | v :: r, o, w => by rw [World.setCells, tape_setCells b r]; simp [World.setCell]

/-- THE APPEND. -/
theorem run_app {w : World} (base : Nat) (ty : TypeId) {ao : Option Addr} {n cap : Nat} {xs : List Int} (h : Own base w ao n cap xs) {x : Value} {m : Nat} {ys : List Int} (hs : Src Ybad.prog 1 25 x m (bs ys) w)
    (hb : n + m ≤ 140737488355328) (hbase : base ≤ w.heap.size) :
    ∃ ao' cap' w', (Builtin.append_ #[25, 25] ty #[.slice ao n cap, x]).run Ybad.prog w = .ok (.slice ao' (n + m) cap') w' ∧ Own base w' ao' (n + m) cap' (xs ++ ys) ∧ Step w w' ao cap ao' (n + m) cap' := by
  obtain ⟨i, hi, hz, hsz, hby⟩ := info_parts Ybad.info5
  have hml : ys.length = m := by have := hs.newsLen; rw [bs_length] at this; omega
  have hmax : n + m ≤ maxLen := by unfold maxLen; omega
  by_cases hfit : n + m ≤ cap
  · cases ao with
    | none =>
      have h0 := h.nil rfl
      obtain rfl : m = 0 := by omega
      obtain rfl : ys = [] := List.eq_nil_of_length_eq_zero hml
      have hr := run_append_nothing (P := Ybad.prog) w 25 25 ty 5 i Ybad.underlying25 hi none n cap h.le x (by rw [hsz]; exact hs)
      exact ⟨none, cap, w, hr, by simpa using h, Step.refl _ _ _ _⟩
    | some a =>
      have ea := h.off a rfl
      have hblk := h.blk a rfl
      have hth := h.there a rfl
      have hr := run_append_room_src (P := Ybad.prog) w 25 25 ty 5 i Ybad.underlying25 hi a.block 0 n cap x m (bs ys) (by rw [hsz]; exact hs) hfit
        (fun j hj => by rw [bs_length] at hj; rw [hsz]; simpa using (hth (n + j) (by omega)).1) (fun j hj => by rw [bs_length] at hj; rw [hsz]; simpa using (hth (n + j) (by omega)).2)
      rw [← ea] at hr
      refine ⟨some a, cap, _, hr, ⟨by simp [h.len, hml], hfit, h.max, (fun e => by cases e), fun b hb' => by obtain rfl := Option.some.inj hb'; exact ea, fun b hb' => ?_, fun b hb' j hj => ?_, fun b hb' j hj => ?_⟩, ⟨⟨?_, ?_, ?_, ?_, ?_⟩, .inl rfl, fun _ => ⟨rfl, rfl⟩⟩⟩
      · obtain rfl := Option.some.inj hb'
        exact ⟨hblk.1, by rw [size_setCells]; exact hblk.2⟩
      · obtain rfl := Option.some.inj hb'
        rw [bs_append, hsz]
        by_cases hjn : j < n
        · rw [World.cell?_setCells_out _ _ _ _ _ (fun _ _ => Or.inl (by show j < 0 + n * 1; omega)), h.cells _ rfl j hjn, List.getElem?_append_left (by rw [bs_length, h.len]; exact hjn)]
        · have hin := World.cell?_setCells_in a.block (bs ys) (0 + n * 1) w (fun k hk => by rw [bs_length] at hk; simpa using (hth (n + k) (by omega)).1) (j - n) (by rw [bs_length]; omega)
          rw [show 0 + n * 1 + (j - n) = j by omega] at hin
          rw [hin, List.getElem?_append_right (by rw [bs_length, h.len]; omega), show (bs xs).length = n by rw [bs_length, h.len], List.getElem?_eq_getElem]
      · obtain rfl := Option.some.inj hb'
        rw [World.frozen?_setCells]
        refine ⟨?_, (hth j hj).2⟩
        rw [hsz]
        by_cases hjn : j < n ∨ n + m ≤ j
        · rw [World.cell?_setCells_out _ _ _ _ _ (fun _ _ => by rw [bs_length]; show j < 0 + n * 1 ∨ 0 + n * 1 + ys.length ≤ j; omega)]; exact (hth j hj).1
        · have hin := World.cell?_setCells_in a.block (bs ys) (0 + n * 1) w (fun k hk => by rw [bs_length] at hk; simpa using (hth (n + k) (by omega)).1) (j - n) (by rw [bs_length]; omega)
          rw [show 0 + n * 1 + (j - n) = j by omega] at hin
          rw [hin]; rfl
      · exact World.os_setCells _ _ _ _
      · exact tape_setCells _ _ _ _
      · exact World.output_setCells _ _ _ _
      · rw [size_setCells]; exact Nat.le_refl _
      · intro k hk hne
        exact World.heap_setCells_other w _ _ _ hk (fun e => hne (by simp [e]))
  · have hold : (Builtin.firstCells i.size n (.slice ao n cap)).run Ybad.prog w.drew = .ok (bs xs).toArray w.drew := by
      rw [hsz]
      have hb2 : Bytes w.drew ao n xs := h.bytes.grown (grownBy_drew w none)
      exact (hb2.src (c := cap)).cells
    have hr := run_append_grow_src (P := Ybad.prog) w 25 25 ty 5 i _ Ybad.underlying25 hi hz ao n cap (bs xs) hold x m (bs ys) (by rw [hsz]; exact hs) (by omega) (by omega) (growslice_fits (by omega) (by rw [hby]; omega))
    have hge := grownCap_ge w (n + m) cap 5
    have hcm := grownCap_le_maxLen w (n + m) cap 5 hmax
    have hcell := fun j => World.cell?_alloc_new w.drew ((bs xs ++ bs ys).toArray ++ Builtin.zeroCells (Value.int .u8 0).cells (grownCap w (n + m) cap 5 - (n + m))) 5 j
    have hL : (bs xs ++ bs ys).length = n + m := by rw [List.length_append, bs_length, bs_length, h.len, hml]
    have hS : ((bs xs ++ bs ys).toArray ++ Builtin.zeroCells (Value.int .u8 0).cells (grownCap w (n + m) cap 5 - (n + m))).size = grownCap w (n + m) cap 5 := by
      rw [Array.size_append, List.size_toArray, hL, size_zeroCells]
      show n + m + _ * 1 = _
      omega
    refine ⟨some ⟨w.heap.size, 0, none⟩, _, _, hr, ⟨by simp [h.len, hml], hge, hcm, (fun e => by cases e), fun b hb' => by obtain rfl := Option.some.inj hb'; rfl, fun b hb' => ?_, fun b hb' j hj => ?_, fun b hb' j hj => ?_⟩,
      ⟨⟨rfl, rfl, rfl, by simp, fun k hk _ => Below.heap_alloc w.drew _ k hk⟩, .inr ⟨_, rfl, Nat.le_refl _⟩, fun hf => absurd hf hfit⟩⟩
    · obtain rfl := Option.some.inj hb'
      exact ⟨hbase, by simp⟩
    · obtain rfl := Option.some.inj hb'
      refine (hcell j).trans ?_
      rw [Array.getElem?_append_left (by rw [List.size_toArray, hL]; exact hj), List.getElem?_toArray, bs_append]
    · obtain rfl := Option.some.inj hb'
      refine ⟨?_, World.frozen?_alloc_new w.drew _ _ j⟩
      rw [show (w.drew.alloc _).cell? ⟨w.heap.size, j, none⟩ = _ from hcell j, Array.getElem?_eq_getElem (by rw [hS]; exact hj)]; rfl

/-- At the list of a plain region's operations. -/
theorem wpList_app {w : World} {ops : Array Oper} {rest : List Oper} {o : Oper} {a : Act} {Q : Exit → Act → World → Prop} (hgd : o.guard = none) (s x : Operand)
    (ho : o.op = .call { callee := .builtin .append, args := #[s, x], argTypes := #[25, 25] }) (base : Nat) {ao : Option Addr} {n cap : Nat} {xs : List Int} (hs : a.eval s = .slice ao n cap) (h : Own base w ao n cap xs)
    {bo : Option Addr} {m c : Nat} {ys : List Int} (hx : a.eval x = .slice bo m c) (hsrc : Bytes w bo m ys) (hb : n + m ≤ 140737488355328) (hbase : base ≤ w.heap.size)
    (hK : ∀ ao' n' cap' w', Own base w' ao' n' cap' (xs ++ ys) → Step w w' ao cap ao' n' cap' → wpList Ybad.prog ops Q rest (a.put o.dst (.slice ao' n' cap')) w') : wpList Ybad.prog ops Q (o :: rest) a w := by
  refine wpList_plain hgd fun K hK' => ?_
  obtain ⟨ao', cap', w', hr, h2, h3⟩ := run_app base o.type h (hsrc.src (c := c)) hb hbase
  unfold Oper.wp execOp
  simp only [ho, resolve, invoke, builtin, Sem.run_bind, Sem.run_pure, Result.andThen_ok, List.map_toArray, List.map_cons, List.map_nil, hs, hx, hr]
  exact hK' _ _ (hK ao' (n + m) cap' w' h2 h3)

/-- At a step of a region that draws. -/
theorem step_app {w : World} {ops : Array Oper} {o : Oper} {a : Act} {K : Act → World → Prop} {Q : Exit → Act → World → Prop} {E : Prop} (hgd : o.guard = none) (s x : Operand)
    (ho : o.op = .call { callee := .builtin .append, args := #[s, x], argTypes := #[25, 25] }) (base : Nat) {ao : Option Addr} {n cap : Nat} {xs : List Int} (hs : a.eval s = .slice ao n cap) (h : Own base w ao n cap xs)
    {bo : Option Addr} {m c : Nat} {ys : List Int} (hx : a.eval x = .slice bo m c) (hsrc : Bytes w bo m ys) (hb : n + m ≤ 140737488355328) (hbase : base ≤ w.heap.size)
    (hK : ∀ ao' n' cap' w', Own base w' ao' n' cap' (xs ++ ys) → Step w w' ao cap ao' n' cap' → K (a.put o.dst (.slice ao' n' cap')) w') :
    if Region.wanted o (yielded ops a.tmps) = true then Oper.wp Ybad.prog o a w K Q else E := by
  have hw : Region.wanted o (yielded ops a.tmps) = true := by simp [Region.wanted, hgd]
  rw [if_pos hw]
  obtain ⟨ao', cap', w', hr, h2, h3⟩ := run_app base o.type h (hsrc.src (c := c)) hb hbase
  unfold Oper.wp execOp
  simp only [ho, resolve, invoke, builtin, Sem.run_bind, Sem.run_pure, Result.andThen_ok, List.map_toArray, List.map_cons, List.map_nil, hs, hx, hr]
  exact hK ao' (n + m) cap' w' h2 h3

theorem bytes_one (w : World) (y : Int) (t : TypeId) : Bytes (w.alloc (.cells #[.int .u8 y] t)) (some ⟨w.heap.size, 0, none⟩) 1 [y] := bytes_alloc w [y] t
theorem bytes_two (w : World) (y z : Int) (t : TypeId) : Bytes (w.alloc (.cells #[.int .u8 y, .int .u8 z] t)) (some ⟨w.heap.size, 0, none⟩) 2 [y, z] := bytes_alloc w [y, z] t
theorem bytes_three (w : World) (x y z : Int) (t : TypeId) : Bytes (w.alloc (.cells #[.int .u8 x, .int .u8 y, .int .u8 z] t)) (some ⟨w.heap.size, 0, none⟩) 3 [x, y, z] := bytes_alloc w [x, y, z] t

end Go.Proofs.YbulkgkwDoor
