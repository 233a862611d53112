/-
  slices.Clip and slices.Insert at the project's struct, walked.
-/
import Derived.Test.YbulkgnoEq
import Derived.Shelf.Spec.SlicesInsertGrow
namespace Go.Proofs.Ybulkgno
open Go.Shelf Go.RowKit Go.Lib Go.Sort
set_option linter.unusedVariables false
set_option linter.unusedSimpArgs false

theorem copy2 (w : World) (ty : TypeId) (b o dLen dCap : Nat) (a : Addr) (sLen sCap : Nat) (cs : List Value) (hn : cs.length = Nat.min sLen dLen * 2)
    (hsrc : ∀ j v, cs[j]? = some v → w.cell? (a.add j) = some v) (ht : w.there b o cs.length) (h1 : ∀ v ∈ cs, v.oneCell' = true) :
    (Builtin.copy_ #[24, 24] ty #[.slice (some ⟨b, o, none⟩) dLen dCap, .slice (some a) sLen sCap]).run Yba.prog w = .ok (goInt (Nat.min sLen dLen)) (w.setCells b o cs) := by
  have hl := run_loadCells_list (P := Yba.prog) w a cs hsrc
  have hst := run_storeCells_cells (P := Yba.prog) b o cs 0 w (fun j hj => by simpa using (ht j hj).1) (fun j hj => by simpa using (ht j hj).2) h1
  obtain ⟨i, hi, _, hz, _⟩ := info_parts Yba.info26
  rw [hn] at hl
  simp [Builtin.copy_, run_underlying Yba.underlying24, Builtin.lenOf, Builtin.firstCells, sizeOf, typeInfo, hi, hz, hl, hst]

theorem cellsL_take : ∀ (L : List RefV) (i : Nat), cellsL (L.take i) = (cellsL L).take (i * 2)
  | [], i => by simp [cellsL]
  | x :: L, 0 => by simp [cellsL]
  | x :: L, i + 1 => by rw [show (i + 1) * 2 = i * 2 + 2 by omega]; simp [cellsL, cellsL_take L i]
theorem cellsL_drop : ∀ (L : List RefV) (i : Nat), cellsL (L.drop i) = (cellsL L).drop (i * 2)
  | [], i => by simp [cellsL]
  | x :: L, 0 => by simp [cellsL]
  | x :: L, i + 1 => by rw [show (i + 1) * 2 = i * 2 + 2 by omega]; simp [cellsL, cellsL_drop L i]
theorem RefsAt.of_cells {w : World} {g : Nat} {L : List RefV} (h : ∀ j u, (cellsL L)[j]? = some u → w.cell? ⟨g, j, none⟩ = some u) : RefsAt w g L := fun j x hx => by
  obtain ⟨h1, h2⟩ := cellsL_at L j x hx
  exact ⟨h _ _ h1, h _ _ h2⟩

set_option maxRecDepth 100000 in
theorem clip_any (g n cap : Nat) (w : World) (hn : n ≤ cap) (hc : cap ≤ 1000) : Calls Yba.prog 24 #[.slice (some ⟨g, 0, none⟩) n cap] w fun e w' => e = .returned (.slice (some ⟨g, 0, none⟩) n n) ∧ w' = w := by
  have h1 : (n : Int) ≤ cap := by omega
  go_enter Yba.func24, Yba.ntmps24
  go_wp2_with fail
  go_ret
  exact ⟨rfl, rfl⟩

def Inserted (w : World) (L : List RefV) (r : RefV) (i n : Nat) (e : Ending) (w' : World) : Prop :=
  ∃ g' c', e = .returned (.slice (some ⟨g', 0, none⟩) (n + 1) c') ∧ n + 1 ≤ c' ∧ c' ≤ 9223372036854775807 ∧ RefsAt w' g' (L.take i ++ r :: L.drop i) ∧ Below w.heap.size w w'

set_option maxRecDepth 100000 in
set_option maxHeartbeats 2000000 in
theorem insert_end (L : List RefV) (r : RefV) (g bv : Nat) (w : World) (hL : L.length ≤ 256) (h1 : RefsAt w g L) (h2 : RefsAt w bv [r]) :
    Calls Yba.prog 23 #[.slice (some ⟨g, 0, none⟩) L.length L.length, .int .i64 (L.length : Int), .slice (some ⟨bv, 0, none⟩) 1 1] w fun e w' => Inserted w L r L.length L.length e w' := by
  have HA : Hid (∀ j u, (cellsL L)[j]? = some u → w.cell? ⟨g, 0 + j, none⟩ = some u) := h1.all
  have HB : Hid (∀ j u, (cellsL [r])[j]? = some u → w.cell? ((⟨bv, 0, none⟩ : Addr).add j) = some u) := fun j u hu => by rw [Addr.add_lit]; exact h2.all j u hu
  have HC : Hid ((cellsL L).length = L.length * 2) := cellsL_length L
  obtain ⟨i0, hi0, hz0, hz1, hz2⟩ := info_parts Yba.info26
  clear h1 h2
  go_enter Yba.func23, Yba.ntmps23
  go_wp2_with (at_builtin; refine wpList_append_arg _ rfl _ _ 24 rfl 26 i0 _ 2 32 Yba.underlying24 hi0 hz0 hz1 hz2 rfl (by decide) g 0 L.length L.length (cellsL L) rfl HC.out HA.out ⟨bv, 0, none⟩ 1 1 (cellsL [r]) rfl rfl HB.out (cellsL_one _) (fun hh => by omega) (by unfold maxLen; omega) (by omega) (fun hh => by omega) ?_; intro _ v' w' hown hgr; have HOWN : Hid (w'.ownsRow w.heap.size 26 2 v' (L.length + 1) (cellsL L ++ cellsL [r])) := hown; have HBEL : Hid (Below w.heap.size w w') := (Below.refl _ _).grown hgr (Nat.le_refl _) (fun k hk => by cases hk); clear hown hgr)
  go_ret
  have hown := HOWN.out
  have hown' := hown
  obtain ⟨_, h2 | ⟨g', c', cur, h2, _, _, hle, hmx, _⟩⟩ := hown
  · omega
  · subst h2
    refine ⟨g', c', rfl, hle, by unfold maxLen at hmx; omega, ?_, HBEL.out⟩
    rw [List.take_length, List.drop_length]
    rw [← cellsL_append] at hown'
    exact RefsAt.of_own hown' (by simp)

theorem there_alloc (w : World) (cs : Array Value) (t : TypeId) (o n : Nat) (h : o + n ≤ cs.size) : (w.alloc (.cells cs t)).there w.heap.size o n := fun j hj => by
  have hb := heap_alloc_new w (.cells cs t)
  have hlt : o + j < cs.size := by omega
  constructor
  · rw [cell_of_row _ _ _ cs t (0, 0) hb, Array.getElem?_eq_getElem hlt]; rfl
  · exact frozen_of_row _ _ _ cs t hb
theorem there_set {w : World} {g o n a : Nat} {vs : List Value} (h : w.there g o n) (hv : w.there g a vs.length) : (w.setCells g a vs).there g o n := fun j hj => by
  refine ⟨?_, by rw [World.frozen?_setCells]; exact (h j hj).2⟩
  by_cases e : a ≤ o + j ∧ o + j < a + vs.length
  · have := World.cell?_setCells_in g vs a w (fun k hk => (hv k hk).1) (o + j - a) (by omega)
    rw [show a + (o + j - a) = o + j by omega] at this
    rw [this]; rfl
  · rw [World.cell?_setCells_out g vs a w _ (fun _ _ => by simp only; omega)]
    exact (h j hj).1

set_option maxRecDepth 100000 in
set_option maxHeartbeats 4000000 in
theorem insert_mid (L : List RefV) (r : RefV) (g bv i : Nat) (w : World) (hi : i < L.length) (hL : L.length ≤ 256) (h1 : RefsAt w g L) (h2 : RefsAt w bv [r]) :
    Calls Yba.prog 23 #[.slice (some ⟨g, 0, none⟩) L.length L.length, .int .i64 (i : Int), .slice (some ⟨bv, 0, none⟩) 1 1] w fun e w' => Inserted w L r i L.length e w' := by
  have mixed := Yba.mixed
  have hcl := cellsL_length L
  have hgl : g < w.heap.size := World.block_lt_of_cell? _ _ (h1 0 _ (List.getElem?_eq_getElem (by omega))).1
  have hvl : bv < w.heap.size := World.block_lt_of_cell? _ _ (h2 0 r rfl).1
  obtain ⟨i0, hi0, hz0, hz1, hz2⟩ := info_parts Yba.info26
  have hold : (Builtin.firstCells i0.size i (.slice (some ⟨g, 0, none⟩) i L.length)).run Yba.prog w.drew = .ok ((cellsL L).take (i * 2)).toArray w.drew := by
    rw [hz1]
    exact run_firstCells_some w.drew 2 i ⟨g, 0, none⟩ i L.length _ (by rw [List.length_take]; omega) (fun j v hj => by
      rw [Addr.add_lit]
      rw [List.getElem?_take] at hj
      split at hj
      · exact h1.all j v hj
      · cases hj)
  have hrz : ∀ ty, (Builtin.append_ #[24, 3] ty #[.slice (some ⟨g, 0, none⟩) i L.length, .int .i64 ((L.length : Int) + 1 - (i : Int))]).run Yba.prog w =
      .ok (.slice (some ⟨w.heap.size, 0, none⟩) (L.length + 1) (grownCap w (L.length + 1) L.length 26)) (w.drew.alloc (.cells (((cellsL L).take (i * 2)).toArray ++ Builtin.zeroCells #[.string ByteArray.empty, .string ByteArray.empty] (L.length + 1 - i) ++ Builtin.zeroCells #[.string ByteArray.empty, .string ByteArray.empty] (grownCap w (L.length + 1) L.length 26 - (L.length + 1))) 26)) := fun ty => by
    have h := Lib.run_append_grow_zeros w 24 3 ty 26 i0 _ .i64 .i64 Yba.underlying24 Yba.underlying3 hi0 hz0 (some ⟨g, 0, none⟩) i L.length _ hold (L.length + 1 - i) (by omega) (by omega) (by omega) (by omega) (by rw [hz2]; omega) (by rw [hz2, show i + (L.length + 1 - i) = L.length + 1 by omega]; exact growslice_fits (by omega) (by omega))
    rw [show i + (L.length + 1 - i) = L.length + 1 by omega] at h
    rw [show (L.length : Int) + 1 - (i : Int) = ((L.length + 1 - i : Nat) : Int) by omega]
    exact h
  have hG1 : L.length + 1 ≤ grownCap w (L.length + 1) L.length 26 := grownCap_ge w _ _ _
  have hG2 : grownCap w (L.length + 1) L.length 26 ≤ 9223372036854775807 := by
    have := grownCap_le_maxLen w (L.length + 1) L.length 26 (by unfold maxLen; omega)
    unfold maxLen at this
    omega
  generalize grownCap w (L.length + 1) L.length 26 = G at *
  have hsz : (L.length + 1) * 2 ≤ (((cellsL L).take (i * 2)).toArray ++ Builtin.zeroCells #[.string ByteArray.empty, .string ByteArray.empty] (L.length + 1 - i) ++ Builtin.zeroCells #[.string ByteArray.empty, .string ByteArray.empty] (G - (L.length + 1))).size := by
    simp [Builtin.zeroCells]
    omega
  have hget : ∀ j, j < i * 2 → (((cellsL L).take (i * 2)).toArray ++ Builtin.zeroCells #[.string ByteArray.empty, .string ByteArray.empty] (L.length + 1 - i) ++ Builtin.zeroCells #[.string ByteArray.empty, .string ByteArray.empty] (G - (L.length + 1)))[j]? = (cellsL L)[j]? := fun j hj => by
    rw [Array.getElem?_append_left (by simp; omega), Array.getElem?_append_left (by simp; omega)]
    simp [hj]
  generalize ((cellsL L).take (i * 2)).toArray ++ Builtin.zeroCells #[.string ByteArray.empty, .string ByteArray.empty] (L.length + 1 - i) ++ Builtin.zeroCells #[.string ByteArray.empty, .string ByteArray.empty] (G - (L.length + 1)) = ROW at *
  have hW1 : Below w.heap.size w (w.drew.alloc (.cells ROW 26)) := ((Below.refl _ w).drew).alloc (Nat.le_refl _) _
  have hth1 : (w.drew.alloc (.cells ROW 26)).there w.heap.size 0 ((L.length + 1) * 2) := there_alloc w.drew ROW 26 0 _ (by omega)
  have hc1 : ∀ j, j < i * 2 → (w.drew.alloc (.cells ROW 26)).cell? ⟨w.heap.size, j, none⟩ = (cellsL L)[j]? := fun j hj => by
    rw [← hget j hj]
    exact cell_of_row _ _ _ ROW 26 (0, 0) (heap_alloc_new w.drew _)
  have hLg : ∀ j u, (cellsL L)[j]? = some u → (w.drew.alloc (.cells ROW 26)).cell? ⟨g, j, none⟩ = some u := fun j u hu => (hW1.cell (p := ⟨g, j, none⟩) hgl).trans (by simpa using h1.all j u hu)
  have hVg : ∀ j u, (cellsL [r])[j]? = some u → (w.drew.alloc (.cells ROW 26)).cell? ⟨bv, j, none⟩ = some u := fun j u hu => (hW1.cell (p := ⟨bv, j, none⟩) hvl).trans (by simpa using h2.all j u hu)
  generalize w.drew.alloc (.cells ROW 26) = W1 at *
  have hlr : (cellsL [r]).length = 2 := rfl
  have hcp1 : ∀ ty dc, (Builtin.copy_ #[24, 24] ty #[.slice (some ⟨w.heap.size, i * 2, none⟩) (L.length + 1 - i) dc, .slice (some ⟨bv, 0, none⟩) 1 1]).run Yba.prog W1 = .ok (goInt 1) (W1.setCells w.heap.size (i * 2) (cellsL [r])) := fun ty dc => by
    have := copy2 W1 ty w.heap.size (i * 2) (L.length + 1 - i) dc ⟨bv, 0, none⟩ 1 1 (cellsL [r]) (by rw [hlr]; simp only [Nat.min_def]; split <;> omega) (fun j v hj => by rw [Addr.add_lit]; simpa using hVg j v hj) (fun j hj => by have := hth1 (i * 2 + j) (by rw [hlr] at hj; omega); simpa using this) (cellsL_one _)
    rw [show Nat.min 1 (L.length + 1 - i) = 1 by simp only [Nat.min_def]; split <;> omega] at this
    exact this
  have hns : g ≠ w.heap.size := by omega
  have hth2 : (W1.setCells w.heap.size (i * 2) (cellsL [r])).there w.heap.size 0 ((L.length + 1) * 2) := there_set hth1 (fun j hj => by have := hth1 (i * 2 + j) (by rw [hlr] at hj; omega); simpa using this)
  have hB2 : Below w.heap.size w (W1.setCells w.heap.size (i * 2) (cellsL [r])) := hW1.grown (setCells_grown _ _ _ _) hW1.size (fun k hk => by cases hk; exact Nat.le_refl _)
  have hc2 : ∀ j, j < i * 2 → (W1.setCells w.heap.size (i * 2) (cellsL [r])).cell? ⟨w.heap.size, j, none⟩ = (cellsL L)[j]? := fun j hj => by
    rw [World.cell?_setCells_out _ _ _ _ _ (fun _ _ => by simp only; omega)]; exact hc1 j hj
  have hd2 : ∀ j, j < 2 → (W1.setCells w.heap.size (i * 2) (cellsL [r])).cell? ⟨w.heap.size, i * 2 + j, none⟩ = (cellsL [r])[j]? := fun j hj => by
    rw [World.cell?_setCells_in w.heap.size (cellsL [r]) (i * 2) W1 (fun k hk => by have := (hth1 (i * 2 + k) (by rw [hlr] at hk; omega)).1; simpa using this) j (by rw [hlr]; exact hj), List.getElem?_eq_getElem]
  have hLg2 : ∀ j u, (cellsL L)[j]? = some u → (W1.setCells w.heap.size (i * 2) (cellsL [r])).cell? ⟨g, j, none⟩ = some u := fun j u hu => by
    rw [World.cell?_setCells_out _ _ _ _ _ (fun h _ => absurd h hns)]; exact hLg j u hu
  generalize hW2 : W1.setCells w.heap.size (i * 2) (cellsL [r]) = W2 at *
  clear hW2
  have hdl : ((cellsL L).drop (i * 2)).length = (L.length - i) * 2 := by rw [List.length_drop, hcl]; omega
  have hcp2 : ∀ ty dc sc, (Builtin.copy_ #[24, 24] ty #[.slice (some ⟨w.heap.size, (i + 1) * 2, none⟩) (L.length + 1 - (i + 1)) dc, .slice (some ⟨g, i * 2, none⟩) (L.length - i) sc]).run Yba.prog W2.drew = .ok (goInt ((L.length - i : Nat) : Int)) (W2.drew.setCells w.heap.size ((i + 1) * 2) ((cellsL L).drop (i * 2))) := fun ty dc sc => by
    have := copy2 W2.drew ty w.heap.size ((i + 1) * 2) (L.length + 1 - (i + 1)) dc ⟨g, i * 2, none⟩ (L.length - i) sc ((cellsL L).drop (i * 2)) (by rw [hdl]; simp only [Nat.min_def]; split <;> omega) (fun j v hj => by rw [Addr.add_lit]; rw [List.getElem?_drop] at hj; exact hLg2 _ v hj) (fun j hj => by have := hth2 ((i + 1) * 2 + j) (by rw [hdl] at hj; omega); simpa using this) (fun v hv => cellsL_one L v (List.mem_of_mem_drop hv))
    rw [show Nat.min (L.length - i) (L.length + 1 - (i + 1)) = L.length - i by simp only [Nat.min_def]; split <;> omega] at this
    exact this
  have hfin : RefsAt (W2.drew.setCells w.heap.size ((i + 1) * 2) ((cellsL L).drop (i * 2))) w.heap.size (L.take i ++ r :: L.drop i) := RefsAt.of_cells (fun j u hu => by
    rw [cellsL_append, show r :: L.drop i = [r] ++ L.drop i from rfl, cellsL_append, cellsL_take, cellsL_drop] at hu
    have htl : ((cellsL L).take (i * 2)).length = i * 2 := by rw [List.length_take]; omega
    by_cases e1 : j < i * 2
    · rw [List.getElem?_append_left (by omega), List.getElem?_take, if_pos e1] at hu
      rw [World.cell?_setCells_out _ _ _ _ _ (fun _ _ => by simp only; omega)]
      exact (hc2 j e1).trans hu
    · rw [List.getElem?_append_right (by omega), htl] at hu
      by_cases e2 : j < i * 2 + 2
      · rw [List.getElem?_append_left (by rw [hlr]; omega)] at hu
        rw [World.cell?_setCells_out _ _ _ _ _ (fun _ _ => by simp only; omega)]
        have := hd2 (j - i * 2) (by omega)
        rw [show i * 2 + (j - i * 2) = j by omega] at this
        exact this.trans hu
      · rw [List.getElem?_append_right (by rw [hlr]; omega), hlr] at hu
        have hlt := (List.getElem?_eq_some_iff.1 hu).1
        have := World.cell?_setCells_in w.heap.size ((cellsL L).drop (i * 2)) ((i + 1) * 2) W2.drew (fun k hk => by have := (hth2 ((i + 1) * 2 + k) (by rw [hdl] at hk; omega)).1; simpa using this) (j - i * 2 - 2) hlt
        rw [show (i + 1) * 2 + (j - i * 2 - 2) = j by omega] at this
        rw [this, ← hu, List.getElem?_eq_getElem hlt])
  have HFIN : Hid (Inserted w L r i L.length (.returned (.slice (some ⟨w.heap.size, 0, none⟩) (L.length + 1) G)) (W2.drew.setCells w.heap.size ((i + 1) * 2) ((cellsL L).drop (i * 2)))) :=
    ⟨w.heap.size, G, rfl, hG1, hG2, hfin, hB2.drew.grown (setCells_grown _ _ _ _) hB2.size (fun k hk => by cases hk; exact Nat.le_refl _)⟩
  clear hfin hth1 hth2 hc1 hc2 hd2 hLg hLg2 hVg hB2 hW1 hold hget hsz h1 h2 hcl hdl
  have hz2' : ¬ ((i : Int) = (L.length : Int)) := by omega
  have hz3 : (i : Int) ≤ (L.length : Int) := by omega
  generalize L.length = n at *
  go_enter Yba.func23, Yba.ntmps23
  go_wp2_with (first
    | (at_builtin; refine Lib.wpList_append_run _ rfl _ _ _ _ rfl _ _ rfl rfl _ _ (hrz _) ?_)
    | (at_builtin; refine wpList_copy_runI _ rfl _ _ 24 24 rfl _ _ rfl rfl (hcp1 _ _) ?_))
  have hw1 : IntKind.i64.wrap ((i : Int) + 1) = (i : Int) + 1 := by rw [IntKind.wrap_i64]; omega
  have hb1 : (0 : Int) ≤ (i : Int) + 1 := by omega
  have htn : ((i : Int) + 1).toNat = i + 1 := by omega
  have hin : i ≤ n := by omega
  have hGi : ¬ (G = i + 1) := by omega
  have hni : ¬ (n = i) := by omega
  go_region_law_o (refine step_copy_runI rfl _ _ 24 24 rfl (.slice (some ⟨w.heap.size, (i + 1) * 2, none⟩) (n + 1 - (i + 1)) (G - (i + 1))) (.slice (some ⟨g, i * 2, none⟩) (n - i) (n - i)) (by simp [Act.eval, Act.put, hGi]) (by simp [Act.eval, Act.put, hni]) (hcp2 3 (G - (i + 1)) (n - i)) ?_)
  go_wp2_with fail
  go_ret
  exact HFIN.out
end Go.Proofs.Ybulkgno
