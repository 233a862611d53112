/-
  slices.Equal and slices.Clone at the project's struct: the kit's contracts, laid here.
-/
import Derived.Test.YbulkgnoCompact
import Derived.Shelf.SlicesQ.Equal
import Derived.Shelf.SlicesE.Clone
import Derived.Laws.StructEq
import Derived.Ground.SlgqProg
import Derived.Ground.SlgnProg
namespace Go.Proofs
open Go.Shelf Go.RowKit Go.Lib Go.Sort
shelf_lay_g SlLaysQ.n8 Slgq 8 at Yba 14 as Yba.eqL
shelf_lay_g SlLaysE0.n41 Slgn 41 at Yba 12 as Yba.cloneL
end Go.Proofs
namespace Go.Proofs.Ybulkgno
open Go.Shelf Go.RowKit Go.Lib Go.Sort
set_option linter.unusedVariables false
set_option linter.unusedSimpArgs false

def eqR (x y : RefV) : Bool := (cut x.1).toList == (cut y.1).toList && x.2.toList == y.2.toList
theorem eqR_refl (x : RefV) : eqR x x = true := by simp [eqR]
theorem neqAt : NeqAt Yba.prog 26 (fun x => .agg (enc x).toArray) eqR := by
  refine ⟨fun x y w => ?_, GuardAt.agg _ (by kernel_rfl)⟩
  have u9 := Yba.underlying9
  have a9 := Yba.isAgg9
  have z9 := Yba.sizeOf9
  have hS : Yba.prog.underlying 26 = some (.struct (Yba.prog.fieldsOf 26)) := by kernel_rfl
  have hp : Yba.prog.stoodInHeld 26 = false := by kernel_rfl
  simp only [enc]
  rw [run_neq_struct, show (10000 : Nat) = 9999 + 1 from rfl, run_equalIn_agg w 9999 26 _ _ hS hp]
  simp only [Program.fieldsOf, Yba.underlying26]
  go_simp
  unfold eqR
  by_cases h1 : (cut x.fst).toList = (cut y.fst).toList <;> by_cases h2 : x.snd.toList = y.snd.toList <;> simp [h1, h2]

theorem allEq_refl : ∀ L : List RefV, Lib.allEq eqR L L = true
  | [] => rfl
  | x :: L => by simp only [Lib.allEq, eqR_refl, allEq_refl L, Bool.and_self]

theorem equal_same (L : List RefV) (b1 b2 c d : Nat) (w : World) (hn : L.length ≤ 1000) (h1 : RefsAt w b1 L) (h2 : RefsAt w b2 L) :
    Calls Yba.prog 14 #[.slice (some ⟨b1, 0, none⟩) L.length c, .slice (some ⟨b2, 0, none⟩) L.length d] w fun e w' => e = .returned (.bool true) ∧ ∃ q, w' = w.drewN q := by
  have hc : ∀ (b : Nat), RefsAt w b L → ∀ j, j < L.length → ∀ i v, (enc L[j]!)[i]? = some v → w.cell? ⟨b, 0 + j * 2 + i, none⟩ = some v := fun b hb j hj i v hv => by
    have hx : L[j]? = some L[j]! := by rw [getElem!_pos L j hj, List.getElem?_eq_getElem hj]
    obtain ⟨g1, g2⟩ := hb j _ hx
    generalize L[j]! = x at *
    match i, hv with
    | 0, hv => simp [enc] at hv; subst hv; simpa using g1
    | 1, hv => simp [enc] at hv; subst hv; simpa using g2
    | i + 2, hv => simp [enc] at hv
  have hcon := AnyQ.slices_Equal Yba.eqL 2 Yba.isAgg26 Yba.sizeOf26 enc (fun _ => rfl) eqR neqAt b1 0 L.length c b2 0 L.length d L L w (Nat.le_refl _) (Nat.le_refl _) (by omega) (by omega) (hc b1 h1) (hc b2 h2)
  rw [List.take_length, allEq_refl] at hcon
  exact hcon

def cellsL : List RefV → List Value
  | [] => []
  | x :: L => .string (cut x.1) :: .string x.2 :: cellsL L
theorem cellsL_length : ∀ L : List RefV, (cellsL L).length = L.length * 2
  | [] => rfl
  | x :: L => by simp only [cellsL, List.length_cons, cellsL_length L]; omega
theorem cellsL_append : ∀ L M : List RefV, cellsL (L ++ M) = cellsL L ++ cellsL M
  | [], _ => rfl
  | x :: L, M => by simp [cellsL, cellsL_append L M]
theorem cellsL_one : ∀ L : List RefV, ∀ v ∈ cellsL L, v.oneCell' = true
  | [], v, h => by cases h
  | x :: L, v, h => by
    simp only [cellsL, List.mem_cons] at h
    rcases h with rfl | rfl | h
    · rfl
    · rfl
    · exact cellsL_one L v h
theorem cellsL_at : ∀ (L : List RefV) (j : Nat) (x : RefV), L[j]? = some x → (cellsL L)[j * 2]? = some (.string (cut x.1)) ∧ (cellsL L)[j * 2 + 1]? = some (.string x.2)
  | [], _, _, h => by simp at h
  | y :: L, 0, x, h => by simp at h; subst h; simp [cellsL]
  | y :: L, j + 1, x, h => by
    have := cellsL_at L j x (by simpa using h)
    rw [show (j + 1) * 2 = j * 2 + 2 by omega, show j * 2 + 2 + 1 = j * 2 + 1 + 2 by omega]
    simpa [cellsL] using this
theorem RefsAt.cells {w : World} {g : Nat} : ∀ (L : List RefV) (o : Nat), (∀ (j : Nat) (x : RefV), L[j]? = some x → w.cell? ⟨g, o + j * 2, none⟩ = some (.string (cut x.1)) ∧ w.cell? ⟨g, o + (j * 2 + 1), none⟩ = some (.string x.2)) → ∀ j u, (cellsL L)[j]? = some u → w.cell? ⟨g, o + j, none⟩ = some u
  | [], _, _, _, _, h => by simp [cellsL] at h
  | x :: L, o, hc, 0, u, h => by
    simp [cellsL] at h
    have := (hc 0 x rfl).1
    rw [← h]
    simpa using this
  | x :: L, o, hc, 1, u, h => by
    simp [cellsL] at h
    have := (hc 0 x rfl).2
    rw [← h]
    simpa using this
  | x :: L, o, hc, j + 2, u, h => by
    have := RefsAt.cells L (o + 2) (fun k y hy => by
      have := hc (k + 1) y (by simpa using hy)
      rw [show o + 2 + k * 2 = o + (k + 1) * 2 by omega, show o + 2 + (k * 2 + 1) = o + ((k + 1) * 2 + 1) by omega]
      exact this) j u (by simpa [cellsL] using h)
    rw [show o + (j + 2) = o + 2 + j by omega]
    exact this
theorem RefsAt.all {w : World} {g : Nat} {L : List RefV} (h : RefsAt w g L) : ∀ j u, (cellsL L)[j]? = some u → w.cell? ⟨g, 0 + j, none⟩ = some u :=
  RefsAt.cells L 0 (fun j x hx => by simpa using h j x hx)
theorem RefsAt.of_own {w : World} {B g cap n : Nat} {L : List RefV} (h : w.ownsRow B 26 2 (.slice (some ⟨g, 0, none⟩) n cap) n (cellsL L)) (hn : L.length = n) : RefsAt w g L := fun j x hx => by
  have hj := (List.getElem?_eq_some_iff.1 hx).1
  obtain ⟨h1, h2⟩ := cellsL_at L j x hx
  exact ⟨(World.ownsRow.cellAt h _ (by omega)).trans h1, (World.ownsRow.cellAt h _ (by omega)).trans h2⟩
theorem clone_any (L : List RefV) (g c : Nat) (w : World) (hn : L.length ≤ 1000) (h : RefsAt w g L) :
    Calls Yba.prog 12 #[.slice (some ⟨g, 0, none⟩) L.length c] w fun e w' => ∃ g' c', e = .returned (.slice (some ⟨g', 0, none⟩) L.length c') ∧ RefsAt w' g' L ∧ Below w.heap.size w w' := by
  obtain ⟨i0, hi, h0, h1, h2⟩ := info_parts Yba.info26
  have hcon := AnyE.slices_Clone Yba.cloneL i0 _ 2 32 hi h0 h1 h2 rfl (by omega) Yba.sizeOf26 g 0 L.length c (cellsL L) w (cellsL_length L) (by unfold maxLen; omega) (by omega) h.all (cellsL_one L)
  refine hcon.mono ?_
  rintro e w' ⟨v', rfl, hown, hne, hb⟩
  have hown' := hown
  obtain ⟨_, h2 | ⟨g', c', cur, h2, _⟩⟩ := hown
  · exact absurd h2.1 hne
  · subst h2
    exact ⟨g', c', rfl, RefsAt.of_own hown' rfl, hb⟩
end Go.Proofs.Ybulkgno
