/-
  slices.SortFunc at the project's struct: the kit's contract, laid here.
-/
import Derived.Test.YbulkgnoClo
import Derived.Shelf.SlSortCmp.WholeK
import Derived.Shelf.SlGeneric
import Derived.Shelf.Lay
import Derived.Ground.SlsfProg
namespace Go.Proofs
open Go.Shelf Go.RowKit Go.Lib Go.Sort
shelf_lay_g SlLaysF0.n6 Slsf 6 at Yba 7 as Yba.sortL
end Go.Proofs
namespace Go.Proofs.Ybulkgno
open Go.Shelf Go.RowKit Go.Lib Go.Sort
set_option linter.unusedVariables false

theorem lt_iff (self : ByteArray) (side : Int) (x y : RefV) : ltOf (cf self side) x y = decide (ord self side (cut x.1) (cut y.1) < 0) := rfl
theorem swo (self : ByteArray) (side : Int) : SWO (ltOf (cf self side)) where
  irrefl x := by rw [lt_iff, ord_refl]; rfl
  trans x y z h1 h2 := by
    rw [lt_iff] at *
    simp only [decide_eq_true_eq] at *
    exact ord_trans self side h1 h2
  ntrans x y z h1 h2 := by
    rw [lt_iff] at *
    simp only [decide_eq_false_iff_not] at *
    intro h3
    rcases ord_range self side (cut x.1) (cut y.1) with e | e | e
    · omega
    · rw [ord_eq self side e] at h3
      exact h2 h3
    · have hyx : ord self side (cut y.1) (cut x.1) < 0 := by rw [ord_neg self side (cut x.1) (cut y.1)]; omega
      exact h2 (ord_trans self side hyx h3)

theorem sort_any (self : ByteArray) (side : Int) (bs bd blk cap : Nat) (d : Array RefV) (w : World) (hs : self.size ≤ 9223372036854775807) (h0 : side = 0 ∨ side = 1) (c1 : w.cell? ⟨bs, 0, none⟩ = some (.string self)) (c2 : w.cell? ⟨bd, 0, none⟩ = some (.int .i64 side)) (n1 : bs ≠ blk) (n2 : bd ≠ blk) (hH : HoldsK enc 2 w blk 0 d) (hblk : blk < w.heap.size) (hsz : d.size ≤ 256) :
    Calls Yba.prog 7 #[.slice (some ⟨blk, 0, none⟩) d.size cap, .func (.func 8) #[] #[.pointer (some ⟨bs, 0, none⟩), .pointer (some ⟨bd, 0, none⟩)]] w fun e w' =>
      e = .returned (.tuple #[]) ∧ ∃ d' n os, PermIn 0 d.size d d' ∧ SortedIn (ltOf (cf self side)) 0 d.size d' ∧ w' = sortWorldK enc 2 w blk 0 n d' os := by
  have eg : ∀ args w, (callFunc 8 args).run Yba.prog w = .ok (.enter 8 args) w := enters_of Yba.func8 (by kernel_rfl) rfl
  have hcon := AnyQ.slices_SortFunc Yba.sortL 2 Yba.isAgg26 Yba.sizeOf26 enc (fun _ => rfl) (fun x v hv => by simp [enc] at hv; rcases hv with rfl | rfl <;> rfl) (cf self side) (swo self side) 8 #[.pointer (some ⟨bs, 0, none⟩), .pointer (some ⟨bd, 0, none⟩)] blk 0 cap d w eg (fun m os dk hdk x y => clo8 self side bs bd x y _ hs h0 ((cell?_sortWorldK_other enc 2 w blk 0 m dk os ⟨bs, 0, none⟩ n1 (World.block_lt_of_cell? _ _ c1)).trans c1) ((cell?_sortWorldK_other enc 2 w blk 0 m dk os ⟨bd, 0, none⟩ n2 (World.block_lt_of_cell? _ _ c2)).trans c2)) hH hblk (by omega)
  exact hcon
end Go.Proofs.Ybulkgno
