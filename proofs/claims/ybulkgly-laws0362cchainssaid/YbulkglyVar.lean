/-
  'x := xs[i]' for a struct: the load, the new variable and the store, as one step of the walk.
-/
import Derived.Test.YbulkglyEv
import Derived.Deep.MidRow
namespace Go.Proofs.Ybulkgly
open Go.RowKit
set_option linter.unusedVariables false

theorem setCells_alloc (w : World) (t : TypeId) : ∀ (vs : List Value) (zs : List Value) (pre : List Value), zs.length = vs.length →
    (w.alloc (.cells (pre ++ zs).toArray t)).setCells w.heap.size pre.length vs = w.alloc (.cells (pre ++ vs).toArray t)
  | [], [], pre, _ => rfl
  | v :: vs, z :: zs, pre, h => by
    rw [World.setCells, World.setCell_alloc_at _ _ _ _ _ rfl]
    have e : ((pre ++ z :: zs).toArray.setIfInBounds pre.length v) = ((pre ++ [v]) ++ zs).toArray := by
      rw [List.setIfInBounds_toArray, List.set_append_right _ _ (Nat.le_refl _)]
      simp
    rw [e]
    have := setCells_alloc w t vs zs (pre ++ [v]) (by simpa using h)
    rw [List.length_append, List.length_singleton] at this
    rw [this]
    simp
theorem there_new (w : World) (cs : Array Value) (t : TypeId) (n : Nat) (h : n ≤ cs.size) : (w.alloc (.cells cs t)).there w.heap.size 0 n := fun j hj => by
  have e1 := World.cell?_alloc_new w cs t j
  rw [Nat.zero_add]
  exact ⟨by rw [show (w.alloc _).cell? ⟨w.heap.size, j, none⟩ = _ from e1, Array.getElem?_eq_getElem (by omega)]; rfl, World.frozen?_alloc_new w cs t j⟩

/-- 'it := items[i]': the load of a struct, its new variable and the store into it, as one step. -/
theorem wpList_var {P : Program} {w : World} {ops : Array Oper} {rest : List Oper} {o1 o2 o3 : Oper} {a : Act} {Q : Exit → Act → World → Prop} (g1 : o1.guard = none) (g2 : o2.guard = none) (g3 : o3.guard = none) (T : TypeId) (x1 x3 y3 : Operand)
    (h1 : o1.op = .load T x1) (h2 : o2.op = .alloc T) (h3 : o3.op = .store T x3 y3) (b o : Nat) (cs : List Value) (hx : a.eval x1 = .pointer (some ⟨b, o, none⟩)) (d : TypeDesc) (hr : w.rangeAt b o cs) (hu : P.underlying T = some d) (hd : d.isRow = true)
    (hi : (P.info? T).map (fun i => (i.zero.map (·.cells.size), i.size)) = some (some cs.length, cs.length)) (one : ∀ v ∈ cs, v.oneCell' = true)
    (e3 : ((a.put o1.dst (.agg cs.toArray)).put o2.dst (.pointer (some ⟨w.heap.size, 0, none⟩))).eval x3 = .pointer (some ⟨w.heap.size, 0, none⟩))
    (f3 : ((a.put o1.dst (.agg cs.toArray)).put o2.dst (.pointer (some ⟨w.heap.size, 0, none⟩))).eval y3 = .agg cs.toArray)
    (hK : wpList P ops Q rest (((a.put o1.dst (.agg cs.toArray)).put o2.dst (.pointer (some ⟨w.heap.size, 0, none⟩))).put o3.dst undef) (w.alloc (.cells cs.toArray T))) : wpList P ops Q (o1 :: o2 :: o3 :: rest) a w := by
  obtain ⟨i, hi1, hi2⟩ := Option.map_eq_some_iff.1 hi
  simp only [Prod.mk.injEq] at hi2
  obtain ⟨z, hz, hzs⟩ := Option.map_eq_some_iff.1 hi2.1
  have hsz : (P.info? T).map (·.size) = some cs.length := by rw [hi1]; simp [hi2.2]
  refine wpList_load_mid g1 T x1 h1 b o hx cs d hr hu hd hsz ?_
  refine wpList_plain g2 fun K hK' => ?_
  unfold Oper.wp
  simp [execOp, h2, Instr.alloc, zeroValue, typeInfo, hi1, hz, newVar, newRow]
  refine hK' _ _ ?_
  refine wpList_store_mid g3 T x3 y3 h3 w.heap.size 0 cs.toArray e3 f3 (there_new w _ _ _ (by simp [hzs])) (by simpa using hsz) (all_oneCell_toArray one) ?_
  have e := setCells_alloc w T cs z.cells.toList [] (by simpa using hzs)
  simp only [List.nil_append, List.length_nil] at e
  have e' : (w.alloc (.cells z.cells T)).setCells w.heap.size 0 cs = w.alloc (.cells cs.toArray T) := by simpa using e
  rw [e']
  exact hK


theorem below_grownBy {w w' : World} (h : Below w.heap.size w w') : w.grownBy w' none := ⟨h.os, h.tape, h.output, h.size, fun k hk _ => h.block k hk⟩
theorem range_below {B : Nat} {w w' : World} (h : Below B w w') {b o : Nat} {cs : List Value} (hr : w.rangeAt b o cs) (hb : b < B) : w'.rangeAt b o cs := fun j v hv => by
  rw [h.cell (p := ⟨b, o + j, none⟩) hb]; exact hr j v hv
theorem owns_below {H : Type} {P : Program} {k : TypeId} {R : Value → Option (DataW H × List MemPlace)} {B : Nat} {w w' : World} {b n : Nat} {D : DataW H} (h : Below B w w') (ho : w.ownsMap P k R b n D) (hb : b < B) : w'.ownsMap P k R b n D := by
  obtain ⟨es, clock, e, rest⟩ := ho
  exact ⟨es, clock, (h.block b hb).trans e, rest⟩
end Go.Proofs.Ybulkgly
