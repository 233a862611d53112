/-
  What the listed variables (net/netip.z4, z0) give the walks; arguments opened: a slice of bytes, an array of sixteen bytes.
-/
import Derived.Test.YbulkgkwDoorOwn
import Derived.ProofKit
import Derived.LaidMore
import Derived.OpenShut
import Derived.Stop.Joined
namespace Go.Proofs.YbulkgkwDoor
open Go.ChangeShapes Go.WideShapes Go.ChangeAt Go.WideMaps Go.WideElems Go.RowKit
set_option linter.unusedVariables false

theorem ownk : ownKnob Ybad.prog.godebug = none := by kernel_rfl
theorem laidOut : laidOutB Ybad.prog = true := by kernel_rfl
theorem gz0 : Ybad.prog.globalNamed (Rows.lawS0360COneRow.laid.map (·.1)).getLast! = some 0 := by kernel_rfl
theorem tz0 : (Ybad.prog.globals[0]?).map (·.type) = some 38 := by kernel_rfl

def laidL : List (String × DataW Unit) := Rows.lawS0360COneRow.laid

/-- A world in which z4 points to an addrDetail of its own, as its initialiser lays it; z0 is nil. -/
def addZ4 (w : World) : World := (w.alloc (.cells #[.bool false, .string ByteArray.empty] 73)).setCell ⟨1, 0, none⟩ (.pointer (some ⟨w.heap.size, 0, none⟩))

theorem door_met (os : Os) (args : Array Value) : laidMetH Ybad.prog laidL ((addZ4 (World.settled Ybad.prog os)).forCall (fun _ _ => 0) ⟨#[], args, []⟩).memory :=
  laidMetH_of_parts3 (fuel := 8) (laidMet_of_run' 8 (by kernel_rfl) (by kernel_rfl)) (by kernel_rfl) (by kernel_rfl)

theorem of_laid {W : World} (h : laidMetH Ybad.prog laidL W) : W.cell? ⟨0, 0, none⟩ = some (.pointer none) := by
  rw [MakeChecks.laidMetH_plain _ _ _ (by kernel_rfl)] at h
  obtain ⟨ps, ⟨g0, t0, cs0, f0, p0, q0, hg0, ht0, hv0, hd0, ⟨g1, t1, cs1, f1, p1, q1, hg1, ht1, hv1, hd1, _, _⟩, _⟩, _, _⟩ := h
  obtain rfl := Option.some.inj (gz0.symm.trans hg1)
  obtain rfl := Option.some.inj (tz0.symm.trans ht1)
  obtain ⟨xs, m1, rfl, hx1, hlen, hel⟩ := DataW.trod_struct Ybad.underlying38 hd1
  obtain ⟨hxl, hel⟩ := hel
  have h0 : DataW.trod (fun _ => ()) Ybad.prog W 0 (fun _ => true) false m1 36 ((cs1.toList.drop 0).take (Ybad.prog.cellsOf 36)) = xs[0]? := hel 0 _ rfl
  have c38 : Ybad.prog.cellsOf 38 = 1 := by kernel_rfl
  have c36 : Ybad.prog.cellsOf 36 = 1 := by kernel_rfl
  simp only [Prod.mk.injEq, Rows.laid_net_netip_z0, DataW.agg.injEq] at hx1
  rw [c38] at hlen
  obtain ⟨l1⟩ := cs1
  match l1, hlen, xs, hxl, hx1, h0 with
  | [v], _, [x], _, hx1, h0 =>
    simp only [c36, List.drop_zero, List.take_succ_cons, List.take_zero, List.getElem?_cons_zero] at h0
    simp at hx1
    have hv : v = .pointer none := by
      cases m1 with
      | zero => simp [DataW.trod] at h0
      | succ m2 =>
        unfold DataW.trod at h0
        rw [Ybad.underlying36] at h0
        split at h0 <;> simp_all
        obtain ⟨y, _, hy⟩ := Option.bind_eq_some_iff.1 h0
        obtain ⟨z, _, hz⟩ := Option.map_eq_some_iff.1 hy
        have h9 := hx1.1
        rw [← hz] at h9
        simp at h9
    have := World.var?_cell hg1 hv1 0
    rw [hv] at this
    simpa using this

/-- A slice of bytes that came in. -/
theorem open_bytes {H : Type} {enc : TypeId × Value → H} {W : World} {base : Nat} {v : Value} {d : DataW H} {p : List MemPlace} (hok : Value.okWide Ybad.prog W .any base 25 v) (h : DataW.Trod enc Ybad.prog W 0 (fun _ => true) true 25 v d p) :
    ∃ ao n c ys, v = .slice ao n c ∧ Bytes W ao n ys ∧ (∀ a, ao = some a → n ≠ 0 → a.block < W.heap.size) := by
  obtain ⟨a2, len2, cap2, rfl⟩ := okWide_slice Ybad.underlying25 hok
  obtain ⟨fuel, hf⟩ := h
  rcases open_ints Ybad.underlying25 Ybad.underlying5 (by kernel_rfl) hf with ⟨hcs, _⟩ | ⟨x, l, c, zs, hcs, _, hl, hm, hz, _, hcell, hwz⟩
  · simp [Value.cells] at hcs
    obtain ⟨rfl, rfl, rfl⟩ := hcs
    exact ⟨none, 0, 0, [], rfl, ⟨rfl, fun _ => rfl, fun a ha => by cases ha⟩, fun a ha => by cases ha⟩
  · simp [Value.cells] at hcs
    obtain ⟨rfl, rfl, rfl⟩ := hcs
    have hz' : zs.length = cap2 := by simpa using hz
    refine ⟨some x, len2, cap2, zs.take len2, rfl, ⟨by simp; omega, (fun e => by cases e), fun a ha j u hu => ?_⟩, fun a ha hn => ?_⟩
    · obtain rfl := Option.some.inj ha
      have hj : j < len2 := by
        have := (List.getElem?_eq_some_iff.1 hu).1
        rw [bs_length, List.length_take] at this; omega
      rw [hcell j (by omega), ← hu, bs_get, List.getElem?_take, if_pos hj, List.getElem?_eq_getElem (show j < zs.length by omega)]
      simp [List.getD, List.getElem?_eq_getElem (show j < zs.length by omega)]
    · obtain rfl := Option.some.inj ha
      have := World.block_lt_of_cell? _ _ (hcell 0 (by omega))
      simpa [Addr.add] using this
end Go.Proofs.YbulkgkwDoor
