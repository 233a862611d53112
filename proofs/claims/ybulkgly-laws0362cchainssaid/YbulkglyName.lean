/-
  'zzs0362cname': the letter p and the number's decimal digits.
-/
import Derived.Test.YbulkglyIn
import Derived.Maps.AppendAt
import Derived.Laws.BytesString
namespace Go.Proofs.Ybulkgly
open Go.RowKit Go.Maps
set_option linter.unusedVariables false

/-- What the digits say. -/
def dec : List Nat → Nat
  | [] => 0
  | d :: ds => (d - 48) * 10 ^ ds.length + dec ds
theorem dec_step (m : Nat) (ds : List Nat) : (m / 10) * 10 ^ ((48 + m % 10) :: ds).length + dec ((48 + m % 10) :: ds) = m * 10 ^ ds.length + dec ds := by
  have h : m = m / 10 * 10 + m % 10 := by omega
  simp only [List.length_cons, dec, Nat.add_sub_cancel_left, Nat.pow_succ]
  rw [← Nat.add_assoc]
  congr 1
  conv => rhs; rw [h]
  rw [Nat.add_mul, Nat.mul_assoc (m / 10) 10, Nat.mul_comm 10]

def chars (ds : List Nat) : List Value := ds.map (fun d : Nat => Value.int .u8 (d : Int))
def text (ds : List Nat) : ByteArray := ⟨((112 : UInt8) :: ds.map UInt8.ofNat).toArray⟩

theorem Yba.info5 : (Yba.prog.info? 5).map (fun i => (i.zero, i.size, i.bytes)) = some (some (.int .u8 0), 1, 1) := by kernel_rfl

theorem text_eq (ds : List Nat) : (⟨#[112]⟩ ++ ⟨(ds.map UInt8.ofNat).toArray⟩ : ByteArray) = text ds := by
  apply ByteArray.ext
  rw [ByteArray.data_append]
  simp [text]
theorem chars_one (ds : List Nat) : ∀ u ∈ chars ds, u.oneCell' = true := fun u hu => by
  simp only [chars, List.mem_map] at hu
  obtain ⟨d, _, rfl⟩ := hu
  rfl
theorem chars_cells {w : World} {base g cap : Nat} {ds : List Nat} {o : Obj} (h : w.ownsRow base 5 1 (.slice (some ⟨g, 0, none⟩) ds.length cap) ds.length (chars ds)) : ∀ j u, (chars ds)[j]? = some u → (w.alloc o).cell? ((⟨g, 0, none⟩ : Addr).add j) = some u := fun j u hu => by
  have hj : j < ds.length := by have := (List.getElem?_eq_some_iff.1 hu).1; simpa [chars] using this
  have h2 := (h.alloc o).cellAt j (by omega)
  rw [hu] at h2
  rw [Addr.add_lit, Nat.zero_add]
  exact h2
theorem fold_push : ∀ (ns : List Int) (s : ByteArray), ns.foldl (fun r n => r.push (UInt8.ofNat n.toNat)) s = ⟨s.data ++ (ns.map (fun n => UInt8.ofNat n.toNat)).toArray⟩
  | [], s => by simp
  | n :: ns, s => by
    rw [List.foldl_cons, fold_push ns]
    simp [ByteArray.push]
theorem chars_string {w : World} {base g cap : Nat} {ds : List Nat} (h : w.ownsRow base 5 1 (.slice (some ⟨g, 0, none⟩) ds.length cap) ds.length (chars ds)) : (convert 45 9 (.slice (some ⟨g, 0, none⟩) ds.length cap)).run Yba.prog w = .ok (.string ⟨(ds.map UInt8.ofNat).toArray⟩) w := by
  rw [run_convert_bytes_string w 45 9 5 _ _ _ Yba.underlying45 Yba.underlying5 Yba.underlying9]
  have hl : (loadCells ⟨g, 0, none⟩ ds.length).run Yba.prog w = .ok ((ds.map (fun d : Nat => (d : Int))).map (Value.int .u8)).toArray w := by
    have := run_loadCells_list (P := Yba.prog) (w := w) ⟨g, 0, none⟩ (chars ds) (fun j u hu => by
      have hj : j < ds.length := by have := (List.getElem?_eq_some_iff.1 hu).1; simpa [chars] using this
      have h2 := h.cellAt j (by omega)
      rw [hu] at h2
      rw [Addr.add_lit, Nat.zero_add]
      exact h2)
    simpa [chars, Function.comp_def] using this
  rw [run_bytesToString w _ _ _ _ hl, fold_push]
  simp [Function.comp_def]

set_option maxRecDepth 100000 in
set_option maxHeartbeats 1000000 in
theorem name_any (n : Nat) (hn : n ≤ 1000000) (w : World) :
    Calls Yba.prog 6 #[.int .i64 (n : Int)] w fun e w' => (∃ ds, e = .returned (.string (text ds)) ∧ dec ds = n ∧ ds.length ≤ 1000000 ∧ ∀ d ∈ ds, 48 ≤ d ∧ d ≤ 57) ∧ Below w.heap.size w w' := by
  by_cases h0 : (n : Int) ≤ 0
  · go_enter Yba.func6, Yba.ntmps6
    go_wp2_with fail
    go_ret
    exact ⟨⟨[48], rfl, by simp [dec]; omega, by simp, by simp⟩, Below.refl _ _⟩
  · obtain ⟨i0, hi0, hz0, hz1, hz2⟩ := info_parts Yba.info5
    go_enter Yba.func6, Yba.ntmps6
    go_wp2_with fail
    go_loopw [0, 3] (fun u v wr => ∃ (m : Nat) (ds : List Nat) (g cap : Nat), u = .int .i64 m ∧ v = .slice (some ⟨g, 0, none⟩) ds.length cap ∧ wr.ownsRow w.heap.size 5 1 v ds.length (chars ds) ∧ Below w.heap.size w wr ∧ m * 10 ^ ds.length + dec ds = n ∧ (∀ d ∈ ds, 48 ≤ d ∧ d ≤ 57) ∧ ds.length + m ≤ n) (fun u _ _ => (intOf u).toNat)
    case atStart =>
      exact ⟨n, [], w.heap.size, 0, rfl, rfl, World.ownsRow_lit w #[] 0 (Nat.le_refl _) (Nat.zero_le _) rfl, (Below.refl _ _).alloc (Nat.le_refl _) _, by simp [dec], by simp, by simp⟩
    case round =>
      obtain ⟨m, ds, g, cap, rfl, rfl, hown, hb, hdec, hdig, hlen⟩ := hrel
      have HO : Hid _ := hown
      have HB : Hid _ := hb
      have HD : Hid _ := hdec
      have HG : Hid _ := hdig
      clear hown hb hdec hdig
      have hsz := HB.out.size
      by_cases hm : (0 : Int) < m
      · have ht : Int.tmod (m : Int) 10 = ((m % 10 : Nat) : Int) := by rw [Int.tmod_eq_emod_of_nonneg (by omega)]; omega
        have hq : Int.tdiv (m : Int) 10 = ((m / 10 : Nat) : Int) := by rw [Int.tdiv_eq_ediv_of_nonneg (by omega)]; omega
        have hst := dec_step m ds
        have HS : Hid _ := hst
        clear hst
        have hr : m % 10 < 10 := by omega
        have hqm : m / 10 < m := by omega
        generalize m % 10 = r at *
        generalize m / 10 = t at *
        go_wp2_with (first
          | (at_builtin; refine wpList_append_own_at _ rfl _ _ 45 rfl w.heap.size 5 i0 _ 1 1 Yba.underlying45 hi0 hz0 hz1 hz2 rfl (by decide) (.slice (some ⟨wr.heap.size, 0, none⟩) 1 1) 1 [.int .u8 (48 + (r : Int))] rfl (World.ownsRow_lit wr #[.int .u8 (48 + (r : Int))] 1 hsz (by unfold maxLen; omega) rfl) ⟨g, 0, none⟩ ds.length cap (chars ds) rfl (by simp [chars]) (chars_cells HO.out) (chars_one ds) (by unfold maxLen; omega) (by omega) (by simp; omega) ?_; intro v' w3 hown3 hgrow3 hnil3 hat3)
          | go_in)
        obtain ⟨g', cap', rfl, _, _⟩ := hown3.form (by omega)
        refine ⟨⟨t, (48 + r) :: ds, g', cap', rfl, by rw [List.length_cons, Nat.add_comm], ?_, (HB.out.alloc hsz _).grown hgrow3 (by simp; omega) (fun k hk => by cases hk; exact hsz), HS.out.trans HD.out, fun d hd => ?_, by simp; omega⟩, by simp [intOf]; omega⟩
        · have e : ((48 + r) :: ds).length = 1 + ds.length := by simp; omega
          rw [e]
          have e2 : chars ((48 + r) :: ds) = [.int .u8 (48 + (r : Int))] ++ chars ds := by simp [chars]
          rw [e2]
          exact hown3
        · rcases List.mem_cons.1 hd with rfl | hd
          · omega
          · exact HG.out d hd
      · have hm0 : m = 0 := by omega
        have hcv := chars_string HO.out
        go_wp2_with fail
        go_ret
        refine ⟨⟨ds, ?_, ?_, by omega, HG.out⟩, HB.out⟩
        · rw [← text_eq]
          rfl
        · have := HD.out
          rw [hm0] at this
          omega
end Go.Proofs.Ybulkgly
