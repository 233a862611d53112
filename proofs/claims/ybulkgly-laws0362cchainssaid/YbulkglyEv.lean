import Derived.Test.YbulkglyMap
namespace Go.Proofs.Ybulkgly
open Go.RowKit Go.Maps
set_option linter.unusedVariables false

theorem law9 : Keyed Yba.prog 9 := string_keyed Yba.underlying9

/-- How the elements of a stamp, and of the events' map, are told: as the values that they are. -/
def u64R : Value → Option (DataW Value × List MemPlace)
  | .int .u64 v => some (.held (.int .u64 v), [])
  | _ => none
def sliceR : Value → Option (DataW Value × List MemPlace)
  | .slice a n c => some (.held (.slice a n c), [])
  | _ => none
theorem u64R_inv {v : Value} {y : DataW Value × List MemPlace} (h : u64R v = some y) : ∃ c, v = .int .u64 c := by
  unfold u64R at h
  split at h
  · exact ⟨_, rfl⟩
  · cases h
theorem sliceR_inv {v : Value} {y : DataW Value × List MemPlace} (h : sliceR v = some y) : ∃ c : Option Addr × Nat × Nat, v = .slice c.1 c.2.1 c.2.2 := by
  unfold sliceR at h
  split at h
  · exact ⟨(_, _, _), rfl⟩
  · cases h
theorem key9_inv {key : Value} {kl : Lit} (h : keyOf Yba.prog 9 key = some kl) : ∃ s, key = .string s := by
  rw [keyOf_string Yba.underlying9] at h
  unfold mapKey at h
  rw [Yba.underlying9] at h
  split at h <;> simp_all

/-- The number that an entry of a stamp holds. -/
def num (p : Lit × DataW Value) : Int := match p.2 with | .held (.int .u64 v) => v | _ => 0
theorem num_held (kl : Lit) (v : Int) : num (kl, .held (.int .u64 v)) = v := rfl

/-- f lies in lo .. hi at every entry. -/
def Bnd (f : Lit × DataW Value → Int) (lo hi : Int) (D : DataW Value) : Prop := ∀ es, D = .map es → ∀ p ∈ es, lo ≤ f p ∧ f p ≤ hi
theorem part_bounds {f : Lit × DataW Value → Int} {lo hi : Int} {D : DataW Value} (hD : Good D) (h : Bnd f lo hi D) (left : Lit → Bool) (hlo : lo ≤ 0) (hhi : 0 ≤ hi) : lo * (Maps.size D : Nat) ≤ part f left D ∧ part f left D ≤ hi * (Maps.size D : Nat) := by
  obtain ⟨es, rfl, _, _⟩ := hD
  exact totL_bounds es (fun p hp => by
    have := h es rfl p hp
    split <;> omega)
theorem tot_bounds {f : Lit × DataW Value → Int} {lo hi : Int} {D : DataW Value} (hD : Good D) (h : Bnd f lo hi D) : lo * (Maps.size D : Nat) ≤ tot f D ∧ tot f D ≤ hi * (Maps.size D : Nat) := by
  obtain ⟨es, rfl, _, _⟩ := hD
  exact totL_bounds es (h es rfl)

set_option maxRecDepth 100000 in
set_option maxHeartbeats 400000 in
theorem evb_any (pr tx fi : ByteArray) (c li la rw_ co : Int) (tb : Option Addr) (sb n : Nat) (D : DataW Value) (w : World) (ho : w.ownsMap Yba.prog 9 u64R sb n D) (hn : n ≤ 10) (hb : Bnd num 0 65535 D) :
    Calls Yba.prog 7 #[.agg #[.string pr, .int .u64 c, .map (some sb), .string tx, .string fi, .int .i64 li, .int .u64 la, .pointer tb, .int .u32 rw_, .int .u32 co]] w fun e w' => e = .returned (.int .i64 (tot num D - 1)) ∧ Below w.heap.size w w' := by
  have hG := Good.of_owns ho law9
  have hsz := ho.size_le
  have hlt := ho.lt
  go_enter Yba.func7, Yba.ntmps7
  go_wp2_with (first
    | (at_range; refine wpList_range_own _ rfl _ 33 rfl 9 35 law9 Yba.underlying33 _ sb n _ rfl (ho.alloc _) ?_; intro w0 hrg0 hg0 hs0)
    | go_in)
  go_frame
  simp only [World.size_alloc] at hrg0 hs0 ⊢
  have hb0 : Below w.heap.size w w0 := ((Below.refl _ _).alloc (Nat.le_refl _) _).grown hg0 (by simp) (by simp)
  clear hg0
  go_loopw [3] (fun v wr => ∃ (left : Lit → Bool) (cnt : Nat), v = .int .i64 (part num left D) ∧ wr.ranges Yba.prog 9 u64R sb (w.heap.size + 1) n D left cnt ∧ Below w.heap.size w wr)
    (fun _ wr => wr.rangeLeft sb (w.heap.size + 1))
  case atStart => exact ⟨_, _, by rw [part_start num hG], hrg0, hb0⟩
  case round =>
    obtain ⟨left, cnt, rfl, hrg, hbl⟩ := hrel
    have hpb := part_bounds hG hb left (by omega) (by omega)
    go_wp2_with (first
      | (at_next; refine wpList_next_ranges _ rfl _ rfl 9 law9 u64R Value.string (Value.int .u64) (fun _ _ h => key9_inv h) (fun _ _ h => u64R_inv h) sb (w.heap.size + 1) n _ _ _ rfl hrg ?_ ?_)
      | go_in)
    · intro _ hl0
      rw [part_end num hl0] at hpb ⊢
      go_wp2
      go_ret
      exact ⟨rfl, hbl⟩
    · intro x v kl yd yp w1 cnt1 hkx hlx hRv hat hrg1 hlt1 hg1 hs1 hen
      have hRv2 : ((DataW.held (Value.int .u64 v), []) : DataW Value × List MemPlace) = (yd, yp) := Option.some.inj hRv
      obtain ⟨rfl, rfl⟩ := Prod.mk.inj hRv2
      clear hRv hRv2
      have hst := part_step num hG hlx hat
      rw [num_held] at hst
      have hpb1 := part_bounds hG hb (fun z => left z && !z.sameKey kl) (by omega) (by omega)
      rw [hst] at hpb1
      have hbl1 := hbl.grown hg1 hbl.size (fun k hk => by cases hk; omega)
      have hv0 : 0 ≤ v ∧ v ≤ 65535 := by
        obtain ⟨es, rfl, _, _⟩ := hG
        obtain ⟨p, hf, e1, e2⟩ := find_of_atKey hat
        have := hb es rfl p (List.mem_of_find?_eq_some hf)
        obtain rfl : p = (kl, DataW.held (Value.int .u64 v)) := by rw [← e1, ← e2]
        exact this
      have HST : Hid _ := hst
      clear hst
      have hsz3 : (Maps.size D : Int) ≤ 10 := by omega
      generalize (Maps.size D : Int) = sz at *
      go_wp2
      go_roundw
      case rel => exact ⟨_, cnt1, by rw [HST.out], hrg1, hbl1⟩
      case measure => rw [hrg1.left_eq, hrg.left_eq]; exact hlt1
end Go.Proofs.Ybulkgly
