/-
  The stamp of one event, entry by entry; and the log at the loop's start.
-/
import Derived.Test.YbulkglyStep
namespace Go.Proofs.Ybulkgly
open Go.RowKit Go.Maps
set_option linter.unusedVariables false

/-- The three names, and their keys. -/
def kb (l : Nat) : ByteArray := ⟨#[UInt8.ofNat (97 + l)]⟩
def kn (l : Nat) : Lit := .string [UInt8.ofNat (97 + l)]
theorem kb_key (l : Nat) : keyOf Yba.prog 9 (.string (kb l)) = some (kn l) := by
  rw [WideMaps.keyOf_string_mk Yba.underlying9 (show (kb l).size ≤ maxLen by unfold maxLen kb; simp [ByteArray.size])]
  rfl
theorem kn_key (l : Nat) : WideAt.IsKeyLit (kn l) := by simp [WideAt.IsKeyLit, kn]
theorem kn_inj : ∀ j, j < 3 → ∀ l, l < 3 → kn j = kn l → j = l := by
  intro j hj l hl h
  simp only [kn, Lit.string.injEq, List.cons.injEq, and_true] at h
  have h2 := congrArg UInt8.toNat h
  simp only [UInt8.toNat_ofNat'] at h2
  omega
theorem kb_cells (w : World) (B : Nat) (h : w.heap[B]? = some (.cells #[.string ⟨#[97]⟩, .string ⟨#[98]⟩, .string ⟨#[99]⟩] 23)) (j : Nat) (hj : j < 3) : w.cell? ⟨B, j, none⟩ = some (.string (kb j)) := by
  simp only [World.cell?, h]
  match j, hj with
  | 0, _ => rfl
  | 1, _ => rfl
  | 2, _ => rfl

theorem blk_kept {w w1 : World} {r : Option Nat} (h : w.grownBy w1 r) {b : Nat} {o : Obj} (hb : w.heap[b]? = some o) (hne : some b ≠ r) : w1.heap[b]? = some o :=
  (h.block b (Array.getElem?_eq_some_iff.1 hb).1 hne).trans hb
theorem blk_cell {w : World} {b : Nat} {cs : Array Value} {t : TypeId} {m : Nat × Nat} (h : w.heap[b]? = some (.cells cs t m)) (j : Nat) : w.cell? ⟨b, j, none⟩ = cs[j]? := by simp [World.cell?, h]
theorem mem_insert {H : Type} {x q : Lit × DataW H} : ∀ {l : List (Lit × DataW H)}, q ∈ DataW.insert x l → q = x ∨ q ∈ l
  | [], h => by simp [DataW.insert] at h; exact .inl h
  | p :: l, h => by
    unfold DataW.insert at h
    split at h
    · simpa using h
    · rcases List.mem_cons.1 h with h | h
      · exact .inr (by simp [h])
      · rcases mem_insert h with h | h
        · exact .inl h
        · exact .inr (by simp [h])
theorem Bnd.put {f : Lit × DataW Value → Int} {lo hi : Int} {D : DataW Value} (h : Bnd f lo hi D) (hD : Good D) {kl : Lit} {d : DataW Value} (hd : lo ≤ f (kl, d) ∧ f (kl, d) ≤ hi) : Bnd f lo hi (D.put kl d) := by
  obtain ⟨es, rfl, _, _⟩ := hD
  intro es' e p hp
  have e1 : DataW.map (DataW.insert (kl, d) (es.filter fun p => !p.1.sameKey kl)) = DataW.map es' := e
  simp only [DataW.map.injEq] at e1
  rw [← e1] at hp
  rcases mem_insert hp with rfl | hp
  · exact hd
  · exact h es rfl p (List.mem_filter.1 hp).1

/-- The stamp behind j of the three names: its entries add up to s. -/
def InS (w : World) (sb j : Nat) (s : Int) : Prop := ∃ n D, w.ownsMap Yba.prog 9 u64R sb n D ∧ n ≤ j ∧ Bnd num 0 65535 D ∧ tot num D = s ∧ ∀ l, j ≤ l → l < 3 → has D (kn l) = false
theorem InS.skip {w : World} {sb j : Nat} {s : Int} (h : InS w sb j s) : InS w sb (j + 1) s := by
  obtain ⟨n, D, h1, h2, h3, h4, h5⟩ := h
  exact ⟨n, D, h1, by omega, h3, h4, fun l hl => h5 l (by omega)⟩
theorem InS.kept {w w' : World} {sb j : Nat} {s : Int} (h : InS w sb j s) (hb : Below w.heap.size w w') : InS w' sb j s := by
  obtain ⟨n, D, h1, h2⟩ := h
  exact ⟨n, D, h1.kept (below_grownBy hb) (by simp), h2⟩
theorem InS.lt {w : World} {sb j : Nat} {s : Int} (h : InS w sb j s) : sb < w.heap.size := by
  obtain ⟨n, D, h1, h2⟩ := h
  exact h1.lt
theorem InS.put {w : World} {sb j : Nat} {s a : Int} (h : InS w sb j s) (hj : j < 3) (ha : 0 ≤ a ∧ a ≤ 65535) : ∃ w', (Instr.mapUpdate 33 (.map (some sb)) (.string (kb j)) (.int .u64 a)).run Yba.prog w = .ok () w' ∧ InS w' sb (j + 1) (s + a) ∧ w.grownBy w' (some sb) := by
  obtain ⟨n, D, h1, h2, h3, h4, h5⟩ := h
  have hG := Good.of_owns h1 law9
  obtain ⟨w', hr, ho, hg⟩ := h1.update (e := 35) law9 Yba.underlying33 (by unfold maxLen; omega) (kb_key j) (show u64R (.int .u64 a) = some (.held (.int .u64 a), []) from rfl)
  refine ⟨w', hr, ⟨n + 1, _, ho, by omega, h3.put hG (by rw [num_held]; exact ha), ?_, fun l hl hl3 => ?_⟩, hg⟩
  · rw [tot_put _ hG, num_held, ← tot_rest_none _ hG (h5 j (Nat.le_refl _) hj), h4]
    omega
  · rw [has_put_other (fun e => by have := kn_inj l hl3 j hj e; omega)]
    exact h5 l (by omega) hl3
theorem InS.made (w : World) : InS (w.alloc (.map #[] 0)) w.heap.size 0 0 := ⟨0, _, World.ownsMap_made w Yba.prog 9 u64R, Nat.le_refl _, (fun es e p hp => by cases e; cases hp), rfl, fun _ _ _ => rfl⟩
theorem InS.stamp {w : World} {mb sb : Nat} {s : Int} (h : InS w sb 3 s) (hb : mb < sb) : Stamp w mb sb (s - 1) := by
  obtain ⟨n, D, h1, h2, h3, h4, h5⟩ := h
  exact ⟨hb, n, D, h1, by omega, h3, by rw [h4]⟩

theorem SInv.start (w : World) : SInv w ((((w.alloc (.cells #[.string ⟨#[97]⟩, .string ⟨#[98]⟩, .string ⟨#[99]⟩] 23)).alloc (.cells #[.string ⟨#[97]⟩, .string ⟨#[98]⟩, .string ⟨#[99]⟩] 9)).alloc (.map #[] 0)).alloc (.cells #[.slice (some ⟨w.heap.size + 1, 0, none⟩) 3 3, .map (some (w.heap.size + 2))] 28))
    w.heap.size 0 (.slice (some ⟨w.heap.size + 1, 0, none⟩) 3 3) (.map []) (fun _ => []) := by
  refine ⟨?_, ?_, ?_, ?_, (fun kl h => by cases h), (fun _ _ => rfl), (fun kl _ _ _ _ h => by have := has_true_of_atKey h; cases this), rfl, (fun _ => Nat.zero_le _), (fun _ _ h => by cases h)⟩
  · exact ((((Below.refl _ _).alloc (Nat.le_refl _) _).alloc (by simp) _).alloc (by simp; omega) _).alloc (by simp; omega) _
  · exact blk_kept (World.grownBy_alloc _ _ none) (blk_kept (World.grownBy_alloc _ _ none) (blk_kept (World.grownBy_alloc _ _ none) (heap_alloc_new w _) (by simp)) (by simp)) (by simp)
  · have := heap_alloc_new (((w.alloc (.cells #[.string ⟨#[97]⟩, .string ⟨#[98]⟩, .string ⟨#[99]⟩] 23)).alloc (.cells #[.string ⟨#[97]⟩, .string ⟨#[98]⟩, .string ⟨#[99]⟩] 9)).alloc (.map #[] 0)) (.cells #[.slice (some ⟨w.heap.size + 1, 0, none⟩) 3 3, .map (some (w.heap.size + 2))] 28)
    simp only [World.size_alloc] at this
    exact this
  · have := World.ownsMap_made ((w.alloc (.cells #[.string ⟨#[97]⟩, .string ⟨#[98]⟩, .string ⟨#[99]⟩] 23)).alloc (.cells #[.string ⟨#[97]⟩, .string ⟨#[98]⟩, .string ⟨#[99]⟩] 9)) Yba.prog 9 sliceR
    simp only [World.size_alloc] at this
    exact this.alloc _
end Go.Proofs.Ybulkgly
