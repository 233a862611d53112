/-
  The log as LawS0362CChains builds it: the invariant of its loop, and what one process more makes of it.
-/
import Derived.Test.YbulkglyName
import Derived.Deep.MidRow
namespace Go.Proofs.Ybulkgly
open Go.RowKit Go.Maps
set_option linter.unusedVariables false

/-- Blocks of events, and every map but the log's, stay. -/
def Keep (B : Nat) (w w' : World) : Prop := ∀ b, ((∃ cur, w.heap[b]? = some (.cells cur 41)) ∨ (b ≠ B ∧ ∃ es c, w.heap[b]? = some (.map es c))) → w'.heap[b]? = w.heap[b]?
theorem Keep.refl (B : Nat) (w : World) : Keep B w w := fun _ _ => rfl
theorem Keep.trans {B : Nat} {w w1 w2 : World} (h : Keep B w w1) (k : Keep B w1 w2) : Keep B w w2 := fun b hb => by
  have e := h b hb
  refine (k b ?_).trans e
  rw [e]
  exact hb
theorem Keep.of_grown {B : Nat} {w w' : World} {r : Option Nat} (h : w.grownBy w' r) (hr : ∀ k, r = some k → (k = B ∧ ∃ es c, w.heap[B]? = some (.map es c)) ∨ ∃ cur t fr, w.heap[k]? = some (.cells cur t fr) ∧ t ≠ 41) : Keep B w w' := fun b hb => by
  have hlt : b < w.heap.size := by
    rcases hb with ⟨_, e⟩ | ⟨_, _, _, e⟩ <;> exact (Array.getElem?_eq_some_iff.1 e).1
  refine h.block b hlt (fun e => ?_)
  rcases hr b e.symm with ⟨rfl, es, c, h1⟩ | ⟨cur, t, fr, h1, h2⟩
  · rcases hb with ⟨_, e2⟩ | ⟨hne, _⟩
    · rw [h1] at e2; cases e2
    · exact hne rfl
  · rcases hb with ⟨_, e2⟩ | ⟨hne, _, _, e2⟩
    · rw [h1] at e2; simp at e2; exact h2 e2.2.1
    · rw [h1] at e2; cases e2
theorem Keep.of_below {B : Nat} {w w' : World} (h : Below w.heap.size w w') : Keep B w w' := Keep.of_grown (below_grownBy h) (fun k hk => by cases hk)

/-- One event, its stamp in a map of its own. -/
def EvB (w : World) (B b o : Nat) (t : Int) : Prop := ∃ (pr : ByteArray) (c : Int) (sb n : Nat) (D : DataW Value), w.rangeAt b o (evCells pr c sb) ∧ sb ≠ B ∧ w.ownsMap Yba.prog 9 u64R sb n D ∧ n ≤ 10 ∧ Bnd num 0 65535 D ∧ t = tot num D - 1
theorem EvB.ev {w : World} {B b o : Nat} {t : Int} (h : EvB w B b o t) : EvAt w b o t := by
  obtain ⟨pr, c, sb, n, D, h1, _, h2⟩ := h
  exact ⟨pr, c, sb, n, D, h1, h2⟩
theorem Keep.map {B : Nat} {w w' : World} (k : Keep B w w') {sb n : Nat} {D : DataW Value} (hne : sb ≠ B) (h : w.ownsMap Yba.prog 9 u64R sb n D) : w'.ownsMap Yba.prog 9 u64R sb n D := by
  obtain ⟨es, clock, e, rest⟩ := h
  exact ⟨es, clock, (k sb (.inr ⟨hne, es, clock, e⟩)).trans e, rest⟩
theorem EvB.keep {w w' : World} {B b o : Nat} {t : Int} (h : EvB w B b o t) (hb : ∃ cur, w.heap[b]? = some (.cells cur 41)) (k : Keep B w w') : EvB w' B b o t := by
  obtain ⟨pr, c, sb, n, D, h1, h2, h3, h4⟩ := h
  refine ⟨pr, c, sb, n, D, fun j v hv => ?_, h2, k.map h2 h3, h4⟩
  rw [World.cell?_of_block (w := w) (a := ⟨b, o + j, none⟩) (k b (.inl hb))]
  exact h1 j v hv

def key (ds : List Nat) : Lit := .string ((112 : UInt8) :: ds.map UInt8.ofNat)
theorem key_of (ds : List Nat) (h : ds.length ≤ 1000000) : keyOf Yba.prog 9 (.string (text ds)) = some (key ds) := by
  rw [WideMaps.keyOf_string_mk Yba.underlying9 (show (text ds).size ≤ maxLen by unfold maxLen text; simp [ByteArray.size]; omega)]
  simp [text, key]
theorem key_key (ds : List Nat) : WideAt.IsKeyLit (key ds) := by simp [WideAt.IsKeyLit, key]
theorem map_inj : ∀ (ds es : List Nat), (∀ d ∈ ds, 48 ≤ d ∧ d ≤ 57) → (∀ d ∈ es, 48 ≤ d ∧ d ≤ 57) → ds.map UInt8.ofNat = es.map UInt8.ofNat → ds = es
  | [], [], _, _, _ => rfl
  | [], _ :: _, _, _, h => by simp at h
  | _ :: _, [], _, _, h => by simp at h
  | d :: ds, e :: es, h1, h2, h => by
    simp only [List.map_cons, List.cons.injEq] at h
    have h3 := congrArg UInt8.toNat h.1
    simp only [UInt8.toNat_ofNat'] at h3
    have h4 := h1 d (by simp)
    have h5 := h2 e (by simp)
    rw [show d = e by omega, map_inj ds es (fun x hx => h1 x (by simp [hx])) (fun x hx => h2 x (by simp [hx])) h.2]
theorem key_inj {ds es : List Nat} (h1 : ∀ d ∈ ds, 48 ≤ d ∧ d ≤ 57) (h2 : ∀ d ∈ es, 48 ≤ d ∧ d ≤ 57) (h : key ds = key es) : ds = es := by
  simp only [key, Lit.string.injEq, List.cons.injEq, true_and] at h
  exact map_inj ds es h1 h2 h

def upTo : Nat → List Int
  | 0 => []
  | k + 1 => upTo k ++ [(k : Int)]
theorem upTo_length : ∀ k, (upTo k).length = k
  | 0 => rfl
  | k + 1 => by simp [upTo, upTo_length k]
theorem upTo_get : ∀ (k l : Nat) (t : Int), (upTo k)[l]? = some t → l < k ∧ t = l
  | 0, l, t, h => by simp [upTo] at h
  | k + 1, l, t, h => by
    unfold upTo at h
    rw [List.getElem?_append] at h
    split at h
    · have := upTo_get k l t h; omega
    · rw [upTo_length] at *
      have : l - k = 0 := by
        cases hh : l - k with
        | zero => rfl
        | succ m => rw [hh] at h; simp at h
      rw [this] at h
      simp at h
      omega
theorem upTo_sum : ∀ k : Nat, 2 * sumL (upTo k) = (k : Int) * ((k : Int) - 1)
  | 0 => by simp [upTo, sumL]
  | k + 1 => by
    have h1 := upTo_sum k
    simp only [upTo, sumL_append, sumL]
    have h2 : ((k + 1 : Nat) : Int) * (((k + 1 : Nat) : Int) - 1) = (k : Int) * ((k : Int) - 1) + 2 * k := by
      rw [show ((k + 1 : Nat) : Int) = (k : Int) + 1 by omega, show (k : Int) + 1 - 1 = k by omega, Int.add_mul, Int.mul_sub]
      omega
    omega
theorem upTo_half (k : Nat) : sumL (upTo k) = (k : Int) * ((k : Int) - 1) / 2 := by
  have := upTo_sum k
  omega

/-- The invariant. -/
structure CInv (w0 wr : World) (B i : Nat) (pv : Value) (D : DataW Value) (T : Lit → List Int) : Prop where
  below : Below B w0 wr
  log : wr.heap[B + 1]? = some (.cells #[pv, .map (some B)] 28)
  proc : ∃ xs, wr.ownsRow (B + 2) 9 1 pv i xs
  own : wr.ownsMap Yba.prog 9 sliceR B i D
  grp : ∀ kl, has D kl = true → ∃ g, (∀ z, D.atKey kl z = .held (.slice (some ⟨g, 0, none⟩) (T kl).length (T kl).length)) ∧ (∃ cur, wr.heap[g]? = some (.cells cur 41)) ∧ ∀ l t, (T kl)[l]? = some t → EvB wr B g (l * 10) t
  keys : ∀ kl, has D kl = true → ∃ ds, kl = key ds ∧ dec ds < i ∧ ∀ d ∈ ds, 48 ≤ d ∧ d ≤ 57
  max : ∀ kl, (T kl).length ≤ 255
  bnd : ∀ kl t, t ∈ T kl → 0 ≤ t ∧ t ≤ 254

theorem CInv.evs {w0 wr : World} {B i : Nat} {pv : Value} {D : DataW Value} {T : Lit → List Int} (h : CInv w0 wr B i pv D T) (hi : i ≤ 256) : Evs wr B i D T :=
  ⟨h.own, fun kl hk => by
    obtain ⟨g, h1, ⟨cur, h2⟩, h3⟩ := h.grp kl hk
    exact ⟨_, _, h1, rfl, fun l t ht => ⟨g, rfl, (Array.getElem?_eq_some_iff.1 h2).1, (h3 l t ht).ev⟩⟩, fun kl => Nat.le_trans (h.max kl) (by omega), by omega⟩

def put (T : Lit → List Int) (kl : Lit) (ts : List Int) (k : Lit) : List Int := if k.sameKey kl then ts else T k
theorem put_same {T : Lit → List Int} {kl : Lit} {ts : List Int} (hk : WideAt.IsKeyLit kl) : put T kl ts kl = ts := by simp [put, WideAt.sameKey_self hk]
theorem put_other {T : Lit → List Int} {kl k : Lit} {ts : List Int} (h : k ≠ kl) : put T kl ts k = T k := by simp [put, sameKey_ne h]
theorem tot_new (g : List Int → Int) {D : DataW Value} (hD : Good D) {T : Lit → List Int} {kl : Lit} {ts : List Int} (hk : WideAt.IsKeyLit kl) (hn : has D kl = false) (v' : Value) :
    tot (fun p => g (put T kl ts p.1)) (D.put kl (.held v')) = tot (fun p => g (T p.1)) D + g ts := by
  rw [tot_put _ hD, put_same hk, tot_rest_none _ hD hn]
  have hr : rest (fun p : Lit × DataW Value => g (put T kl ts p.1)) kl D = rest (fun p => g (T p.1)) kl D := rest_congr kl D (fun p hp => by simp [put, hp])
  rw [hr]
  omega

theorem CInv.fresh {w0 wr : World} {B i : Nat} {pv : Value} {D : DataW Value} {T : Lit → List Int} (h : CInv w0 wr B i pv D T) {ds : List Nat} (hd : dec ds = i) (hg : ∀ d ∈ ds, 48 ≤ d ∧ d ≤ 57) : has D (key ds) = false := by
  cases hh : has D (key ds) with
  | false => rfl
  | true =>
    obtain ⟨es, h1, h2, h3⟩ := h.keys _ hh
    have := key_inj hg h3 h1
    subst this
    omega

/-- ONE PROCESS MORE. -/
theorem CInv.next {w0 wr w6 : World} {B i k g : Nat} {pv pv' : Value} {D : DataW Value} {T : Lit → List Int} (h : CInv w0 wr B i pv D T) (keep : Keep B wr w6) (below : Below B w0 w6) (log : w6.heap[B + 1]? = some (.cells #[pv', .map (some B)] 28)) {xs : List Value} (proc : w6.ownsRow (B + 2) 9 1 pv' (i + 1) xs)
    {ds : List Nat} (hd : dec ds = i) (hg : ∀ d ∈ ds, 48 ≤ d ∧ d ≤ 57) (own : w6.ownsMap Yba.prog 9 sliceR B (i + 1) (D.put (key ds) (.held (.slice (some ⟨g, 0, none⟩) k k)))) (hk : k ≤ 255) {cur : Array Value} (hb : w6.heap[g]? = some (.cells cur 41)) (hev : ∀ l : Nat, l < k → EvB w6 B g (l * 10) l) :
    CInv w0 w6 B (i + 1) pv' (D.put (key ds) (.held (.slice (some ⟨g, 0, none⟩) k k))) (put T (key ds) (upTo k)) ∧
    tot (val_ (put T (key ds) (upTo k))) (D.put (key ds) (.held (.slice (some ⟨g, 0, none⟩) k k))) = tot (val_ T) D + (k : Int) * ((k : Int) - 1) / 2 ∧
    tot (cnt_ (put T (key ds) (upTo k))) (D.put (key ds) (.held (.slice (some ⟨g, 0, none⟩) k k))) = tot (cnt_ T) D + k := by
  have hkl := key_key ds
  have hIM : IsMap D := h.own.isMap
  have hG := Good.of_owns h.own law9
  have hn := h.fresh hd hg
  refine ⟨⟨below, log, ⟨xs, proc⟩, own, fun kl hk' => ?_, fun kl hk' => ?_, fun kl => ?_, fun kl t ht => ?_⟩, ?_, ?_⟩
  · by_cases e : kl = key ds
    · subst e
      rw [put_same hkl, upTo_length]
      refine ⟨g, fun z => atKey_put_same hIM hkl _ _, ⟨cur, hb⟩, fun l t ht => ?_⟩
      obtain ⟨h1, rfl⟩ := upTo_get k l t ht
      exact hev l h1
    · rw [has_put_other e] at hk'
      obtain ⟨g', h1, h2, h3⟩ := h.grp kl hk'
      rw [put_other e]
      refine ⟨g', fun z => by rw [atKey_put_other e]; exact h1 z, ?_, fun l t ht => (h3 l t ht).keep h2 keep⟩
      obtain ⟨c', h4⟩ := h2
      exact ⟨c', (keep g' (.inl ⟨c', h4⟩)).trans h4⟩
  · by_cases e : kl = key ds
    · exact ⟨ds, e, by omega, hg⟩
    · rw [has_put_other e] at hk'
      obtain ⟨es, h1, h2, h3⟩ := h.keys kl hk'
      exact ⟨es, h1, by omega, h3⟩
  · unfold put
    split
    · rw [upTo_length]; exact hk
    · exact h.max kl
  · unfold put at ht
    split at ht
    · obtain ⟨l, hl⟩ := List.getElem?_of_mem ht
      have := upTo_get k l t hl
      omega
    · exact h.bnd kl t ht
  · have := tot_new sumL hG (T := T) (kl := key ds) (ts := upTo k) hkl hn (.slice (some ⟨g, 0, none⟩) k k)
    rw [← upTo_half]
    exact this
  · have := tot_new (fun l => (l.length : Int)) hG (T := T) (kl := key ds) (ts := upTo k) hkl hn (.slice (some ⟨g, 0, none⟩) k k)
    rw [upTo_length] at this
    exact this

theorem CInv.start (w : World) : CInv w ((w.alloc (.map #[] 0)).alloc (.cells #[.slice none 0 0, .map (some w.heap.size)] 28)) w.heap.size 0 (.slice none 0 0) (.map []) (fun _ => []) := by
  refine ⟨((Below.refl _ _).alloc (Nat.le_refl _) _).alloc (by simp) _, ?_, ⟨[], World.ownsRow_nil _ _ _ _⟩, (World.ownsMap_made w Yba.prog 9 sliceR).alloc _, (fun kl h => by cases h), (fun kl h => by cases h), (fun _ => Nat.zero_le _), (fun _ _ h => by cases h)⟩
  have := heap_alloc_new (w.alloc (.map #[] 0)) (.cells #[.slice none 0 0, .map (some w.heap.size)] 28)
  simp only [World.size_alloc] at this
  exact this
end Go.Proofs.Ybulkgly
