/-
  The log as LawS0362CSums builds it: the invariant of its loop, and what one event more makes of it.
-/
import Derived.Test.YbulkglyCount
import Derived.Deep.AppendLies
namespace Go.Proofs.Ybulkgly
open Go.RowKit Go.Maps
set_option linter.unusedVariables false

def evCells (pr : ByteArray) (c : Int) (sb : Nat) : List Value := [.string pr, .int .u64 c, .map (some sb), .string ByteArray.empty, .string ByteArray.empty, .int .i64 0, .int .u64 0, .pointer none, .int .u32 0, .int .u32 0]

/-- A stamp in a map of its own, behind the log's map: its entries add up to t + 1. -/
def Stamp (w : World) (mb sb : Nat) (t : Int) : Prop := mb < sb ∧ ∃ n D, w.ownsMap Yba.prog 9 u64R sb n D ∧ n ≤ 10 ∧ Bnd num 0 65535 D ∧ t = tot num D - 1

/-- The cells of a list of events. -/
def EvList (w : World) (mb : Nat) : List Int → List Value → Prop
  | [], xs => xs = []
  | t :: ts, xs => ∃ pr c sb ys, xs = evCells pr c sb ++ ys ∧ Stamp w mb sb t ∧ EvList w mb ts ys

theorem EvList.snoc {w : World} {mb sb : Nat} {t : Int} {pr : ByteArray} {c : Int} (hs : Stamp w mb sb t) : ∀ {ts : List Int} {xs : List Value}, EvList w mb ts xs → EvList w mb (ts ++ [t]) (xs ++ evCells pr c sb)
  | [], xs, h => by
    rw [show xs = [] from h]
    exact ⟨pr, c, sb, [], by simp, hs, rfl⟩
  | t' :: ts, xs, ⟨pr', c', sb', ys, hx, h1, h2⟩ => ⟨pr', c', sb', ys ++ evCells pr c sb, by rw [hx, List.append_assoc], h1, EvList.snoc hs h2⟩
theorem EvList.mono {w w' : World} {mb : Nat} (h : ∀ sb t, Stamp w mb sb t → Stamp w' mb sb t) : ∀ {ts : List Int} {xs : List Value}, EvList w mb ts xs → EvList w' mb ts xs
  | [], _, hx => hx
  | _ :: _, _, ⟨pr, c, sb, ys, hx, h1, h2⟩ => ⟨pr, c, sb, ys, hx, h _ _ h1, EvList.mono h h2⟩
theorem EvList.at_ {w : World} {mb : Nat} : ∀ {ts : List Int} {xs : List Value}, EvList w mb ts xs → ∀ i t, ts[i]? = some t → ∃ pr c sb, Stamp w mb sb t ∧ ∀ j v, (evCells pr c sb)[j]? = some v → xs[i * 10 + j]? = some v
  | [], _, _, i, t, h => by simp at h
  | t' :: ts, xs, ⟨pr, c, sb, ys, hx, h1, h2⟩, 0, t, h => by
    simp at h
    subst h
    refine ⟨pr, c, sb, h1, fun j v hv => ?_⟩
    rw [hx, Nat.zero_mul, Nat.zero_add, List.getElem?_append_left (List.getElem?_eq_some_iff.1 hv).1]
    exact hv
  | t' :: ts, xs, ⟨pr, c, sb, ys, hx, h1, h2⟩, i + 1, t, h => by
    obtain ⟨pr', c', sb', h3, h4⟩ := EvList.at_ h2 i t (by simpa using h)
    refine ⟨pr', c', sb', h3, fun j v hv => ?_⟩
    rw [hx, List.getElem?_append_right (by simp [evCells]; omega)]
    have : (i + 1) * 10 + j - (evCells pr c sb).length = i * 10 + j := by simp [evCells]; omega
    rw [this]
    exact h4 j v hv

/-- The slice v holds events whose counts are ts. -/
def Grp (w : World) (base mb : Nat) (v : Value) (ts : List Int) : Prop := ∃ ao cap xs, v = .slice ao ts.length cap ∧ w.ownsRow base 41 10 v ts.length xs ∧ EvList w mb ts xs

theorem Grp.row {w : World} {base mb : Nat} {ao : Option Addr} {n cap : Nat} {ts : List Int} (h : Grp w base mb (.slice ao n cap) ts) : Row w ao n ts := by
  obtain ⟨ao', cap', xs, e, ho, hl⟩ := h
  simp only [Value.slice.injEq] at e
  obtain ⟨rfl, rfl, rfl⟩ := e
  refine ⟨rfl, fun i t ht => ?_⟩
  have hi : i < ts.length := (List.getElem?_eq_some_iff.1 ht).1
  rcases ho.2 with ⟨e, h0⟩ | ⟨g, cp, cur, e, hb, hg, hn, hm, hs, htk⟩
  · omega
  · simp only [Value.slice.injEq] at e
    obtain ⟨rfl, _, rfl⟩ := e
    obtain ⟨pr, c, sb, ⟨hsb, n, D, h1, h2, h3, h4⟩, hc⟩ := hl.at_ i t ht
    refine ⟨g, rfl, (Array.getElem?_eq_some_iff.1 hg).1, pr, c, sb, n, D, fun j v hv => ?_, h1, h2, h3, h4⟩
    have h5 := hc j v hv
    rw [← htk, List.getElem?_take] at h5
    split at h5
    · rw [cell_of_row w g _ cur 41 (0, 0) hg]; simpa using h5
    · cases h5

/-- The invariant. -/
structure SInv (w0 wr : World) (B i : Nat) (pv : Value) (D : DataW Value) (T : Lit → List Int) : Prop where
  below : Below B w0 wr
  names : wr.heap[B]? = some (.cells #[.string ⟨#[97]⟩, .string ⟨#[98]⟩, .string ⟨#[99]⟩] 23)
  log : wr.heap[B + 3]? = some (.cells #[pv, .map (some (B + 2))] 28)
  own : wr.ownsMap Yba.prog 9 sliceR (B + 2) i D
  grp : ∀ kl, has D kl = true → ∃ v, (∀ z, D.atKey kl z = .held v) ∧ Grp wr (B + 4) (B + 2) v (T kl)
  non : ∀ kl, has D kl = false → T kl = []
  apart : ∀ kl kl' v v', kl ≠ kl' → (∀ z, D.atKey kl z = .held v) → (∀ z, D.atKey kl' z = .held v') → v.ownBlock ≠ v'.ownBlock
  cnt : tot (cnt_ T) D = i
  max : ∀ kl, (T kl).length ≤ i
  bnd : ∀ kl t, t ∈ T kl → -1 ≤ t ∧ t ≤ 196604

theorem SInv.evs {w0 wr : World} {B i : Nat} {pv : Value} {D : DataW Value} {T : Lit → List Int} (h : SInv w0 wr B i pv D T) (hi : i ≤ 1024) : Evs wr (B + 2) i D T :=
  ⟨h.own, fun kl hk => by
    obtain ⟨v, h1, h2⟩ := h.grp kl hk
    obtain ⟨ao, cap, xs, rfl, h3⟩ := h2
    exact ⟨ao, cap, h1, Grp.row ⟨ao, cap, xs, rfl, h3⟩⟩, fun kl => Nat.le_trans (h.max kl) hi, hi⟩

/-- The ghost behind one event more under the key kl. -/
def push (T : Lit → List Int) (kl : Lit) (t : Int) (k : Lit) : List Int := if k.sameKey kl then T kl ++ [t] else T k
theorem push_same {T : Lit → List Int} {kl : Lit} {t : Int} (hk : WideAt.IsKeyLit kl) : push T kl t kl = T kl ++ [t] := by simp [push, WideAt.sameKey_self hk]
theorem push_other {T : Lit → List Int} {kl k : Lit} {t : Int} (h : k ≠ kl) : push T kl t k = T k := by simp [push, sameKey_ne h]

theorem tot_push (g : List Int → Int) (d : Int) {D : DataW Value} (hD : Good D) {T : Lit → List Int} {kl : Lit} {t : Int} (hk : WideAt.IsKeyLit kl) (hnon : has D kl = false → T kl = []) (h0 : g [] = 0) (hg : g (T kl ++ [t]) = g (T kl) + d) (hat : has D kl = true → ∃ v, ∀ z, D.atKey kl z = .held v) (v' : Value) :
    tot (fun p => g (push T kl t p.1)) (D.put kl (.held v')) = tot (fun p => g (T p.1)) D + d := by
  rw [tot_put _ hD, push_same hk, hg]
  have hr : rest (fun p : Lit × DataW Value => g (push T kl t p.1)) kl D = rest (fun p => g (T p.1)) kl D := rest_congr kl D (fun p hp => by simp [push, hp])
  rw [hr]
  cases hh : has D kl with
  | true =>
    obtain ⟨v, hv⟩ := hat hh
    rw [tot_rest _ hD hv]
    dsimp only
    omega
  | false =>
    rw [tot_rest_none _ hD hh, hnon hh, h0]
    omega
end Go.Proofs.Ybulkgly
