/-
  LawS0365BAdmit, walked.
-/
import Derived.Test.YbulkgnoRow
import Derived.Deep.AppendLies
namespace Go.Proofs.Ybulkgno
open Go.Shelf Go.RowKit Go.Lib Go.Sort
set_option linter.unusedVariables false
set_option linter.unusedSimpArgs false

def refOf (s : ByteArray) : RefV := (s, (⟨#[97]⟩ : ByteArray) ++ s)
theorem cut_id {s : ByteArray} (h : s.size ≤ 9223372036854775807) : cut s = s := by unfold cut; rw [if_pos h]

/-- What stands behind the sort, the compaction and the clone. -/
structure Mid (w w8 : World) (me : ByteArray) (side : Int) (G gb : Nat) (C : List RefV) : Prop where
  below : RowKit.Below w.heap.size w w8
  self_ : w8.cell? ⟨w.heap.size, 0, none⟩ = some (.string me)
  side_ : w8.cell? ⟨w.heap.size + 1, 0, none⟩ = some (.int .i64 side)
  nodes : RefsAt w8 G C
  before : RefsAt w8 gb C
  strict : Strict me side C
theorem Mid.kept {w w8 w9 : World} {me : ByteArray} {side : Int} {G gb : Nat} {C : List RefV} (h : Mid w w8 me side G gb C) (hb : RowKit.Below w8.heap.size w8 w9) : Mid w w9 me side G gb C :=
  ⟨h.below.trans (hb.mono h.below.size), cell_below h.self_ hb, cell_below h.side_ hb, h.nodes.below hb, h.before.below hb, h.strict⟩
theorem grown_cell {w w' : World} {g : Nat} {a : Addr} {v : Value} (h : w.grownBy w' (some g)) (hc : w.cell? a = some v) (hne : a.block ≠ g) : w'.cell? a = some v := h.cell hc (fun e => hne (by simpa using e))
theorem grown_below {w0 w w' : World} {g B : Nat} (h : RowKit.Below B w0 w) (hg : w.grownBy w' (some g)) (hB : B ≤ w.heap.size) (hgB : B ≤ g) : RowKit.Below B w0 w' := h.grown hg hB (fun k hk => by cases hk; exact hgB)

def Got (w : World) (me : ByteArray) (side : Int) (n : Nat) (C : List RefV) (r : RefV) (i : Nat) (b : Bool) (g' : Nat) (M : List RefV) (w' : World) : Prop :=
  RefsAt w' g' M ∧ i ≤ n ∧ (∀ (t : Nat) (x : RefV), t < i → C[t]? = some x → cf me side x r < 0) ∧ (∀ (t : Nat) (x : RefV), i ≤ t → C[t]? = some x → 0 ≤ cf me side x r) ∧ (b = true ↔ ∃ e ∈ C, cf me side e r = 0) ∧ RowKit.Below w.heap.size w w' ∧ ((b = true ∧ M = C) ∨ (b = false ∧ M = (C.take i ++ r :: C.drop i).take (min (n + 1) 8)))
theorem Admitted.form {w w' : World} {me : ByteArray} {side : Int} {g n cap : Nat} {C : List RefV} {r : RefV} {e : Ending} (h : Admitted w me side g n cap C r e w') (hrow : RefsAt w g C) (hn : C.length = n) (hst : Strict me side C) :
    ∃ i b g' c' M, e = .returned (.slice (some ⟨g', 0, none⟩) M.length c') ∧ Got w me side n C r i b g' M w' := by
  obtain ⟨i, b, h1, h2, h3, h4, h5, h6⟩ := h
  have h4' := found_iff me side hst h2 h3 h4
  rcases h6 with ⟨hb, rfl⟩ | ⟨hb, g', c', rfl, hr⟩
  · exact ⟨i, b, g, cap, C, by rw [hn], hrow.below h5, h1, h2, h3, h4', h5, .inl ⟨hb, rfl⟩⟩
  · refine ⟨i, b, g', c', (C.take i ++ r :: C.drop i).take (min (n + 1) 8), ?_, hr, h1, h2, h3, h4', h5, .inr ⟨hb, rfl⟩⟩
    have : ((C.take i ++ r :: C.drop i).take (min (n + 1) 8)).length = min (n + 1) 8 := by
      rw [List.length_take, List.length_append, List.length_cons, List.length_take, List.length_drop]
      omega
    rw [this]
theorem Got.kept {w w' w'' : World} {me : ByteArray} {side : Int} {n : Nat} {C : List RefV} {r : RefV} {i : Nat} {b : Bool} {g' : Nat} {M : List RefV} (h : Got w me side n C r i b g' M w') (hb : RowKit.Below w'.heap.size w' w'') : Got w me side n C r i b g' M w'' :=
  ⟨h.1.below hb, h.2.1, h.2.2.1, h.2.2.2.1, h.2.2.2.2.1, below_trans h.2.2.2.2.2.1 hb, h.2.2.2.2.2.2⟩
theorem below_drewN (w : World) (n : Nat) : RowKit.Below w.heap.size w (w.drewN n) := ⟨rfl, rfl, rfl, Nat.le_refl _, fun _ _ => rfl⟩
def fnd (C : List RefV) (rn : ByteArray) (t : Nat) : Bool := (C.take t).any (fun e => (cut e.1).toList == rn.toList)
theorem fnd_step {C : List RefV} {rn : ByteArray} {t : Nat} {e : RefV} (he : C[t]? = some e) : fnd C rn (t + 1) = (fnd C rn t || ((cut e.1).toList == rn.toList)) := by
  unfold fnd
  rw [List.take_add_one, he]
  simp [List.any_append]

theorem fnd_all {C : List RefV} {rn raddr me : ByteArray} {side : Int} {cl : Nat} {b : Bool} (hl : C.length = cl) (hc : cut rn = rn) (hb : b = true ↔ ∃ e ∈ C, cf me side e (rn, raddr) = 0) : fnd C rn cl = b := by
  have h1 : fnd C rn cl = true ↔ b = true := by
    rw [hb]
    unfold fnd
    rw [List.take_of_length_le (by omega), List.any_eq_true]
    constructor
    · rintro ⟨e, he, h⟩
      refine ⟨e, he, ?_⟩
      have : cut e.1 = cut (rn, raddr).1 := by rw [toList_eq.1 h]; exact hc.symm
      rw [cf_left me side this, cf_refl]
    · rintro ⟨e, he, h⟩
      refine ⟨e, he, toList_eq.2 ?_⟩
      have := cf_eq me side h
      rw [this]; exact hc
  cases hf : fnd C rn cl <;> cases b <;> simp_all
def OwnE (w : World) (G cap : Nat) (E : List RefV) : Prop := w.ownsRow G 26 2 (.slice (some ⟨G, 0, none⟩) E.length cap) E.length (cellsL E)
theorem OwnE.alloc {w : World} {G cap : Nat} {E : List RefV} (h : OwnE w G cap E) (o : Obj) : OwnE (w.alloc o) G cap E := World.ownsRow.alloc h o
theorem OwnE.refs {w : World} {G cap : Nat} {E : List RefV} (h : OwnE w G cap E) : RefsAt w G E := RefsAt.of_own h rfl
theorem OwnE.snoc {w : World} {G cap : Nat} {E : List RefV} {y : RefV} (h : w.ownsRow G 26 2 (.slice (some ⟨G, 0, none⟩) (E.length + 1) cap) (E.length + 1) (cellsL E ++ [.string (cut y.1), .string y.2])) : OwnE w G cap (E ++ [y]) := by
  unfold OwnE
  rw [cellsL_append, List.length_append]
  exact h
theorem OwnE.below {w w' : World} {G cap : Nat} {E : List RefV} (h : OwnE w G cap E) (hb : RowKit.Below w.heap.size w w') : OwnE w' G cap E := World.ownsRow.kept h ((⟨hb.os, hb.tape, hb.output, hb.size, fun k hk _ => hb.block k hk⟩ : w.grownBy w' none)) (Classical.em _)

set_option maxRecDepth 100000 in
set_option maxHeartbeats 4000000 in
theorem main_walk (self rname raddr : ByteArray) (sel pick : Nat) (hsel : sel ≤ 255) (hpick : pick ≤ 255) (ao : Option Addr) (len q : Nat) (NS : List ByteArray) (w : World) (b off : Nat) (hao : 0 < len → ao = some ⟨b, off, none⟩) (hNS : NS.length = len) (hlen : len ≤ 256) (hq : len ≤ q) (hq2 : q ≤ 9223372036854775807)
    (hself : self.size ≤ 4611686018427387904) (hrn : rname.size ≤ 4611686018427387904) (hsz : ∀ s ∈ NS, s.size ≤ 4611686018427387904) (hI : ∀ (i : Nat) (s : ByteArray), NS[i]? = some s → w.cell? ⟨b, off + i, none⟩ = some (.string s)) (hbb : 0 < len → b < w.heap.size) :
    Calls Yba.prog 3 #[.string self, .int .u8 (sel : Int), .slice ao len q, .string rname, .string raddr, .int .u8 (pick : Int)] w fun e w' => e = .returned (.bool true) ∧ RowKit.Below w.heap.size w w' := by
  have h1 : ¬ (256 : Int) < len := by omega
  have mixed := Yba.mixed
  have HNS : Hid (NS.length = len) := hNS
  have HSZ : Hid (∀ s ∈ NS, s.size ≤ 4611686018427387904) := hsz
  have HI : Hid (∀ (i : Nat) (s : ByteArray), NS[i]? = some s → w.cell? ⟨b, off + i, none⟩ = some (.string s)) := hI
  have hsd : (sel : Int) % 2 = 0 ∨ (sel : Int) % 2 = 1 := by omega
  obtain ⟨i26, hi26, hz0, hz1, hz2⟩ := info_parts Yba.info26
  clear hNS hsz hI
  go_enter Yba.func3, Yba.ntmps3
  go_upto_region 4 with fail
  generalize (sel : Int) % 2 = side at *
  have HC2 : Hid (((w.alloc (.cells #[.string self] 9)).alloc (.cells #[.int .i64 side] 23)).cell? ⟨w.heap.size, 0, none⟩ = some (.string self) ∧ ((w.alloc (.cells #[.string self] 9)).alloc (.cells #[.int .i64 side] 23)).cell? ⟨w.heap.size + 1, 0, none⟩ = some (.int .i64 side)) := ⟨by simp, by simp⟩
  have HB2 : Hid (RowKit.Below w.heap.size w ((w.alloc (.cells #[.string self] 9)).alloc (.cells #[.int .i64 side] 23))) := below_trans (below_alloc _ _) (below_alloc _ _)
  have HZ2 : Hid (((w.alloc (.cells #[.string self] 9)).alloc (.cells #[.int .i64 side] 23)).heap.size = w.heap.size + 2) := show _ = _ by simp
  generalize (w.alloc (.cells #[.string self] 9)).alloc (.cells #[.int .i64 side] 23) = w2 at *
  go_wp2_with (at_make; refine wpList_make_own _ rfl _ _ 24 rfl w2.heap.size 26 i26 _ 2 Yba.underlying24 hi26 hz0 hz1 .i64 .i64 _ len rfl rfl rfl (by rw [hz2]; omega) (by unfold maxLen; omega) (Nat.le_refl _) ?_; intro w3 hown3 hgr3; have HOW3 : Hid (w3.ownsRow w2.heap.size 26 2 (.slice (some ⟨w2.heap.size, 0, none⟩) 0 len) 0 []) := hown3; have HB3 : Hid (RowKit.Below w2.heap.size w2 w3) := (Below.refl _ _).grown hgr3 (Nat.le_refl _) (fun k hk => by cases hk); clear hown3 hgr3)
  generalize hG : w2.heap.size = G at *
  have HG : Hid (w2.heap.size = G) := hG
  clear hG
  go_loopw [14, 39] (fun v i wr => ∃ j : Nat, j ≤ len ∧ i = .int .i64 (j : Int) ∧ v = .slice (some ⟨G, 0, none⟩) j len ∧ wr.ownsRow G 26 2 (.slice (some ⟨G, 0, none⟩) j len) j (cellsL ((NS.take j).map refOf)) ∧ RowKit.Below G w2 wr) (fun _ i _ => len - (intOf i).toNat)
  case atStart => exact ⟨0, Nat.zero_le _, rfl, rfl, HOW3.out, HB3.out⟩
  case round =>
    clear HOW3 HB3
    obtain ⟨j, hj, rfl, rfl, hown, hbel⟩ := hrel
    have HOWN : Hid (wr.ownsRow G 26 2 (.slice (some ⟨G, 0, none⟩) j len) j (cellsL ((NS.take j).map refOf))) := hown
    have HBEL : Hid (RowKit.Below G w2 wr) := hbel
    have hGw : G ≤ wr.heap.size := by have := hbel.size; rw [HG.out] at this; exact this
    clear hown hbel
    by_cases hlt : (j : Int) < len
    · have hs : NS[j]? = some (NS[j]'(by have := HNS.out; omega)) := List.getElem?_eq_getElem _
      generalize NS[j]'(by have := HNS.out; omega) = s at hs
      have HS : Hid (NS[j]? = some s) := hs
      have hss := HSZ.out s (List.mem_of_getElem? hs)
      obtain rfl := hao (by omega)
      have hc0 := cell_below (HI.out j s hs) HB2.out
      have hc := (HBEL.out.cell (p := ⟨b, off + j, none⟩) (by have := World.block_lt_of_cell? _ _ hc0; rw [HG.out] at this; exact this)).trans hc0
      clear hs hc0
      go_upto_region 8 with fail
      go_wp2_with (at_builtin; refine wpList_append_fits _ rfl _ _ 24 rfl G 26 i26 2 Yba.underlying24 hi26 hz1 G j len (cellsL ((NS.take j).map refOf)) rfl (World.ownsRow.alloc HOWN.out _) ⟨wr.heap.size, 0, none⟩ 1 1 [.string s, .string ((⟨#[97]⟩ : ByteArray) ++ s)] rfl rfl (World.news_of_block (cs := #[.string s, .string ((⟨#[97]⟩ : ByteArray) ++ s)]) (t := 26) (fr := (0, 0)) (heap_alloc_new wr _)) (by simp [Value.oneCell']) (by omega) ?_; intro w5 hown5 hgr5; have HOW5 : Hid (w5.ownsRow G 26 2 (.slice (some ⟨G, 0, none⟩) (j + 1) len) (j + 1) (cellsL ((NS.take j).map refOf) ++ [.string s, .string ((⟨#[97]⟩ : ByteArray) ++ s)])) := hown5; have HB5 : Hid (RowKit.Below G w2 w5) := (HBEL.out.alloc hGw _).grown hgr5 (by simp; omega) (fun k hk => by cases hk; exact Nat.le_refl _); clear hown5 hgr5)
      go_roundw
      case rel =>
        refine ⟨j + 1, by omega, by go_num, rfl, ?_, HB5.out⟩
        have := HOW5.out
        rw [List.take_add_one, HS.out, Option.toList_some, List.map_append, cellsL_append]
        have e : cellsL ([s].map refOf) = [.string s, .string ((⟨#[97]⟩ : ByteArray) ++ s)] := by
          simp only [List.map_cons, List.map_nil, cellsL, refOf]
          rw [cut_id (by omega)]
        rw [e]
        exact this
      case measure => simp [intOf]; omega
    · obtain rfl : j = len := by omega
      have hown := HOWN.out
      rw [List.take_of_length_le (by rw [HNS.out]; exact Nat.le_refl _)] at hown
      have hll : (NS.map refOf).length = j := by rw [List.length_map, HNS.out]
      have hrefs : RefsAt wr G (NS.map refOf) := RefsAt.of_own hown hll
      have hthr : wr.there G 0 ((NS.map refOf).length * 2) := by
        obtain ⟨_, h2 | ⟨g', c', cur, h2, _, hblk, _, _, hcs, _⟩⟩ := hown
        · simp at h2
        · simp at h2
          obtain ⟨rfl, rfl⟩ := h2
          rw [hll]
          intro t ht
          refine ⟨?_, frozen_of_row _ _ _ cur 26 hblk⟩
          rw [cell_of_row _ _ _ cur 26 (0, 0) hblk, Array.getElem?_eq_getElem (by omega)]
          rfl
      have hH := holds_of hrefs hthr
      have hbs : wr.cell? ⟨w.heap.size, 0, none⟩ = some (.string self) := (HBEL.out.cell (p := ⟨w.heap.size, 0, none⟩) (by have := HZ2.out; have := HG.out; show w.heap.size < G; omega)).trans HC2.out.1
      have hbd : wr.cell? ⟨w.heap.size + 1, 0, none⟩ = some (.int .i64 side) := (HBEL.out.cell (p := ⟨w.heap.size + 1, 0, none⟩) (by have := HZ2.out; have := HG.out; show w.heap.size + 1 < G; omega)).trans HC2.out.2
      have hGlt : G < wr.heap.size := by
        obtain ⟨_, h2 | ⟨g', c', cur, h2, _, hblk, _⟩⟩ := hown
        · simp at h2
        · simp at h2
          obtain ⟨rfl, rfl⟩ := h2
          exact (Array.getElem?_eq_some_iff.1 hblk).1
      have hsort := sort_any self side w.heap.size (w.heap.size + 1) G j (NS.map refOf).toArray wr (by omega) hsd hbs hbd (by have := HZ2.out; have := HG.out; omega) (by have := HZ2.out; have := HG.out; omega) hH hGlt (by simp only [List.size_toArray]; omega)
      simp only [List.size_toArray, hll] at hsort
      have HSORT : Hid _ := hsort
      have HB4 : Hid (RowKit.Below w.heap.size w wr) := HB2.out.trans (HBEL.out.mono (by have := HZ2.out; have := HG.out; omega))
      have HCS : Hid (wr.cell? ⟨w.heap.size, 0, none⟩ = some (.string self) ∧ wr.cell? ⟨w.heap.size + 1, 0, none⟩ = some (.int .i64 side)) := ⟨hbs, hbd⟩
      have HGB : Hid (w.heap.size + 2 ≤ G) := by have h1 := HZ2.out; have h2 := HG.out; show w.heap.size + 2 ≤ G; omega
      have HLL : Hid ((NS.map refOf).length = j) := hll
      have HH : Hid (HoldsK enc 2 wr G 0 (NS.map refOf).toArray) := hH
      clear hown hll hrefs hthr hH hbs hbd hsort HOWN HBEL hGw HC2 HB2 HZ2 HG
      go_upto_region 11 with (go_at_call 7; refine Calls.mono HSORT.out ?_; rintro e w6 ⟨rfl, d', nd, os6, hperm, hsorted, rfl⟩)
      have hdl : d'.size = j := by have := hperm.1; simp only [List.size_toArray] at this; rw [this]; exact HLL.out
      obtain ⟨hr6, ht6⟩ := of_holds (holdsK_sortWorldK enc 2 wr G 0 nd (NS.map refOf).toArray d' os6 hGlt HH.out (by rw [hdl]; simp only [List.size_toArray]; exact HLL.out.symm))
      rw [hdl] at ht6
      have hg6 := sort_grown wr G nd d' os6
      have hso := sorted_of self side hdl hsorted
      have hdl' : d'.toList.length = j := by simpa using hdl
      have HB6 : Hid (RowKit.Below w.heap.size w (sortWorldK enc 2 wr G 0 nd d' os6)) := grown_below HB4.out hg6 HB4.out.size (by have := HGB.out; omega)
      have HC6 : Hid ((sortWorldK enc 2 wr G 0 nd d' os6).cell? ⟨w.heap.size, 0, none⟩ = some (.string self) ∧ (sortWorldK enc 2 wr G 0 nd d' os6).cell? ⟨w.heap.size + 1, 0, none⟩ = some (.int .i64 side)) := ⟨grown_cell hg6 HCS.out.1 (by have := HGB.out; show w.heap.size ≠ G; omega), grown_cell hg6 HCS.out.2 (by have := HGB.out; show w.heap.size + 1 ≠ G; omega)⟩
      have HSTR : Hid (Strict self side (comp d'.toList j)) := comp_all self side hdl' hso
      have HCOMP : Hid _ := compact_any G j j d'.toList (sortWorldK enc 2 wr G 0 nd d' os6) hdl' (by omega) (Nat.le_refl _) (by omega) hr6 ht6
      have hcl := comp_len d'.toList j
      clear hdl hr6 ht6 hg6 hso hdl' hperm hsorted HH HSORT HCS HB4
      generalize sortWorldK enc 2 wr G 0 nd d' os6 = w6 at *
      go_upto_region 12 with (go_at_call 10; refine Calls.mono HCOMP.out ?_; rintro e w7 ⟨rfl, hr7, hg7⟩)
      generalize comp d'.toList j = C at *
      have HCLO : Hid _ := clone_any C G j w7 (by omega) hr7
      have HR7 : Hid (RefsAt w7 G C) := hr7
      have HB7 : Hid (RowKit.Below w.heap.size w w7) := grown_below HB6.out hg7 HB6.out.size (by have := HGB.out; omega)
      have HC7 : Hid (w7.cell? ⟨w.heap.size, 0, none⟩ = some (.string self) ∧ w7.cell? ⟨w.heap.size + 1, 0, none⟩ = some (.int .i64 side)) := ⟨grown_cell hg7 HC6.out.1 (by have := HGB.out; show w.heap.size ≠ G; omega), grown_cell hg7 HC6.out.2 (by have := HGB.out; show w.heap.size + 1 ≠ G; omega)⟩
      clear hr7 hg7 HCOMP HB6 HC6
      go_upto_region 13 with (go_at_call 12; refine Calls.mono HCLO.out ?_; rintro e w8 ⟨gb, cb, rfl, hr8, hb8⟩)
      have HMID : Hid (Mid w w8 self side G gb C) := ⟨below_trans HB7.out hb8, cell_below HC7.out.1 hb8, cell_below HC7.out.2 hb8, HR7.out.below hb8, hr8, HSTR.out⟩
      clear hr8 hb8 HCLO HB7 HC7 HR7 HSTR
      generalize hCl : C.length = cl at *
      have HCL : Hid (C.length = cl) := hCl
      clear hCl
      have hjj : ¬ (j : Int) < 0 := by omega
      have hpm : Int.tmod (pick : Int) 2 = ((pick % 2 : Nat) : Int) := by rw [Int.tmod_eq_emod_of_nonneg (by omega)]; omega
      go_cut [65] from 58 (fun v wc => v = .bool (decide (pick % 2 = 0 ∧ 0 < j)) ∧ wc = w8)
      case first =>
        by_cases hp0 : (pick : Int) % 2 = 0
        · by_cases hj0 : (0 : Int) < j
          · have hd : decide (pick % 2 = 0 ∧ 0 < j) = true := decide_eq_true ⟨by omega, by omega⟩
            have HD : Hid (decide (pick % 2 = 0 ∧ 0 < j) = true) := hd
            clear hd hpm
            go_wp2_with fail
            go_meet
            case rel => exact ⟨by rw [HD.out]; simp; omega, rfl⟩
          · have hd : decide (pick % 2 = 0 ∧ 0 < j) = false := decide_eq_false (by omega)
            have HD : Hid (decide (pick % 2 = 0 ∧ 0 < j) = false) := hd
            clear hd hpm
            go_wp2_with fail
            go_meet
            case rel => exact ⟨by rw [HD.out]; simp; omega, rfl⟩
        · have hd : decide (pick % 2 = 0 ∧ 0 < j) = false := decide_eq_false (by omega)
          have HD : Hid (decide (pick % 2 = 0 ∧ 0 < j) = false) := hd
          clear hd hpm
          go_wp2_with fail
          go_meet
          case rel => exact ⟨by rw [HD.out], rfl⟩
      case rest =>
        obtain ⟨rfl, rfl⟩ := hcut
        go_upto_if 65 with fail
        go_cut [3] from 58 (fun v wx => ∃ rn : ByteArray, v = .string rn ∧ rn.size ≤ 4611686018427387904 ∧ wx = wc)
        case first =>
          by_cases hp : pick % 2 = 0 ∧ 0 < j
          · have hd : decide (pick % 2 = 0 ∧ 0 < j) = true := decide_eq_true hp
            obtain rfl := hao hp.2
            have htm : Int.tmod (((pick / 2 : Nat) : Int)) (j : Int) = (((pick / 2) % j : Nat) : Int) := by rw [Int.tmod_eq_emod_of_nonneg (by omega)]; exact (Int.natCast_emod _ _).symm
            have htd : Int.tdiv (pick : Int) 2 = ((pick / 2 : Nat) : Int) := by rw [Int.tdiv_eq_ediv_of_nonneg (by omega)]; omega
            have hml : (pick / 2) % j < j := Nat.mod_lt _ hp.2
            have hpl : pick / 2 ≤ 127 := by omega
            generalize pick / 2 = p2 at *
            generalize p2 % j = m at *
            have hml' : (m : Int) < j := by omega
            have hjz : ¬ (j : Int) = 0 := by omega
            have hs : NS[m]? = some (NS[m]'(by have := HNS.out; omega)) := List.getElem?_eq_getElem _
            generalize NS[m]'(by have := HNS.out; omega) = s at hs
            have hss := HSZ.out s (List.mem_of_getElem? hs)
            have hcc := cell_below (HI.out m s hs) HMID.out.below
            have HSS : Hid (s.size ≤ 4611686018427387904) := hss
            clear hs hss hpm
            go_wp2_with fail
            go_meet
            case rel => exact ⟨s, rfl, HSS.out, rfl⟩
          · have hd : decide (pick % 2 = 0 ∧ 0 < j) = false := decide_eq_false hp
            have HRN : Hid (rname.size ≤ 4611686018427387904) := hrn
            go_wp2_with fail
            go_meet
            case rel => exact ⟨rname, rfl, HRN.out, rfl⟩
        case rest =>
          obtain ⟨rn, rfl, hrnn, hwx⟩ := hcut
          subst hwx
          have hs1 := HMID.out.self_
          have hs2 := HMID.out.side_
          have hs3 := cell_below hs1 (below_alloc _ (.cells #[.string rn, .string raddr] 26))
          clear hpm
          go_upto_region 17 with fail
          have hnode : (#[Value.string self, Value.string ⟨#[]⟩, Value.int IntKind.u8 0, Value.int IntKind.u8 0, Value.int IntKind.u8 0, Value.int IntKind.u8 0, Value.int IntKind.u8 0, Value.int IntKind.u8 0, Value.int IntKind.u8 0, Value.int IntKind.u8 0, Value.int IntKind.u8 0, Value.int IntKind.u8 0, Value.int IntKind.u8 0, Value.int IntKind.u8 0, Value.int IntKind.u8 0, Value.int IntKind.u8 0, Value.int IntKind.u8 0, Value.int IntKind.u8 0, Value.nilIface, Value.chan none, Value.int IntKind.u32 0, Value.int IntKind.i32 0, Value.int IntKind.u32 0, Value.nilIface, Value.int IntKind.u32 0, Value.int IntKind.i32 0, Value.int IntKind.u32 0, Value.bool false, Value.slice none 0 0, Value.slice none 0 0, Value.slice none 0 0, Value.map none, Value.int IntKind.i64 0, Value.int IntKind.i64 0, Value.map none, Value.map none, Value.string ⟨#[]⟩, Value.string ⟨#[]⟩, Value.map none, Value.chan none, Value.pointer none, Value.int IntKind.i64 0, Value.map none, Value.slice none 0 0, Value.int IntKind.i64 0, Value.slice none 0 0, Value.slice none 0 0, Value.map none, Value.pointer none, Value.int IntKind.i64 0, Value.pointer none] : Array Value)[0]? = some (.string self) := rfl
          generalize (#[Value.string self, Value.string ⟨#[]⟩, Value.int IntKind.u8 0, Value.int IntKind.u8 0, Value.int IntKind.u8 0, Value.int IntKind.u8 0, Value.int IntKind.u8 0, Value.int IntKind.u8 0, Value.int IntKind.u8 0, Value.int IntKind.u8 0, Value.int IntKind.u8 0, Value.int IntKind.u8 0, Value.int IntKind.u8 0, Value.int IntKind.u8 0, Value.int IntKind.u8 0, Value.int IntKind.u8 0, Value.int IntKind.u8 0, Value.int IntKind.u8 0, Value.nilIface, Value.chan none, Value.int IntKind.u32 0, Value.int IntKind.i32 0, Value.int IntKind.u32 0, Value.nilIface, Value.int IntKind.u32 0, Value.int IntKind.i32 0, Value.int IntKind.u32 0, Value.bool false, Value.slice none 0 0, Value.slice none 0 0, Value.slice none 0 0, Value.map none, Value.int IntKind.i64 0, Value.int IntKind.i64 0, Value.map none, Value.map none, Value.string ⟨#[]⟩, Value.string ⟨#[]⟩, Value.map none, Value.chan none, Value.pointer none, Value.int IntKind.i64 0, Value.map none, Value.slice none 0 0, Value.int IntKind.i64 0, Value.slice none 0 0, Value.slice none 0 0, Value.map none, Value.pointer none, Value.int IntKind.i64 0, Value.pointer none] : Array Value) = ND at *
          have hb10 := below_trans (below_alloc wc (.cells #[.string rn, .string raddr] 26)) (below_alloc _ (.cells ND 69))
          have hnb : ((wc.alloc (.cells #[.string rn, .string raddr] 26)).alloc (.cells ND 69)).cell? ⟨wc.heap.size + 1, 0, none⟩ = some (.string self) := by
            rw [← hnode]
            have := cell_of_row ((wc.alloc (.cells #[.string rn, .string raddr] 26)).alloc (.cells ND 69)) (wc.heap.size + 1) 0 ND 69 (0, 0) (by have := heap_alloc_new (wc.alloc (.cells #[.string rn, .string raddr] 26)) (.cells ND 69); simpa using this)
            exact this
          have hr1 : ((wc.alloc (.cells #[.string rn, .string raddr] 26)).alloc (.cells ND 69)).cell? ⟨wc.heap.size, 0, none⟩ = some (.string rn) := cell_below (w := wc.alloc (.cells #[.string rn, .string raddr] 26)) (by simp) (below_alloc _ _)
          have hr2 : ((wc.alloc (.cells #[.string rn, .string raddr] 26)).alloc (.cells ND 69)).cell? ⟨wc.heap.size, 1, none⟩ = some (.string raddr) := cell_below (w := wc.alloc (.cells #[.string rn, .string raddr] 26)) (by simp) (below_alloc _ _)
          have HM10 : Hid (Mid w ((wc.alloc (.cells #[.string rn, .string raddr] 26)).alloc (.cells ND 69)) self side G gb C) := HMID.out.kept hb10
          have hs2' := cell_below hs2 hb10
          have hcut : cut rn = rn := cut_id (by omega)
          have hadm := admit_any self side (wc.heap.size + 1) G cl j C (rn, raddr) ((wc.alloc (.cells #[.string rn, .string raddr] 26)).alloc (.cells ND 69)) (by omega) hsd hnb HCL.out (by omega) (by omega) (by omega) (HMID.out.kept hb10).nodes (fun i k x y => (HMID.out.strict).mono self side (rn, raddr) i k x y)
          simp only [hcut] at hadm
          have HADM : Hid (Calls Yba.prog 13 #[.pointer (some ⟨wc.heap.size + 1, 0, none⟩), .int .i64 side, .slice (some ⟨G, 0, none⟩) cl j, .agg #[.string rn, .string raddr]] ((wc.alloc (.cells #[.string rn, .string raddr] 26)).alloc (.cells ND 69)) fun e w' => ∃ i b g' c' M, e = .returned (.slice (some ⟨g', 0, none⟩) M.length c') ∧ Got ((wc.alloc (.cells #[.string rn, .string raddr] 26)).alloc (.cells ND 69)) self side cl C (rn, raddr) i b g' M w') := hadm.mono (fun e w' h => h.form (HMID.out.kept hb10).nodes HCL.out HMID.out.strict)
          have HCUT : Hid (cut rn = rn) := hcut
          clear hadm hnb hb10 hnode HMID hs1 hs2 hs3 hcut
          generalize (wc.alloc (.cells #[.string rn, .string raddr] 26)).alloc (.cells ND 69) = w10 at *
          generalize wc.heap.size = br at *
          go_upto_region 18 with (go_at_call 13; refine Calls.mono HADM.out ?_; rintro e w11 ⟨i, b0, g', c', M, rfl, hgot⟩)
          have HGOT : Hid (Got w10 self side cl C (rn, raddr) i b0 g' M w11) := hgot
          have hb11 : RowKit.Below w10.heap.size w10 w11 := hgot.2.2.2.2.2.1
          have HM11 : Hid (Mid w w11 self side G gb C) := HM10.out.kept hb11
          have hr1' := cell_below hr1 hb11
          have hr2' := cell_below hr2 hb11
          have hin : i ≤ cl := hgot.2.1
          clear hgot hb11 hr1 hr2 hs2' HADM HM10
          have heq := equal_same C G gb j cb w11 (by rw [HCL.out]; omega) HM11.out.nodes HM11.out.before
          rw [HCL.out] at heq
          have HEQ : Hid _ := heq
          clear heq
          go_upto_region 20 with (go_at_call 14; refine Calls.mono HEQ.out ?_; rintro e w12 ⟨rfl, q12, rfl⟩)
          have HM12 : Hid (Mid w (w11.drewN q12) self side G gb C) := HM11.out.kept (below_drewN w11 q12)
          have HG12 : Hid (Got w10 self side cl C (rn, raddr) i b0 g' M (w11.drewN q12)) := HGOT.out.kept (below_drewN w11 q12)
          have hr1 := cell_below hr1' (below_drewN w11 q12)
          have hr2 := cell_below hr2' (below_drewN w11 q12)
          clear hr1' hr2' HM11 HGOT HEQ
          generalize w11.drewN q12 = w12 at *
          have HR12 : Hid (w12.cell? ⟨br, 0, none⟩ = some (.string rn) ∧ w12.cell? ⟨br, 1, none⟩ = some (.string raddr)) := ⟨hr1, hr2⟩
          clear hr1 hr2
          generalize hml : M.length = ml at *
          have HML : Hid (M.length = ml) := hml
          clear hml
          go_wp2_with fail
          go_loopw [21, 93] (fun fv iv wr => ∃ t : Nat, t ≤ cl ∧ iv = .int .i64 (t : Int) ∧ fv = .bool (fnd C rn t) ∧ RowKit.Below w12.heap.size w12 wr) (fun _ iv _ => cl - (intOf iv).toNat)
          case atStart => exact ⟨0, Nat.zero_le _, rfl, by simp [fnd], Below.refl _ _⟩
          case round =>
            obtain ⟨t, ht, rfl, rfl, hbt⟩ := hrel
            have HBT : Hid (RowKit.Below w12.heap.size w12 wr) := hbt
            have HMT : Hid (Mid w wr self side G gb C) := HM12.out.kept hbt
            have hrt := cell_below HR12.out.1 hbt
            clear hbt
            by_cases htl : (t : Int) < cl
            · have hx : C[t]? = some (C[t]'(by have := HCL.out; omega)) := List.getElem?_eq_getElem _
              generalize C[t]'(by have := HCL.out; omega) = x at hx
              obtain ⟨x1, x2⟩ := HMT.out.before t x hx
              have HST : Hid (fnd C rn (t + 1) = (fnd C rn t || ((cut x.1).toList == rn.toList))) := fnd_step hx
              have hrt2 := cell_below hrt (below_alloc _ (.cells #[.string (cut x.1), .string x.2] 26))
              have HB2 : Hid (RowKit.Below w12.heap.size w12 (wr.alloc (.cells #[.string (cut x.1), .string x.2] 26))) := below_trans HBT.out (below_alloc _ _)
              clear hx
              generalize fnd C rn t = ft at *
              cases hq0 : ((cut x.1).toList == rn.toList) with
              | true =>
                rw [hq0, Bool.or_true] at HST
                go_wp2_with fail
                go_roundw
                case rel => exact ⟨t + 1, by omega, by go_num, by rw [HST.out], HB2.out⟩
                case measure => simp [intOf]; omega
              | false =>
                rw [hq0, Bool.or_false] at HST
                go_wp2_with fail
                go_roundw
                case rel => exact ⟨t + 1, by omega, by go_num, by rw [HST.out], HB2.out⟩
                case measure => simp [intOf]; omega
            · obtain rfl : t = cl := by omega
              have hfb := fnd_all (raddr := raddr) HCL.out HCUT.out HG12.out.2.2.2.2.1
              have HGT : Hid (Got w10 self side t C (rn, raddr) i b0 g' M wr) := HG12.out.kept HBT.out
              have hrt1 := cell_below HR12.out.2 HBT.out
              rw [hfb]
              clear hfb HG12 HM12 HR12 HBT
              cases b0 with
              | true =>
                have hM : M = C := by rcases HGT.out.2.2.2.2.2.2 with ⟨_, h⟩ | ⟨h, _⟩; exact h; cases h
                have heq := equal_same C g' gb c' cb wr (by rw [HCL.out]; omega) (by have := HGT.out.1; rw [hM] at this; exact this) HMT.out.before
                have hmt : ml = t := by have h1 := HML.out; have h2 := HCL.out; rw [hM] at h1; omega
                rw [HCL.out] at heq
                have HEQ : Hid _ := heq
                have HB : Hid (RowKit.Below w.heap.size w wr) := HMT.out.below
                clear heq hM
                subst hmt
                go_wp2_with (go_at_call 14; refine Calls.mono HEQ.out ?_; rintro e w13 ⟨rfl, q13, rfl⟩)
                go_ret
                exact ⟨rfl, HB.out.trans ((below_drewN wr q13).mono HB.out.size)⟩
              | false =>
                have hM : M = (C.take i ++ (rn, raddr) :: C.drop i).take (min (t + 1) 8) := by rcases HGT.out.2.2.2.2.2.2 with ⟨h, _⟩ | ⟨_, h⟩; cases h; exact h
                have HMM : Hid (M = (C.take i ++ (rn, raddr) :: C.drop i).take (min (t + 1) 8)) := hM
                have HNO : Hid (∀ e ∈ C, cf self side e (rn, raddr) ≠ 0) := fun e he h => by have := HGT.out.2.2.2.2.1.2 ⟨e, he, h⟩; cases this
                have HRB : Hid (wr.cell? ⟨br, 0, none⟩ = some (.string rn) ∧ wr.cell? ⟨br, 1, none⟩ = some (.string raddr)) := ⟨hrt, hrt1⟩
                clear hM hrt hrt1
                go_wp2_with (at_make; refine wpList_make_own _ rfl _ _ 24 rfl wr.heap.size 26 i26 _ 2 Yba.underlying24 hi26 hz0 hz1 .i64 .i64 _ (t + 1) rfl rfl (by omega) (by rw [hz2]; omega) (by unfold maxLen; omega) (Nat.le_refl _) ?_; intro w14 hown14 hgr14; have HOW14 : Hid (OwnE w14 wr.heap.size (t + 1) []) := hown14; have HB14 : Hid (RowKit.Below wr.heap.size wr w14) := (Below.refl _ _).grown hgr14 (Nat.le_refl _) (fun k hk => by cases hk); clear hown14 hgr14)
                generalize hwE : wr = wE at *
                clear hwE
                generalize hG3 : wE.heap.size = G3 at *
                have HG3 : Hid (wE.heap.size = G3) := hG3
                clear hG3
                go_loopw [24, 25, 113] (fun ev pv iv wq => ∃ u : Nat, u ≤ t ∧ iv = .int .i64 (u : Int) ∧ pv = .bool (decide (i < u)) ∧ ev = .slice (some ⟨G3, 0, none⟩) (expd C (rn, raddr) i u).length (t + 1) ∧ OwnE wq G3 (t + 1) (expd C (rn, raddr) i u) ∧ RowKit.Below G3 wE wq) (fun _ _ iv _ => t - (intOf iv).toNat)
                case atStart => exact ⟨0, Nat.zero_le _, rfl, by simp, by simp [expd], by simpa [expd] using HOW14.out, HB14.out⟩
                case round =>
                  clear HOW14 HB14
                  obtain ⟨u, hu, rfl, rfl, rfl, hownu, hbu⟩ := hrel
                  have hG3w : G3 ≤ wr.heap.size := by have h1 := hbu.size; have h2 := HG3.out; omega
                  have hbu' : RowKit.Below wE.heap.size wE wr := by rw [HG3.out]; exact hbu
                  have HMU : Hid (Mid w wr self side G gb C) := HMT.out.kept hbu'
                  have HGU : Hid (Got w10 self side t C (rn, raddr) i false g' M wr) := HGT.out.kept hbu'
                  have HRU : Hid (wr.cell? ⟨br, 0, none⟩ = some (.string rn) ∧ wr.cell? ⟨br, 1, none⟩ = some (.string raddr)) := ⟨cell_below HRB.out.1 hbu', cell_below HRB.out.2 hbu'⟩
                  have HOU : Hid (OwnE wr G3 (t + 1) (expd C (rn, raddr) i u)) := hownu
                  have HBU : Hid (RowKit.Below G3 wE wr) := hbu
                  have hel : (expd C (rn, raddr) i u).length = if u ≤ i then u else u + 1 := by
                    unfold expd
                    have := HCL.out
                    split
                    · rw [List.length_take]; omega
                    · rw [List.length_append, List.length_cons, List.length_drop, List.length_take, List.length_take]; omega
                  have hG3lt : G3 < wr.heap.size := by
                    obtain ⟨_, h2 | ⟨g0, c0, cur, h2, _, hblk, _⟩⟩ := hownu
                    · simp at h2
                    · simp at h2
                      obtain ⟨rfl, rfl⟩ := h2
                      exact (Array.getElem?_eq_some_iff.1 hblk).1
                  clear hownu hbu hbu'
                  by_cases hul : (u : Int) < t
                  · have hx : C[u]? = some (C[u]'(by have := HCL.out; omega)) := List.getElem?_eq_getElem _
                    generalize C[u]'(by have := HCL.out; omega) = x at hx
                    obtain ⟨x1, x2⟩ := HMU.out.before u x hx
                    have HX : Hid (C[u]? = some x) := hx
                    have hxm := List.mem_of_getElem? hx
                    have hsg1 : u < i → 0 < cf self side (rn, raddr) x := fun h => by have := HGU.out.2.2.1 u x h hx; rw [cf_neg self side x (rn, raddr)]; omega
                    have hsg2 : i ≤ u → cf self side (rn, raddr) x < 0 := fun h => by have h1 := HGU.out.2.2.2.1 u x h hx; have h2 := HNO.out x hxm; rw [cf_neg self side x (rn, raddr)]; omega
                    have hord : ∀ W, Calls Yba.prog 9 #[.string self, .int .i64 side, .string rn, .string (cut x.1)] W fun e w' => e = .returned (.int .i64 (cf self side (rn, raddr) x)) ∧ ∃ q, w' = W.drewN q := fun W => by
                      have := ord_any self rn (cut x.1) side W (by omega) (by omega) (cut_le _) hsd
                      unfold cf
                      rw [show cut (rn, raddr).1 = rn from HCUT.out]
                      exact this
                    have HORD : Hid _ := hord
                    generalize cf self side (rn, raddr) x = cv at *
                    have s1 := cell_below HMU.out.self_ (below_alloc wr (.cells #[.string (cut x.1), .string x.2] 26))
                    have s2 := cell_below HMU.out.side_ (below_alloc wr (.cells #[.string (cut x.1), .string x.2] 26))
                    have s3 := cell_below HRU.out.1 (below_alloc wr (.cells #[.string (cut x.1), .string x.2] 26))
                    clear hx hord
                    rcases Nat.lt_trichotomy u i with hlt | heq | hgt
                    · have hpl : decide (i < u) = false := decide_eq_false (by omega)
                      have hcv : ¬ cv < 0 := by have := hsg1 hlt; omega
                      rw [if_pos (by omega)] at hel
                      go_upto_region 37 with (go_at_call 9; refine Calls.mono (HORD.out _) ?_; rintro e w' ⟨rfl, qq, rfl⟩)
                      have v1 : ((wr.alloc (.cells #[.string (cut x.1), .string x.2] 26)).drewN qq).cell? ⟨wr.heap.size, 0, none⟩ = some (.string (cut x.1)) := cell_below (w := wr.alloc (.cells #[.string (cut x.1), .string x.2] 26)) (by simp) (below_drewN _ qq)
                      have v2 : ((wr.alloc (.cells #[.string (cut x.1), .string x.2] 26)).drewN qq).cell? ⟨wr.heap.size, 1, none⟩ = some (.string x.2) := cell_below (w := wr.alloc (.cells #[.string (cut x.1), .string x.2] 26)) (by simp) (below_drewN _ qq)
                      have r1 : ((wr.alloc (.cells #[.string (cut x.1), .string x.2] 26)).drewN qq).cell? ⟨br, 0, none⟩ = some (.string rn) := cell_below HRU.out.1 (below_trans (below_alloc wr _) (below_drewN _ qq))
                      have r2 : ((wr.alloc (.cells #[.string (cut x.1), .string x.2] 26)).drewN qq).cell? ⟨br, 1, none⟩ = some (.string raddr) := cell_below HRU.out.2 (below_trans (below_alloc wr _) (below_drewN _ qq))
                      have hov : OwnE ((wr.alloc (.cells #[.string (cut x.1), .string x.2] 26)).drewN qq) G3 (t + 1) (expd C (rn, raddr) i u) := HOU.out.below (below_trans (below_alloc wr _) (below_drewN _ qq))
                      unfold OwnE at hov
                      rw [hel] at hov
                      have HOV : Hid (((wr.alloc (.cells #[.string (cut x.1), .string x.2] 26)).drewN qq).ownsRow G3 26 2 (.slice (some ⟨G3, 0, none⟩) u (t + 1)) u (cellsL (expd C (rn, raddr) i u))) := hov
                      have HBV : Hid (RowKit.Below G3 wE ((wr.alloc (.cells #[.string (cut x.1), .string x.2] 26)).drewN qq)) := HBU.out.trans ((below_trans (below_alloc wr _) (below_drewN _ qq)).mono hG3w)
                      have hGv : G3 ≤ ((wr.alloc (.cells #[.string (cut x.1), .string x.2] 26)).drewN qq).heap.size := by have := (below_trans (below_alloc wr (.cells #[.string (cut x.1), .string x.2] 26)) (below_drewN _ qq)).size; omega
                      have hbr : br < wr.heap.size := World.block_lt_of_cell? _ _ HRU.out.1
                      clear hov s1 s2 s3 x1 x2
                      generalize ((wr.alloc (.cells #[.string (cut x.1), .string x.2] 26)).drewN qq) = Wv at *
                      generalize hbx : wr.heap.size = bx at *
                      go_wp2_with (at_builtin; refine wpList_append_fits _ rfl _ _ 24 rfl G3 26 i26 2 Yba.underlying24 hi26 hz1 G3 u (t + 1) (cellsL (expd C (rn, raddr) i u)) rfl (World.ownsRow.alloc HOV.out _) ⟨Wv.heap.size, 0, none⟩ 1 1 [.string (cut x.1), .string x.2] rfl rfl (World.news_of_block (cs := #[.string (cut x.1), .string x.2]) (t := 26) (fr := (0, 0)) (heap_alloc_new Wv _)) (by simp [Value.oneCell']) (by omega) ?_; intro W5 hown5 hgr5; have HO5 : Hid (W5.ownsRow G3 26 2 (.slice (some ⟨G3, 0, none⟩) (u + 1) (t + 1)) (u + 1) (cellsL (expd C (rn, raddr) i u) ++ [.string (cut x.1), .string x.2])) := hown5; have HB5 : Hid (RowKit.Below G3 wE W5) := (HBV.out.alloc hGv _).grown hgr5 (by simp; omega) (fun k hk => by cases hk; exact Nat.le_refl _); have HG5 : Hid ((Wv.alloc (.cells #[.string (cut x.1), .string x.2] 26)).grownBy W5 (some G3)) := hgr5; clear hown5 hgr5)
                      have hst := expd_step (r := (rn, raddr)) HX.out hlt
                      have hfo : OwnE W5 G3 (t + 1) (expd C (rn, raddr) i (u + 1)) := by rw [hst]; exact OwnE.snoc (by rw [hel]; exact HO5.out)
                      have hfl : (expd C (rn, raddr) i (u + 1)).length = u + 1 := by rw [hst, List.length_append, hel]; rfl
                      have HFO : Hid (OwnE W5 G3 (t + 1) (expd C (rn, raddr) i (u + 1)) ∧ (expd C (rn, raddr) i (u + 1)).length = u + 1) := ⟨hfo, hfl⟩
                      clear hfo hfl hst
                      go_roundw
                      case rel => exact ⟨u + 1, by omega, by go_num, by rw [show decide (i < u + 1) = false from decide_eq_false (by omega)], by rw [HFO.out.2], HFO.out.1, HB5.out⟩
                      case measure => simp [intOf]; omega
                    · subst heq
                      have hpl : decide (u < u) = false := decide_eq_false (by omega)
                      have hcv : cv < 0 := hsg2 (Nat.le_refl _)
                      rw [if_pos (Nat.le_refl _)] at hel
                      go_upto_region 35 with (go_at_call 9; refine Calls.mono (HORD.out _) ?_; rintro e w' ⟨rfl, qq, rfl⟩)
                      have v1 : ((wr.alloc (.cells #[.string (cut x.1), .string x.2] 26)).drewN qq).cell? ⟨wr.heap.size, 0, none⟩ = some (.string (cut x.1)) := cell_below (w := wr.alloc (.cells #[.string (cut x.1), .string x.2] 26)) (by simp) (below_drewN _ qq)
                      have v2 : ((wr.alloc (.cells #[.string (cut x.1), .string x.2] 26)).drewN qq).cell? ⟨wr.heap.size, 1, none⟩ = some (.string x.2) := cell_below (w := wr.alloc (.cells #[.string (cut x.1), .string x.2] 26)) (by simp) (below_drewN _ qq)
                      have r1 : ((wr.alloc (.cells #[.string (cut x.1), .string x.2] 26)).drewN qq).cell? ⟨br, 0, none⟩ = some (.string rn) := cell_below HRU.out.1 (below_trans (below_alloc wr _) (below_drewN _ qq))
                      have r2 : ((wr.alloc (.cells #[.string (cut x.1), .string x.2] 26)).drewN qq).cell? ⟨br, 1, none⟩ = some (.string raddr) := cell_below HRU.out.2 (below_trans (below_alloc wr _) (below_drewN _ qq))
                      have hov : OwnE ((wr.alloc (.cells #[.string (cut x.1), .string x.2] 26)).drewN qq) G3 (t + 1) (expd C (rn, raddr) u u) := HOU.out.below (below_trans (below_alloc wr _) (below_drewN _ qq))
                      unfold OwnE at hov
                      rw [hel] at hov
                      have HOV : Hid (((wr.alloc (.cells #[.string (cut x.1), .string x.2] 26)).drewN qq).ownsRow G3 26 2 (.slice (some ⟨G3, 0, none⟩) u (t + 1)) u (cellsL (expd C (rn, raddr) u u))) := hov
                      have HBV : Hid (RowKit.Below G3 wE ((wr.alloc (.cells #[.string (cut x.1), .string x.2] 26)).drewN qq)) := HBU.out.trans ((below_trans (below_alloc wr _) (below_drewN _ qq)).mono hG3w)
                      have hGv : G3 ≤ ((wr.alloc (.cells #[.string (cut x.1), .string x.2] 26)).drewN qq).heap.size := by have := (below_trans (below_alloc wr (.cells #[.string (cut x.1), .string x.2] 26)) (below_drewN _ qq)).size; omega
                      have hbr : br < wr.heap.size := World.block_lt_of_cell? _ _ HRU.out.1
                      clear hov s1 s2 s3 x1 x2
                      generalize ((wr.alloc (.cells #[.string (cut x.1), .string x.2] 26)).drewN qq) = Wv at *
                      generalize hbx : wr.heap.size = bx at *
                      go_upto_region 37 with (at_builtin; refine wpList_append_fits _ rfl _ _ 24 rfl G3 26 i26 2 Yba.underlying24 hi26 hz1 G3 u (t + 1) (cellsL (expd C (rn, raddr) u u)) rfl (World.ownsRow.alloc HOV.out _) ⟨Wv.heap.size, 0, none⟩ 1 1 [.string rn, .string raddr] rfl rfl (World.news_of_block (cs := #[.string rn, .string raddr]) (t := 26) (fr := (0, 0)) (heap_alloc_new Wv _)) (by simp [Value.oneCell']) (by omega) ?_; intro W5 hown5 hgr5; have HO5 : Hid (W5.ownsRow G3 26 2 (.slice (some ⟨G3, 0, none⟩) (u + 1) (t + 1)) (u + 1) (cellsL (expd C (rn, raddr) u u) ++ [.string rn, .string raddr])) := hown5; have HB5 : Hid (RowKit.Below G3 wE W5) := (HBV.out.alloc hGv _).grown hgr5 (by simp; omega) (fun k hk => by cases hk; exact Nat.le_refl _); have HG5 : Hid ((Wv.alloc (.cells #[.string rn, .string raddr] 26)).grownBy W5 (some G3)) := hgr5; clear hown5 hgr5)
                      have hbxG : bx ≠ G3 := by omega
                      have v1' := grown_cell HG5.out (cell_below v1 (below_alloc Wv _)) hbxG
                      have v2' := grown_cell HG5.out (cell_below v2 (below_alloc Wv _)) hbxG
                      have hG5 : G3 ≤ W5.heap.size := by have := HB5.out.size; have := HG3.out; omega
                      have ho5 : W5.ownsRow G3 26 2 (.slice (some ⟨G3, 0, none⟩) (u + 1) (t + 1)) (u + 1) (cellsL (expd C (rn, raddr) u u ++ [(rn, raddr)])) := by
                        have h := HO5.out
                        rw [cellsL_append]
                        simp only [cellsL, HCUT.out]
                        exact h
                      have HO6 : Hid (W5.ownsRow G3 26 2 (.slice (some ⟨G3, 0, none⟩) (u + 1) (t + 1)) (u + 1) (cellsL (expd C (rn, raddr) u u ++ [(rn, raddr)]))) := ho5
                      clear v1 v2 r1 r2 ho5
                      go_wp2_with (at_builtin; refine wpList_append_fits _ rfl _ _ 24 rfl G3 26 i26 2 Yba.underlying24 hi26 hz1 G3 (u + 1) (t + 1) (cellsL (expd C (rn, raddr) u u ++ [(rn, raddr)])) rfl (World.ownsRow.alloc HO6.out _) ⟨W5.heap.size, 0, none⟩ 1 1 [.string (cut x.1), .string x.2] rfl rfl (World.news_of_block (cs := #[.string (cut x.1), .string x.2]) (t := 26) (fr := (0, 0)) (heap_alloc_new W5 _)) (by simp [Value.oneCell']) (by omega) ?_; intro W7 hown5 hgr5; have HO7 : Hid (W7.ownsRow G3 26 2 (.slice (some ⟨G3, 0, none⟩) ((u + 1) + 1) (t + 1)) ((u + 1) + 1) (cellsL (expd C (rn, raddr) u u ++ [(rn, raddr)]) ++ [.string (cut x.1), .string x.2])) := hown5; have HB7 : Hid (RowKit.Below G3 wE W7) := (HB5.out.alloc hG5 _).grown hgr5 (by simp; omega) (fun k hk => by cases hk; exact Nat.le_refl _); have HG7 : Hid ((W5.alloc (.cells #[.string (cut x.1), .string x.2] 26)).grownBy W7 (some G3)) := hgr5; clear hown5 hgr5)
                      have hst := expd_put (r := (rn, raddr)) HX.out
                      have hle : (expd C (rn, raddr) u u ++ [(rn, raddr)]).length = u + 1 := by rw [List.length_append, hel]; rfl
                      have hfo : OwnE W7 G3 (t + 1) (expd C (rn, raddr) u (u + 1)) := by rw [hst]; exact OwnE.snoc (by rw [hle]; exact HO7.out)
                      have hfl : (expd C (rn, raddr) u (u + 1)).length = u + 1 + 1 := by rw [hst, List.length_append, hle]; rfl
                      have HFO : Hid (OwnE W7 G3 (t + 1) (expd C (rn, raddr) u (u + 1)) ∧ (expd C (rn, raddr) u (u + 1)).length = u + 1 + 1) := ⟨hfo, hfl⟩
                      clear hfo hfl hst hle
                      go_roundw
                      case rel => exact ⟨u + 1, by omega, by go_num, by rw [show decide (u < u + 1) = true from decide_eq_true (by omega)], by rw [HFO.out.2], HFO.out.1, HB7.out⟩
                      case measure => simp [intOf]; omega
                    · have hpl : decide (i < u) = true := decide_eq_true hgt
                      rw [if_neg (by omega)] at hel
                      rw [hel]
                      go_upto_region 37 with fail
                      have v1 : (wr.alloc (.cells #[.string (cut x.1), .string x.2] 26)).cell? ⟨wr.heap.size, 0, none⟩ = some (.string (cut x.1)) := cell_below (w := wr.alloc (.cells #[.string (cut x.1), .string x.2] 26)) (by simp) (Below.refl _ _)
                      have v2 : (wr.alloc (.cells #[.string (cut x.1), .string x.2] 26)).cell? ⟨wr.heap.size, 1, none⟩ = some (.string x.2) := cell_below (w := wr.alloc (.cells #[.string (cut x.1), .string x.2] 26)) (by simp) (Below.refl _ _)
                      have r1 : (wr.alloc (.cells #[.string (cut x.1), .string x.2] 26)).cell? ⟨br, 0, none⟩ = some (.string rn) := cell_below HRU.out.1 (below_trans (below_alloc wr _) (Below.refl _ _))
                      have r2 : (wr.alloc (.cells #[.string (cut x.1), .string x.2] 26)).cell? ⟨br, 1, none⟩ = some (.string raddr) := cell_below HRU.out.2 (below_trans (below_alloc wr _) (Below.refl _ _))
                      have hov : OwnE (wr.alloc (.cells #[.string (cut x.1), .string x.2] 26)) G3 (t + 1) (expd C (rn, raddr) i u) := HOU.out.below (below_trans (below_alloc wr _) (Below.refl _ _))
                      unfold OwnE at hov
                      rw [hel] at hov
                      have HOV : Hid ((wr.alloc (.cells #[.string (cut x.1), .string x.2] 26)).ownsRow G3 26 2 (.slice (some ⟨G3, 0, none⟩) (u + 1) (t + 1)) (u + 1) (cellsL (expd C (rn, raddr) i u))) := hov
                      have HBV : Hid (RowKit.Below G3 wE (wr.alloc (.cells #[.string (cut x.1), .string x.2] 26))) := HBU.out.trans ((below_trans (below_alloc wr _) (Below.refl _ _)).mono hG3w)
                      have hGv : G3 ≤ (wr.alloc (.cells #[.string (cut x.1), .string x.2] 26)).heap.size := by have := (below_trans (below_alloc wr (.cells #[.string (cut x.1), .string x.2] 26)) (Below.refl _ _)).size; omega
                      have hbr : br < wr.heap.size := World.block_lt_of_cell? _ _ HRU.out.1
                      clear hov s1 s2 s3 x1 x2
                      generalize (wr.alloc (.cells #[.string (cut x.1), .string x.2] 26)) = Wv at *
                      generalize hbx : wr.heap.size = bx at *
                      go_wp2_with (at_builtin; refine wpList_append_fits _ rfl _ _ 24 rfl G3 26 i26 2 Yba.underlying24 hi26 hz1 G3 (u + 1) (t + 1) (cellsL (expd C (rn, raddr) i u)) rfl (World.ownsRow.alloc HOV.out _) ⟨Wv.heap.size, 0, none⟩ 1 1 [.string (cut x.1), .string x.2] rfl rfl (World.news_of_block (cs := #[.string (cut x.1), .string x.2]) (t := 26) (fr := (0, 0)) (heap_alloc_new Wv _)) (by simp [Value.oneCell']) (by omega) ?_; intro W5 hown5 hgr5; have HO5 : Hid (W5.ownsRow G3 26 2 (.slice (some ⟨G3, 0, none⟩) ((u + 1) + 1) (t + 1)) ((u + 1) + 1) (cellsL (expd C (rn, raddr) i u) ++ [.string (cut x.1), .string x.2])) := hown5; have HB5 : Hid (RowKit.Below G3 wE W5) := (HBV.out.alloc hGv _).grown hgr5 (by simp; omega) (fun k hk => by cases hk; exact Nat.le_refl _); have HG5 : Hid ((Wv.alloc (.cells #[.string (cut x.1), .string x.2] 26)).grownBy W5 (some G3)) := hgr5; clear hown5 hgr5)
                      have hst := expd_more (r := (rn, raddr)) HX.out hgt
                      have hfo : OwnE W5 G3 (t + 1) (expd C (rn, raddr) i (u + 1)) := by rw [hst]; exact OwnE.snoc (by rw [hel]; exact HO5.out)
                      have hfl : (expd C (rn, raddr) i (u + 1)).length = u + 1 + 1 := by rw [hst, List.length_append, hel]; rfl
                      have HFO : Hid (OwnE W5 G3 (t + 1) (expd C (rn, raddr) i (u + 1)) ∧ (expd C (rn, raddr) i (u + 1)).length = u + 1 + 1) := ⟨hfo, hfl⟩
                      clear hfo hfl hst
                      go_roundw
                      case rel => exact ⟨u + 1, by omega, by go_num, by rw [show decide (i < u + 1) = true from decide_eq_true (by omega)], by rw [HFO.out.2], HFO.out.1, HB5.out⟩
                      case measure => simp [intOf]; omega
                  · obtain rfl : t = u := by omega
                    have hCt := HCL.out
                    have HBB : Hid (RowKit.Below w.heap.size w wr) := HMU.out.below
                    by_cases hit : i < t
                    · have hpl : decide (i < t) = true := decide_eq_true hit
                      rw [if_neg (by omega)] at hel
                      rw [hel]
                      have hox := HOU.out
                      have hxx := expd_end (C := C) (r := (rn, raddr)) (i := i) (by omega) (by omega)
                      rw [hCt] at hxx
                      rw [hxx] at hox
                      have HOX : Hid (OwnE wr G3 (t + 1) (C.take i ++ (rn, raddr) :: C.drop i)) := hox
                      clear hox hxx
                      have hXl : (C.take i ++ (rn, raddr) :: C.drop i).length = t + 1 := by
                        rw [List.length_append, List.length_cons, List.length_take, List.length_drop]
                        have := HCL.out
                        omega
                      have HXR : Hid (RefsAt wr G3 (C.take i ++ (rn, raddr) :: C.drop i)) := OwnE.refs HOX.out
                      have HMR : Hid (RefsAt wr g' M) := HGU.out.1
                      have HBF : Hid (RowKit.Below w.heap.size w wr) := HBB.out
                      by_cases h8 : (8 : Int) < (t : Int) + 1
                      · have hm8 : M = (C.take i ++ (rn, raddr) :: C.drop i).take 8 := by rw [HMM.out, show min (t + 1) 8 = 8 by omega]
                        have hml : ml = 8 := by have := HML.out; rw [hm8, List.length_take, hXl] at this; omega
                        have heq := equal_same ((C.take i ++ (rn, raddr) :: C.drop i).take 8) g' G3 c' (t + 1) wr (by rw [List.length_take]; omega) (by have := HMR.out; rw [hm8] at this; exact this) (HXR.out.take 8)
                        rw [show ((C.take i ++ (rn, raddr) :: C.drop i).take 8).length = 8 by rw [List.length_take, hXl]; omega] at heq
                        have HEQ : Hid _ := heq
                        have hc8 : 8 ≤ t + 1 := by omega
                        clear heq hm8 hXl
                        subst hml
                        go_wp2_with (go_at_call 14; refine Calls.mono HEQ.out ?_; rintro e w13 ⟨rfl, q13, rfl⟩)
                        go_ret
                        exact ⟨rfl, HBF.out.trans ((below_drewN _ q13).mono HBF.out.size)⟩
                      · have hm8 : M = (C.take i ++ (rn, raddr) :: C.drop i) := by rw [HMM.out, show min (t + 1) 8 = t + 1 by omega, List.take_of_length_le (by rw [hXl]; exact Nat.le_refl _)]
                        have hml : ml = t + 1 := by have := HML.out; rw [hm8, hXl] at this; omega
                        have heq := equal_same (C.take i ++ (rn, raddr) :: C.drop i) g' G3 c' (t + 1) wr (by rw [hXl]; omega) (by have := HMR.out; rw [hm8] at this; exact this) HXR.out
                        rw [hXl] at heq
                        have HEQ : Hid _ := heq
                        clear heq hm8 hXl
                        subst hml
                        go_wp2_with (go_at_call 14; refine Calls.mono HEQ.out ?_; rintro e w13 ⟨rfl, q13, rfl⟩)
                        go_ret
                        exact ⟨rfl, HBF.out.trans ((below_drewN _ q13).mono HBF.out.size)⟩
                    · obtain rfl : i = t := by omega
                      have hpl : decide (i < i) = false := decide_eq_false (by omega)
                      rw [if_pos (Nat.le_refl _)] at hel
                      rw [hel]
                      obtain ⟨r1, r2⟩ := HRU.out
                      have hox := HOU.out
                      unfold OwnE at hox
                      rw [hel] at hox
                      have HOV : Hid (wr.ownsRow G3 26 2 (.slice (some ⟨G3, 0, none⟩) i (i + 1)) i (cellsL (expd C (rn, raddr) i i))) := hox
                      clear hox
                      go_upto_region 41 with (at_builtin; refine wpList_append_fits _ rfl _ _ 24 rfl G3 26 i26 2 Yba.underlying24 hi26 hz1 G3 i (i + 1) (cellsL (expd C (rn, raddr) i i)) rfl (World.ownsRow.alloc HOV.out _) ⟨wr.heap.size, 0, none⟩ 1 1 [.string rn, .string raddr] rfl rfl (World.news_of_block (cs := #[.string rn, .string raddr]) (t := 26) (fr := (0, 0)) (heap_alloc_new wr _)) (by simp [Value.oneCell']) (by omega) ?_; intro W5 hown5 hgr5; have HO5 : Hid (W5.ownsRow G3 26 2 (.slice (some ⟨G3, 0, none⟩) (i + 1) (i + 1)) (i + 1) (cellsL (expd C (rn, raddr) i i) ++ [.string rn, .string raddr])) := hown5; have HB5 : Hid (RowKit.Below G3 wE W5) := (HBU.out.alloc hG3w _).grown hgr5 (by simp; omega) (fun k hk => by cases hk; exact Nat.le_refl _); have HG5 : Hid ((wr.alloc (.cells #[.string rn, .string raddr] 26)).grownBy W5 (some G3)) := hgr5; clear hown5 hgr5)
                      have hg5 := HGT.out.kept (w'' := W5) (by rw [HG3.out]; exact HB5.out)
                      have hm5 := HMT.out.kept (w9 := W5) (by rw [HG3.out]; exact HB5.out)
                      have hox : OwnE W5 G3 (i + 1) (C.take i ++ (rn, raddr) :: C.drop i) := by
                        have h1 := expd_end2 (C := C) (r := (rn, raddr))
                        rw [hCt] at h1
                        rw [← h1]
                        refine OwnE.snoc ?_
                        rw [hel, show cut (rn, raddr).1 = rn from HCUT.out]
                        exact HO5.out
                      have HOX : Hid (OwnE W5 G3 (i + 1) (C.take i ++ (rn, raddr) :: C.drop i)) := hox
                      have HGW : Hid (Got w10 self side i C (rn, raddr) i false g' M W5) := hg5
                      have HBB5 : Hid (RowKit.Below w.heap.size w W5) := hm5.below
                      clear hox hg5 hm5 r1 r2
                      have hXl : (C.take i ++ (rn, raddr) :: C.drop i).length = i + 1 := by
                        rw [List.length_append, List.length_cons, List.length_take, List.length_drop]
                        have := HCL.out
                        omega
                      have HXR : Hid (RefsAt W5 G3 (C.take i ++ (rn, raddr) :: C.drop i)) := OwnE.refs HOX.out
                      have HMR : Hid (RefsAt W5 g' M) := HGW.out.1
                      have HBF : Hid (RowKit.Below w.heap.size w W5) := HBB5.out
                      by_cases h8 : (8 : Int) < (i : Int) + 1
                      · have hm8 : M = (C.take i ++ (rn, raddr) :: C.drop i).take 8 := by rw [HMM.out, show min (i + 1) 8 = 8 by omega]
                        have hml : ml = 8 := by have := HML.out; rw [hm8, List.length_take, hXl] at this; omega
                        have heq := equal_same ((C.take i ++ (rn, raddr) :: C.drop i).take 8) g' G3 c' (i + 1) W5 (by rw [List.length_take]; omega) (by have := HMR.out; rw [hm8] at this; exact this) (HXR.out.take 8)
                        rw [show ((C.take i ++ (rn, raddr) :: C.drop i).take 8).length = 8 by rw [List.length_take, hXl]; omega] at heq
                        have HEQ : Hid _ := heq
                        have hc8 : 8 ≤ i + 1 := by omega
                        clear heq hm8 hXl
                        subst hml
                        go_wp2_with (go_at_call 14; refine Calls.mono HEQ.out ?_; rintro e w13 ⟨rfl, q13, rfl⟩)
                        go_ret
                        exact ⟨rfl, HBF.out.trans ((below_drewN _ q13).mono HBF.out.size)⟩
                      · have hm8 : M = (C.take i ++ (rn, raddr) :: C.drop i) := by rw [HMM.out, show min (i + 1) 8 = i + 1 by omega, List.take_of_length_le (by rw [hXl]; exact Nat.le_refl _)]
                        have hml : ml = i + 1 := by have := HML.out; rw [hm8, hXl] at this; omega
                        have heq := equal_same (C.take i ++ (rn, raddr) :: C.drop i) g' G3 c' (i + 1) W5 (by rw [hXl]; omega) (by have := HMR.out; rw [hm8] at this; exact this) HXR.out
                        rw [hXl] at heq
                        have HEQ : Hid _ := heq
                        clear heq hm8 hXl
                        subst hml
                        go_wp2_with (go_at_call 14; refine Calls.mono HEQ.out ?_; rintro e w13 ⟨rfl, q13, rfl⟩)
                        go_ret
                        exact ⟨rfl, HBF.out.trans ((below_drewN _ q13).mono HBF.out.size)⟩
end Go.Proofs.Ybulkgno
