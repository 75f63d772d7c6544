/-
  SEAT b6603246a: ydKeyNodeB1 (20), ydMappingB1 (9).
-/
import Derived.Test.Qxb6603246aClone
namespace Go.Proofs.Qxb6603246a
open Go.RowKit

/-- The node of a key, as far as it is read: its Kind, Tag, Text, and its Alias (nil, or a node whose Text is the key's AText). Both lie in blocks from 'lo' on. -/
structure NodeAt (w : World) (lo p : Nat) (k : Key) : Prop where
  ge : lo ≤ p
  n0 : w.cell? ⟨p, 0, none⟩ = some (.string k.kind)
  n2 : w.cell? ⟨p, 2, none⟩ = some (.string k.tag)
  n3 : w.cell? ⟨p, 3, none⟩ = some (.string k.text)
  n5 : (k.al = false ∧ w.cell? ⟨p, 5, none⟩ = some (.pointer none)) ∨ (k.al = true ∧ ∃ q, lo ≤ q ∧ w.cell? ⟨p, 5, none⟩ = some (.pointer (some ⟨q, 0, none⟩)) ∧ w.cell? ⟨q, 3, none⟩ = some (.string k.atext))

theorem NodeAt.later {w w' : World} {lo p : Nat} {k : Key} (h : NodeAt w lo p k) (hb : Below w.heap.size w w') : NodeAt w' lo p k := by
  refine ⟨h.ge, cell_later hb h.n0, cell_later hb h.n2, cell_later hb h.n3, ?_⟩
  rcases h.n5 with ⟨a, b⟩ | ⟨a, q, b0, b, c⟩
  · exact .inl ⟨a, cell_later hb b⟩
  · exact .inr ⟨a, q, b0, cell_later hb b, cell_later hb c⟩
theorem NodeAt.mono {w : World} {lo lo' p : Nat} {k : Key} (h : NodeAt w lo p k) (hl : lo' ≤ lo) : NodeAt w lo' p k := by
  refine ⟨Nat.le_trans hl h.ge, h.n0, h.n2, h.n3, ?_⟩
  rcases h.n5 with a | ⟨a, q, b0, b, c⟩
  · exact .inl a
  · exact .inr ⟨a, q, Nat.le_trans hl b0, b, c⟩
theorem NodeAt.grown {w w' : World} {lo p g : Nat} {k : Key} (h : NodeAt w lo p k) (hg : w.grownBy w' (some g)) (hl : g < lo) : NodeAt w' lo p k := by
  have hp := h.ge
  have ne : ∀ b, lo ≤ b → some b ≠ some g := fun b hb e => by cases e; omega
  refine ⟨hp, hg.cell h.n0 (ne p hp), hg.cell h.n2 (ne p hp), hg.cell h.n3 (ne p hp), ?_⟩
  rcases h.n5 with ⟨a, b⟩ | ⟨a, q, b0, b, c⟩
  · exact .inl ⟨a, hg.cell b (ne p hp)⟩
  · exact .inr ⟨a, q, b0, hg.cell b (ne p hp), hg.cell c (ne q b0)⟩

set_option maxHeartbeats 1000000 in
theorem node_any (k : Key) (w : World) :
    Calls Try.prog 20 #[k.val] w fun e w' => ∃ p, e = .returned (.pointer (some ⟨p, 0, none⟩)) ∧ NodeAt w' w.heap.size p k ∧ Below w.heap.size w w' := by
  cases h : k.al
  · go_enter Try.func20, Try.ntmps20
    go_wp2
    go_ret
    refine ⟨_, rfl, ⟨by omega, ?_, ?_, ?_, .inl ⟨h, ?_⟩⟩, ?_⟩
    · simp [go_sem]
    · simp [go_sem]
    · simp [go_sem]
    · simp [go_sem]
    · exact ((Below.refl _ _).alloc (Nat.le_refl _) _).alloc (by simp) _
  · go_enter Try.func20, Try.ntmps20
    go_wp2
    go_ret
    refine ⟨_, rfl, ⟨by omega, ?_, ?_, ?_, .inr ⟨h, w.heap.size + 2, by omega, ?_, ?_⟩⟩, ?_⟩
    · simp [go_sem]
    · simp [go_sem]
    · simp [go_sem]
    · simp [go_sem]
    · simp [go_sem]
    · exact (((Below.refl _ _).alloc (Nat.le_refl _) _).alloc (by simp) _).alloc (by simp; omega) _

theorem Try.info27 : (Try.prog.info? 27).map (fun i => (i.zero, i.size, i.bytes)) = some (some (.pointer none), 1, 8) := by kernel_rfl

abbrev ptr (p : Nat) : Value := .pointer (some ⟨p, 0, none⟩)

/-- What a mapping's content holds after k keys: the node of key j at place 2j. -/
def Holds (w : World) (g k : Nat) (xs : List Value) (Pt : Nat → Nat) (K : Nat → Key) : Prop := ∀ j, j < k → xs[2 * j]? = some (ptr (Pt j)) ∧ NodeAt w (g + 1) (Pt j) (K j)

theorem Holds.later {w w' : World} {g k : Nat} {xs : List Value} {Pt : Nat → Nat} {K : Nat → Key} (h : Holds w g k xs Pt K) (hb : Below w.heap.size w w') : Holds w' g k xs Pt K := fun j hj => ⟨(h j hj).1, (h j hj).2.later hb⟩

/-- a key's node appended -/
theorem Holds.key {wn w1 : World} {g k m p : Nat} {xs : List Value} {Pt : Nat → Nat} {K : Nat → Key} (h : Holds wn g k xs Pt K) (hn : NodeAt wn (g + 1) p (K k)) (hm : m = 2 * k) (hx : xs.length = m) (o : Obj) (hg : (wn.alloc o).grownBy w1 (some g)) :
    Holds w1 g (k + 1) (xs ++ [ptr p]) (fun j => if j = k then p else Pt j) K := by
  have hb : Below wn.heap.size wn (wn.alloc o) := (Below.refl _ _).alloc (Nat.le_refl _) o
  intro j hj
  by_cases e : j = k
  · subst e
    show (xs ++ [ptr p])[2 * j]? = some (ptr (if j = j then p else Pt j)) ∧ NodeAt w1 (g + 1) (if j = j then p else Pt j) (K j)
    rw [if_pos rfl, List.getElem?_append_right (by omega)]
    exact ⟨by simp [hx, hm], (hn.later hb).grown hg (by omega)⟩
  · show (xs ++ [ptr p])[2 * j]? = some (ptr (if j = k then p else Pt j)) ∧ NodeAt w1 (g + 1) (if j = k then p else Pt j) (K j)
    rw [if_neg e, List.getElem?_append_left (by omega)]
    exact ⟨(h j (by omega)).1, ((h j (by omega)).2.later hb).grown hg (by omega)⟩

/-- a value's node appended -/
theorem Holds.value {w1 w2 : World} {g k m : Nat} {xs : List Value} {v : Value} {Pt : Nat → Nat} {K : Nat → Key} (h : Holds w1 g k xs Pt K) (hm : 2 * k ≤ m + 1) (hx : xs.length = m) (o o2 : Obj) (hg : ((w1.alloc o).alloc o2).grownBy w2 (some g)) :
    Holds w2 g k (xs ++ [v]) Pt K := by
  have hb : Below w1.heap.size w1 ((w1.alloc o).alloc o2) := ((Below.refl _ _).alloc (Nat.le_refl _) o).alloc (by simp) o2
  intro j hj
  rw [List.getElem?_append_left (by omega)]
  exact ⟨(h j hj).1, ((h j hj).2.later hb).grown hg (by omega)⟩

/-- What ydMappingB1 hands back: the content, and the mapping's node. -/
def Mapped (w w' : World) (len : Nat) (K : Nat → Key) (e : Ending) : Prop :=
  ∃ (g S p : Nat) (Pt : Nat → Nat), e = .returned (.tuple #[.slice (some ⟨g, 0, none⟩) S S, ptr p]) ∧ (S = 2 * len ∨ S + 1 = 2 * len) ∧ w'.cell? ⟨p, 6, none⟩ = some (.slice (some ⟨g, 0, none⟩) S S) ∧
    (∀ j, j < len → w'.cell? ⟨g, 2 * j, none⟩ = some (ptr (Pt j)) ∧ NodeAt w' (g + 1) (Pt j) (K j)) ∧ Below w.heap.size w w'

theorem owns_below {w w' : World} {base g n cap e : Nat} {xs : List Value} (h : w.ownsRow base e 1 (.slice (some ⟨g, 0, none⟩) n cap) n xs) (hb : Below w.heap.size w w') : w'.ownsRow base e 1 (.slice (some ⟨g, 0, none⟩) n cap) n xs := by
  have hlt := (h.lt g rfl).2
  obtain ⟨h1, h2⟩ := h
  refine ⟨h1, ?_⟩
  rcases h2 with h2 | ⟨g', cap', cur, hv, hg, hh, r⟩
  · exact .inl h2
  · refine .inr ⟨g', cap', cur, hv, hg, ?_, r⟩
    simp only [Value.slice.injEq, Option.some.injEq, Addr.mk.injEq, and_true, true_and] at hv
    obtain ⟨rfl, _⟩ := hv
    rw [hb.block g hlt]
    exact hh

theorem cell_new2 (w : World) (o : Obj) (x : Value) : ∀ j u, [x][j]? = some u → ((w.alloc o).alloc (.cells #[x] 27)).cell? ((⟨w.heap.size + 1, 0, none⟩ : Addr).add j) = some u := by
  intro j u hj
  have := cell_one_new (w.alloc o) x 27 j u hj
  simpa using this

/-- The end: the mapping's node laid behind all. -/
theorem mapped_end {w wr : World} {len S g : Nat} {Pt : Nat → Nat} {K : Nat → Key} {x1 x2 x3 x4 x5 x6 x8 : Value} (hS1 : S ≤ 2 * len) (hS2 : 2 * len ≤ S + 1)
    (hc : ∀ j, j < len → wr.cell? ⟨g, 2 * j, none⟩ = some (ptr (Pt j)) ∧ NodeAt wr (g + 1) (Pt j) (K j)) (hb : Below w.heap.size w wr) :
    Mapped w (wr.alloc (.cells #[x1, x2, x3, x4, x5, x6, .slice (some ⟨g, 0, none⟩) S S, x8] 51)) len K (.returned (.tuple #[.slice (some ⟨g, 0, none⟩) S S, ptr wr.heap.size])) := by
  have hb2 : Below wr.heap.size wr (wr.alloc (.cells #[x1, x2, x3, x4, x5, x6, .slice (some ⟨g, 0, none⟩) S S, x8] 51)) := (Below.refl _ _).alloc (Nat.le_refl _) _
  refine ⟨g, S, wr.heap.size, Pt, rfl, by omega, by simp [go_sem], fun j hj => ⟨cell_later hb2 (hc j hj).1, (hc j hj).2.later hb2⟩, hb.trans (hb2.mono hb.size)⟩

set_option maxRecDepth 100000 in
set_option maxHeartbeats 4000000 in
theorem mapping_loop (ao : Option Addr) (len cap S : Nat) (cut : Bool) (K : Nat → Key) (w : World) (hK : Keys w ao len cap K) (hl : len ≤ 4096) (hS : cut = false ∧ S = 2 * len ∨ cut = true ∧ (len = 0 ∧ S = 0 ∨ 0 < len ∧ S + 1 = 2 * len)) :
    Calls Try.prog 9 #[.slice ao len cap, .bool cut] w fun e w' => Mapped w w' len K e := by
  obtain ⟨i0, hi, hz0, hz1, hz2⟩ := info_parts Try.info27
  have HK := hide hK
  clear hK
  have hS1 : S ≤ 2 * len := by omega
  have hS2 : 2 * len ≤ S + 1 := by omega
  rcases hS with ⟨rfl, hS⟩ | ⟨rfl, ⟨h0, hS⟩ | ⟨h0, hS⟩⟩
  · have hS' : (2 : Int) * (len : Int) ≤ (S : Int) := by omega
    have hS'' : (S : Int) ≤ (2 : Int) * (len : Int) := by omega
    clear hS
    go_enter Try.func9, Try.ntmps9
    go_wp2_with (at_make; refine wpList_make_own _ rfl _ _ 26 rfl w.heap.size 27 i0 (.pointer none) 1 Try.underlying26 hi hz0 hz1 _ _ _ S rfl rfl (by omega) ?b2a ?b3a (Nat.le_refl _) ?_)
    case b2a => rw [hz2]; omega
    case b3a => unfold maxLen; omega
    intro w0 hown0 hgrow0
    have HB0 : Hid (Below w.heap.size w w0) := (Below.refl _ _).grown hgrow0 (Nat.le_refl _) (fun k h => by cases h)
    have hsz0 : w.heap.size < w0.heap.size := (hown0.lt w.heap.size rfl).2
    have HO0 := hide hown0
    clear hown0 hgrow0
    go_wp2
    go_loopw [7, 8] (fun cv iv wr => ∃ (k m : Nat) (xs : List Value) (Pt : Nat → Nat), k ≤ len ∧ iv = .int .i64 k ∧ m ≤ S ∧ cv = .slice (some ⟨w.heap.size, 0, none⟩) m S ∧ Hid ((k < len → m = 2 * k) ∧ (k = len → m = S)) ∧
        Hid (wr.ownsRow w.heap.size 27 1 (.slice (some ⟨w.heap.size, 0, none⟩) m S) m xs) ∧ Hid (Holds wr w.heap.size k xs Pt K) ∧ Hid (Below w.heap.size w wr) ∧ w.heap.size < wr.heap.size)
      (fun _ iv _ => len - (intOf iv).toNat)
    case atStart => exact ⟨0, 0, [], fun _ => 0, Nat.zero_le _, rfl, Nat.zero_le _, rfl, (⟨fun _ => rfl, fun h => by omega⟩ : (0 < len → 0 = 2 * 0) ∧ (0 = len → 0 = S)), HO0, (fun j h => by omega : Holds w0 w.heap.size 0 [] (fun _ => 0) K), HB0, hsz0⟩
    case round =>
      obtain ⟨k, m, xs, Pt, hk, rfl, hmS, rfl, HM, HO, HH, HB, hsz⟩ := hrel
      clear HO0 HB0
      by_cases hlt : k < len
      · obtain ⟨b, off, rfl, hc⟩ := HK.out.at' (by omega)
        obtain ⟨c0, c1, c2, c3, c4, c5, c6⟩ := (hc k hlt).later HB.out
        have HM2 : Hid (m = 2 * k) := HM.out.1 hlt
        have hm1 : m + 1 ≤ S := by have := HM2.out; omega
        have hlx : xs.length = m := by have := HO.out.1; omega
        have HLX := hide hlx
        clear hc hlx
        go_wp2_with fail
        refine (node_any (K k) _).mono ?_
        rintro e wn ⟨p, rfl, hn, hbn⟩
        have hszn := hbn.size
        have HN : Hid (NodeAt wn (w.heap.size + 1) p (K k)) := hn.mono (by omega)
        have HHn := hide (HH.out.later hbn)
        have HOn : Hid (wn.ownsRow w.heap.size 27 1 (.slice (some ⟨w.heap.size, 0, none⟩) m S) m xs) := owns_below HO.out hbn
        have HBn : Hid (Below w.heap.size w wn) := HB.out.trans (hbn.mono HB.out.size)
        clear hn hbn HO HH HB c0 c1 c2 c3 c4 c5 c6
        go_wp2_with (at_builtin; refine wpList_append_fits _ rfl (.tmp 27) (.tmp 33) 26 rfl w.heap.size 27 i0 1 Try.underlying26 hi hz1 w.heap.size m S _ rfl (HOn.out.alloc _) ⟨wn.heap.size, 0, none⟩ 1 1 [ptr p] rfl rfl ?a1a ?a2a (by omega) ?_)
        case a1a => exact cell_one_new _ _ _
        case a2a => intro u hu; simp at hu; subst hu; rfl
        intro w1 own1 grow1
        have HH1 := hide (HHn.out.key HN.out HM2.out HLX.out _ grow1)
        have HO1 := hide own1
        have HB1 : Hid (Below w.heap.size w w1) := (HBn.out.alloc HBn.out.size _).grown grow1 (by simp; omega) (fun k hk => by cases hk; exact Nat.le_refl _)
        have hsz1 : w.heap.size < w1.heap.size := by have := grow1.size; simp at this; omega
        clear own1 grow1 HHn HOn HBn HN
        have hlt2 : ((m : Int) + 1) < 2 * (len : Int) := by have := HM2.out; omega
        go_wp2_with (at_builtin; refine wpList_append_fits _ rfl (.tmp 39) (.tmp 42) 26 rfl w.heap.size 27 i0 1 Try.underlying26 hi hz1 w.heap.size (m + 1) S _ rfl ((HO1.out.alloc _).alloc _) ⟨w1.heap.size + 1, 0, none⟩ 1 1 [ptr w1.heap.size] rfl rfl ?a3a ?a4a (by have := HM2.out; omega) ?_)
        case a3a => exact cell_new2 _ _ _
        case a4a => intro u hu; simp at hu; subst hu; rfl
        intro w2 own2 grow2
        have HH2 : Hid (Holds w2 w.heap.size (k + 1) (xs ++ [ptr p, ptr w1.heap.size]) (fun j => if j = k then p else Pt j) K) := by have := HH1.out.value (m := m + 1) (v := ptr w1.heap.size) (by have := HM2.out; omega) (by simp [HLX.out]) _ _ grow2; rw [List.append_assoc] at this; exact this
        have HO2 := hide own2
        have HB2 : Hid (Below w.heap.size w w2) := ((HB1.out.alloc HB1.out.size _).alloc (by simp; omega) _).grown grow2 (by simp; omega) (fun k hk => by cases hk; exact Nat.le_refl _)
        have hsz2 : w.heap.size < w2.heap.size := by have := grow2.size; simp at this; omega
        clear own2 grow2 HH1 HO1 HB1
        go_wp2
        go_roundw
        case rel => exact ⟨k + 1, m + 2, _, _, by omega, by go_num, by have := HM2.out; omega, rfl, (by have := HM2.out; exact ⟨fun _ => by omega, fun _ => by omega⟩ : (k + 1 < len → m + 2 = 2 * (k + 1)) ∧ (k + 1 = len → m + 2 = S)), HO2, HH2, HB2, hsz2⟩
        case measure => simp [intOf]; omega
      · obtain rfl : k = len := by omega
        obtain rfl : m = S := HM.out.2 rfl
        have HC : Hid (∀ j, j < k → wr.cell? ⟨w.heap.size, 2 * j, none⟩ = some (ptr (Pt j)) ∧ NodeAt wr (w.heap.size + 1) (Pt j) (K j)) := by
          intro j hj
          refine ⟨?_, (HH.out j hj).2⟩
          rw [HO.out.cellAt _ (by omega)]
          exact (HH.out j hj).1
        go_wp2
        go_ret2
        exact mapped_end hS1 hS2 HC.out HB.out
  · have hS' : (S : Int) ≤ 0 := by omega
    have hS'' : (len : Int) ≤ 0 := by omega
    clear hS h0
    go_enter Try.func9, Try.ntmps9
    go_wp2_with (at_make; refine wpList_make_own _ rfl _ _ 26 rfl w.heap.size 27 i0 (.pointer none) 1 Try.underlying26 hi hz0 hz1 _ _ _ S rfl rfl (by omega) ?b2b ?b3b (Nat.le_refl _) ?_)
    case b2b => rw [hz2]; omega
    case b3b => unfold maxLen; omega
    intro w0 hown0 hgrow0
    have HB0 : Hid (Below w.heap.size w w0) := (Below.refl _ _).grown hgrow0 (Nat.le_refl _) (fun k h => by cases h)
    have hsz0 : w.heap.size < w0.heap.size := (hown0.lt w.heap.size rfl).2
    have HO0 := hide hown0
    clear hown0 hgrow0
    go_wp2
    go_loopw [7, 8] (fun cv iv wr => ∃ (k m : Nat) (xs : List Value) (Pt : Nat → Nat), k ≤ len ∧ iv = .int .i64 k ∧ m ≤ S ∧ cv = .slice (some ⟨w.heap.size, 0, none⟩) m S ∧ Hid ((k < len → m = 2 * k) ∧ (k = len → m = S)) ∧
        Hid (wr.ownsRow w.heap.size 27 1 (.slice (some ⟨w.heap.size, 0, none⟩) m S) m xs) ∧ Hid (Holds wr w.heap.size k xs Pt K) ∧ Hid (Below w.heap.size w wr) ∧ w.heap.size < wr.heap.size)
      (fun _ iv _ => len - (intOf iv).toNat)
    case atStart => exact ⟨0, 0, [], fun _ => 0, Nat.zero_le _, rfl, Nat.zero_le _, rfl, (⟨fun _ => rfl, fun h => by omega⟩ : (0 < len → 0 = 2 * 0) ∧ (0 = len → 0 = S)), HO0, (fun j h => by omega : Holds w0 w.heap.size 0 [] (fun _ => 0) K), HB0, hsz0⟩
    case round =>
      obtain ⟨k, m, xs, Pt, hk, rfl, hmS, rfl, HM, HO, HH, HB, hsz⟩ := hrel
      clear HO0 HB0
      by_cases hlt : k < len
      · exact absurd hlt (by omega)
      · obtain rfl : k = len := by omega
        obtain rfl : m = S := HM.out.2 rfl
        have HC : Hid (∀ j, j < k → wr.cell? ⟨w.heap.size, 2 * j, none⟩ = some (ptr (Pt j)) ∧ NodeAt wr (w.heap.size + 1) (Pt j) (K j)) := by
          intro j hj
          refine ⟨?_, (HH.out j hj).2⟩
          rw [HO.out.cellAt _ (by omega)]
          exact (HH.out j hj).1
        go_wp2
        go_ret2
        exact mapped_end hS1 hS2 HC.out HB.out
  · have hS' : (2 : Int) * (len : Int) ≤ (S : Int) + 1 := by omega
    have hS'' : (S : Int) + 1 ≤ (2 : Int) * (len : Int) := by omega
    clear hS
    go_enter Try.func9, Try.ntmps9
    go_wp2_with (at_make; refine wpList_make_own _ rfl _ _ 26 rfl w.heap.size 27 i0 (.pointer none) 1 Try.underlying26 hi hz0 hz1 _ _ _ S rfl rfl (by omega) ?b2c ?b3c (Nat.le_refl _) ?_)
    case b2c => rw [hz2]; omega
    case b3c => unfold maxLen; omega
    intro w0 hown0 hgrow0
    have HB0 : Hid (Below w.heap.size w w0) := (Below.refl _ _).grown hgrow0 (Nat.le_refl _) (fun k h => by cases h)
    have hsz0 : w.heap.size < w0.heap.size := (hown0.lt w.heap.size rfl).2
    have HO0 := hide hown0
    clear hown0 hgrow0
    go_wp2
    go_loopw [7, 8] (fun cv iv wr => ∃ (k m : Nat) (xs : List Value) (Pt : Nat → Nat), k ≤ len ∧ iv = .int .i64 k ∧ m ≤ S ∧ cv = .slice (some ⟨w.heap.size, 0, none⟩) m S ∧ Hid ((k < len → m = 2 * k) ∧ (k = len → m = S)) ∧
        Hid (wr.ownsRow w.heap.size 27 1 (.slice (some ⟨w.heap.size, 0, none⟩) m S) m xs) ∧ Hid (Holds wr w.heap.size k xs Pt K) ∧ Hid (Below w.heap.size w wr) ∧ w.heap.size < wr.heap.size)
      (fun _ iv _ => len - (intOf iv).toNat)
    case atStart => exact ⟨0, 0, [], fun _ => 0, Nat.zero_le _, rfl, Nat.zero_le _, rfl, (⟨fun _ => rfl, fun h => by omega⟩ : (0 < len → 0 = 2 * 0) ∧ (0 = len → 0 = S)), HO0, (fun j h => by omega : Holds w0 w.heap.size 0 [] (fun _ => 0) K), HB0, hsz0⟩
    case round =>
      obtain ⟨k, m, xs, Pt, hk, rfl, hmS, rfl, HM, HO, HH, HB, hsz⟩ := hrel
      clear HO0 HB0
      by_cases hlt : k < len
      · obtain ⟨b, off, rfl, hc⟩ := HK.out.at' (by omega)
        obtain ⟨c0, c1, c2, c3, c4, c5, c6⟩ := (hc k hlt).later HB.out
        have HM2 : Hid (m = 2 * k) := HM.out.1 hlt
        have hm1 : m + 1 ≤ S := by have := HM2.out; omega
        have hlx : xs.length = m := by have := HO.out.1; omega
        have HLX := hide hlx
        clear hc hlx
        go_wp2_with fail
        refine (node_any (K k) _).mono ?_
        rintro e wn ⟨p, rfl, hn, hbn⟩
        have hszn := hbn.size
        have HN : Hid (NodeAt wn (w.heap.size + 1) p (K k)) := hn.mono (by omega)
        have HHn := hide (HH.out.later hbn)
        have HOn : Hid (wn.ownsRow w.heap.size 27 1 (.slice (some ⟨w.heap.size, 0, none⟩) m S) m xs) := owns_below HO.out hbn
        have HBn : Hid (Below w.heap.size w wn) := HB.out.trans (hbn.mono HB.out.size)
        clear hn hbn HO HH HB c0 c1 c2 c3 c4 c5 c6
        go_wp2_with (at_builtin; refine wpList_append_fits _ rfl (.tmp 27) (.tmp 33) 26 rfl w.heap.size 27 i0 1 Try.underlying26 hi hz1 w.heap.size m S _ rfl (HOn.out.alloc _) ⟨wn.heap.size, 0, none⟩ 1 1 [ptr p] rfl rfl ?a1c ?a2c (by omega) ?_)
        case a1c => exact cell_one_new _ _ _
        case a2c => intro u hu; simp at hu; subst hu; rfl
        intro w1 own1 grow1
        have HH1 := hide (HHn.out.key HN.out HM2.out HLX.out _ grow1)
        have HO1 := hide own1
        have HB1 : Hid (Below w.heap.size w w1) := (HBn.out.alloc HBn.out.size _).grown grow1 (by simp; omega) (fun k hk => by cases hk; exact Nat.le_refl _)
        have hsz1 : w.heap.size < w1.heap.size := by have := grow1.size; simp at this; omega
        clear own1 grow1 HHn HOn HBn HN
        by_cases hl2 : k + 1 < len
        · have hlt2 : ((m : Int) + 1) < 2 * (len : Int) - 1 := by have := HM2.out; omega
          go_wp2_with (at_builtin; refine wpList_append_fits _ rfl (.tmp 39) (.tmp 42) 26 rfl w.heap.size 27 i0 1 Try.underlying26 hi hz1 w.heap.size (m + 1) S _ rfl ((HO1.out.alloc _).alloc _) ⟨w1.heap.size + 1, 0, none⟩ 1 1 [ptr w1.heap.size] rfl rfl ?a3c ?a4c (by have := HM2.out; omega) ?_)
          case a3c => exact cell_new2 _ _ _
          case a4c => intro u hu; simp at hu; subst hu; rfl
          intro w2 own2 grow2
          have HH2 : Hid (Holds w2 w.heap.size (k + 1) (xs ++ [ptr p, ptr w1.heap.size]) (fun j => if j = k then p else Pt j) K) := by have := HH1.out.value (m := m + 1) (v := ptr w1.heap.size) (by have := HM2.out; omega) (by simp [HLX.out]) _ _ grow2; rw [List.append_assoc] at this; exact this
          have HO2 := hide own2
          have HB2 : Hid (Below w.heap.size w w2) := ((HB1.out.alloc HB1.out.size _).alloc (by simp; omega) _).grown grow2 (by simp; omega) (fun k hk => by cases hk; exact Nat.le_refl _)
          have hsz2 : w.heap.size < w2.heap.size := by have := grow2.size; simp at this; omega
          clear own2 grow2 HH1 HO1 HB1
          go_wp2
          go_roundw
          case rel => exact ⟨k + 1, m + 2, _, _, by omega, by go_num, by have := HM2.out; omega, rfl, (by have := HM2.out; exact ⟨fun _ => by omega, fun _ => by omega⟩ : (k + 1 < len → m + 2 = 2 * (k + 1)) ∧ (k + 1 = len → m + 2 = S)), HO2, HH2, HB2, hsz2⟩
          case measure => simp [intOf]; omega
        · have hge2 : 2 * (len : Int) - 1 ≤ ((m : Int) + 1) := by have := HM2.out; omega
          go_wp2
          go_roundw
          case rel => exact ⟨k + 1, m + 1, _, _, by omega, by go_num, by omega, rfl, (by have := HM2.out; exact ⟨fun _ => by omega, fun _ => by omega⟩ : (k + 1 < len → m + 1 = 2 * (k + 1)) ∧ (k + 1 = len → m + 1 = S)), HO1, HH1, HB1, hsz1⟩
          case measure => simp [intOf]; omega
      · obtain rfl : k = len := by omega
        obtain rfl : m = S := HM.out.2 rfl
        have HC : Hid (∀ j, j < k → wr.cell? ⟨w.heap.size, 2 * j, none⟩ = some (ptr (Pt j)) ∧ NodeAt wr (w.heap.size + 1) (Pt j) (K j)) := by
          intro j hj
          refine ⟨?_, (HH.out j hj).2⟩
          rw [HO.out.cellAt _ (by omega)]
          exact (HH.out j hj).1
        go_wp2
        go_ret2
        exact mapped_end hS1 hS2 HC.out HB.out

end Go.Proofs.Qxb6603246a
