/-
  SEAT b6603246a: ydFirstRepeatB1 (11).
-/
import Derived.Test.Qxb6603246aOrder
import Derived.Test.Qxb6603246aSame
import Derived.Deep.QuietTactic
import Derived.BigQuiet
namespace Go.Proofs.Qxb6603246a
open Go.RowKit

theorem Try.info3 : (Try.prog.info? 3).map (fun i => (i.zero, i.size, i.bytes)) = some (some (.int .i64 0), 1, 8) := by kernel_rfl

/-- The order, as cells. -/
def rowOf (n : Nat) (O : Nat → Nat) : List Value := (List.range n).map (fun a => .int .i64 (O a : Int))
theorem rowOf_get {n a : Nat} (O : Nat → Nat) (h : a < n) : (rowOf n O)[a]? = some (.int .i64 (O a : Int)) := by
  simp [rowOf, h]
theorem rowOf_set {n j : Nat} (O : Nat → Nat) (v : Nat) : (rowOf n O).set j (.int .i64 (v : Int)) = rowOf n (upd O j v) := by
  apply List.ext_getElem?
  intro a
  rw [List.getElem?_set]
  by_cases h : a < n
  · rw [rowOf_get _ h]
    by_cases e : j = a
    · subst e; simp [rowOf, h, upd]
    · rw [if_neg e, rowOf_get _ h]
      simp [upd, Ne.symm e]
  · have h1 : (rowOf n (upd O j v))[a]? = none := by simp [rowOf]; omega
    have h2 : (rowOf n O)[a]? = none := by simp [rowOf]; omega
    rw [h1, h2]
    by_cases e : j = a
    · subst e; simp [rowOf, h]
    · rw [if_neg e]
theorem rowOf_zero (n : Nat) : rowOf n (fun _ => 0) = (madeCells #[Value.int .i64 0] n).toList := by
  rw [toList_madeCells_one]
  apply List.ext_getElem?
  intro a
  by_cases h : a < n
  · rw [rowOf_get _ h]; simp [h]
  · simp [rowOf, h]

/-- The order lies in block g. -/
def OrderIn (w : World) (g n : Nat) (O : Nat → Nat) : Prop := w.ownsRow g 3 1 (.slice (some ⟨g, 0, none⟩) n n) n (rowOf n O)
theorem OrderIn.cell {w : World} {g n a : Nat} {O : Nat → Nat} (h : OrderIn w g n O) (ha : a < n) : w.cell? ⟨g, a, none⟩ = some (.int .i64 (O a : Int)) := by
  rw [World.ownsRow.cellAt h a (by omega), rowOf_get _ ha]
theorem OrderIn.free {w : World} {g n : Nat} {O : Nat → Nat} (h : OrderIn w g n O) (a : Nat) : w.frozen? ⟨g, a, none⟩ = false := World.ownsRow.frozenAt h a
theorem OrderIn.later {w w' : World} {g n : Nat} {O : Nat → Nat} (h : OrderIn w g n O) (hb : Below w.heap.size w w') : OrderIn w' g n O := owns_below h hb
theorem OrderIn.set {w : World} {g n j v : Nat} {O : Nat → Nat} (h : OrderIn w g n O) : OrderIn (w.setCell ⟨g, j, none⟩ (.int .i64 (v : Int))) g n (upd O j v) := by
  have := (World.ownsRow.stored h j (.int .i64 (v : Int))).1
  rw [rowOf_set] at this
  exact this

/-- What ydFirstRepeatB1 hands back. -/
def Found (K : Nat → Key) (len : Nat) (e : Ending) : Prop :=
  (NoRep (ids K) len ∧ e = .returned (.tuple #[.int .i64 (-1), .int .i64 (-1)])) ∨ ∃ f q : Nat, IsRep (ids K) len f q ∧ e = .returned (.tuple #[.int .i64 f, .int .i64 q])

theorem keep2 {w W W' : World} {A B : Addr} {x y : Value} (h : Below w.heap.size w W ∧ W.cell? A = some x ∧ W.cell? B = some y) (hb : Below W.heap.size W W') : Below w.heap.size w W' ∧ W'.cell? A = some x ∧ W'.cell? B = some y :=
  ⟨h.1.trans (hb.mono h.1.size), cell_later hb h.2.1, cell_later hb h.2.2⟩

/-- What is held while two keys of the order are compared. -/
abbrev Both (w W : World) (g s e b o1 o2 x y : Nat) (k l : Key) : Prop := Below w.heap.size w W ∧ W.cell? ⟨g, s, none⟩ = some (.int .i64 (x : Int)) ∧ W.cell? ⟨g, e, none⟩ = some (.int .i64 (y : Int)) ∧
  (W.cell? ⟨b, o1, none⟩ = some (.string k.kind) ∧ W.cell? ⟨b, o1 + 1, none⟩ = some (.string k.tag) ∧ W.cell? ⟨b, o1 + 2, none⟩ = some (.string k.text) ∧ W.cell? ⟨b, o1 + 3, none⟩ = some (.bool k.al) ∧ W.cell? ⟨b, o1 + 4, none⟩ = some (.string k.akind) ∧ W.cell? ⟨b, o1 + 5, none⟩ = some (.string k.atag) ∧ W.cell? ⟨b, o1 + 6, none⟩ = some (.string k.atext)) ∧
  (W.cell? ⟨b, o2, none⟩ = some (.string l.kind) ∧ W.cell? ⟨b, o2 + 1, none⟩ = some (.string l.tag) ∧ W.cell? ⟨b, o2 + 2, none⟩ = some (.string l.text) ∧ W.cell? ⟨b, o2 + 3, none⟩ = some (.bool l.al) ∧ W.cell? ⟨b, o2 + 4, none⟩ = some (.string l.akind) ∧ W.cell? ⟨b, o2 + 5, none⟩ = some (.string l.atag) ∧ W.cell? ⟨b, o2 + 6, none⟩ = some (.string l.atext))

theorem Both.later {w W W' : World} {g s e b o1 o2 x y : Nat} {k l : Key} (h : Both w W g s e b o1 o2 x y k l) (hb : Below W.heap.size W W') : Both w W' g s e b o1 o2 x y k l := by
  obtain ⟨h1, h2, h3, ⟨a0, a1, a2, a3, a4, a5, a6⟩, ⟨b0, b1, b2, b3, b4, b5, b6⟩⟩ := h
  exact ⟨h1.trans (hb.mono h1.size), cell_later hb h2, cell_later hb h3, ⟨cell_later hb a0, cell_later hb a1, cell_later hb a2, cell_later hb a3, cell_later hb a4, cell_later hb a5, cell_later hb a6⟩, ⟨cell_later hb b0, cell_later hb b1, cell_later hb b2, cell_later hb b3, cell_later hb b4, cell_later hb b5, cell_later hb b6⟩⟩
theorem Both.mk' {w : World} {g s e b o1 o2 x y : Nat} {k l : Key} (h2 : w.cell? ⟨g, s, none⟩ = some (.int .i64 (x : Int))) (h3 : w.cell? ⟨g, e, none⟩ = some (.int .i64 (y : Int))) (hk : KeyAt w b o1 k) (hl : KeyAt w b o2 l) : Both w w.drew g s e b o1 o2 x y k l :=
  ⟨(Below.refl _ _).drew, h2, h3, ⟨hk.c0, hk.c1, hk.c2, hk.c3, hk.c4, hk.c5, hk.c6⟩, ⟨hl.c0, hl.c1, hl.c2, hl.c3, hl.c4, hl.c5, hl.c6⟩⟩

set_option maxRecDepth 100000 in
set_option maxHeartbeats 8000000 in
theorem first_any (ao : Option Addr) (n cap : Nat) (K : Nat → Key) (w : World) (hK : Keys w ao n cap K) (hl : n ≤ 4096) :
    Calls Try.prog 11 #[.slice ao n cap] w fun e w' => Found K n e ∧ Below w.heap.size w w' := by
  obtain ⟨i0, hi, hz0, hz1, hz2⟩ := info_parts Try.info3
  have HK := hide hK
  clear hK
  go_enter Try.func11, Try.ntmps11
  go_wp2_with (at_make; refine wpList_make_full _ rfl _ _ 52 rfl w.heap.size 3 i0 (.int .i64 0) 1 Try.underlying52 hi hz0 hz1 _ _ _ _ n rfl rfl rfl rfl ?b2 ?b3 (Nat.le_refl _) ?_)
  case b2 => rw [hz2]; omega
  case b3 => unfold maxLen; omega
  intro w0 hown0 hgrow0
  rw [← rowOf_zero n] at hown0
  have HO0 : Hid (OrderIn w0 w.heap.size n (fun _ => 0)) := hown0
  have HB0 : Hid (Below w.heap.size w w0) := (Below.refl _ _).grown hgrow0 (Nat.le_refl _) (fun k h => by cases h)
  clear hown0 hgrow0
  go_wp2
  go_loopw [6] (fun iv wr => ∃ (k : Nat) (O : Nat → Nat), k ≤ n ∧ iv = .int .i64 k ∧ Hid (∀ a, a < k → O a = a) ∧ Hid (OrderIn wr w.heap.size n O) ∧ Hid (Below w.heap.size w wr)) (fun iv _ => n - (intOf iv).toNat)
  case atStart => exact ⟨0, _, Nat.zero_le _, rfl, (fun a h => by omega : ∀ a, a < 0 → _), HO0, HB0⟩
  case round =>
    obtain ⟨k, O, hk, rfl, HI, HO, HB⟩ := hrel
    clear HO0 HB0
    by_cases hlt : k < n
    · have c0 := HO.out.cell hlt
      have f0 := HO.out.free k
      have HO2 := hide (HO.out.set (j := k) (v := k))
      have HI2 : Hid (∀ a, a < k + 1 → upd O k k a = a) := by
        intro a ha
        unfold upd
        by_cases e : a = k
        · rw [if_pos e, e]
        · rw [if_neg e]; exact HI.out a (by omega)
      have HB2 : Hid (Below w.heap.size w (wr.setCell ⟨w.heap.size, k, none⟩ (.int .i64 (k : Int)))) := HB.out.setCell (p := ⟨w.heap.size, k, none⟩) (Nat.le_refl _) _
      go_wp2
      go_roundw
      case rel => exact ⟨k + 1, _, by omega, by go_num, HI2, HO2, HB2⟩
      case measure => simp [intOf]; omega
    · obtain rfl : n = k := by omega
      have HP : Hid (Perm O n) := perm_id HI.out
      have HS : Hid (Sorted K O 1) := fun a b h1 h2 => by omega
      obtain ⟨w1, rfl⟩ : ∃ w1, w1 = wr := ⟨_, rfl⟩
      clear HI hk hlt
      go_wp2
      go_loopg [7] n (fun gn iv wr => ∃ (i : Nat) (O : Nat → Nat), iv = .int .i64 i ∧ i ≤ n + 1 ∧ Hid (i + gn = n + 1) ∧ Hid (OrderIn wr w.heap.size n O) ∧ Hid (Perm O n) ∧ Hid (Sorted K O i) ∧ Hid (Below w.heap.size w wr))
      case atStart => exact ⟨1, O, rfl, by omega, (by omega : 1 + n = n + 1), HO, HP, HS, HB⟩
      case round =>
        clear HO HP HS HB
        obtain ⟨i, O, rfl, hin, HG, HO, HP, HS, HB⟩ := hrel
        by_cases hlt : i < n
        · obtain ⟨w2, rfl⟩ : ∃ w2, w2 = wr := ⟨_, rfl⟩
          obtain ⟨g2, rfl⟩ : ∃ g2, g2 = gk := ⟨_, rfl⟩
          have HH : Hid (Hole K O i i) := HS.out.hole
          clear HS
          go_wp2
          go_loopg [8] i (fun gn jv wr => ∃ (O : Nat → Nat), jv = .int .i64 gn ∧ gn ≤ i ∧ Hid (OrderIn wr w.heap.size n O) ∧ Hid (Perm O n) ∧ Hid (Hole K O i gn) ∧ Hid (Below w.heap.size w wr))
          case atStart => exact ⟨O, rfl, Nat.le_refl _, HO, HP, HH, HB⟩
          case round =>
            clear HO HP HH HB
            obtain ⟨O, rfl, hji, HO, HP, HH, HB⟩ := hrel
            obtain ⟨j, rfl⟩ : ∃ j, j = gk := ⟨_, rfl⟩
            by_cases hj : 0 < j
            · obtain ⟨jp, HJp⟩ : ∃ jp, Hid (j = jp + 1) := ⟨j - 1, (by omega : j = j - 1 + 1)⟩
              have hj' : (0 : Int) < (j : Int) := by omega
              have hjn : (j : Int) < (n : Int) := by omega
              have hpn : (jp : Int) < (n : Int) := by have := HJp.out; omega
              have e5 : (j : Int) - 1 = (jp : Int) := by have := HJp.out; omega
              have i4 : IntKind.i64.wrap (jp : Int) = (jp : Int) := by rw [IntKind.wrap_i64]; omega
              have i5 : IntKind.i64.wrap ((j : Int) - 1) = (jp : Int) := by rw [e5]; exact i4
              have c0 := HO.out.cell (a := j) (by omega)
              have c1 := HO.out.cell (a := jp) (by omega)
              have hx := HP.out.lt j (by omega)
              have hy := HP.out.lt jp (by omega)
              have C1 : Hid (∀ W, Below w.heap.size w W → Calls Try.prog 22 #[.slice ao n cap, .int .i64 (O j : Int), .int .i64 (O jp : Int)] W fun e w' => e = .returned (.bool (lessB (K (O j)) (K (O jp)) (O j) (O jp))) ∧ Below W.heap.size W w') := fun W hW => less_any ao n cap K _ _ W (HK.out.later hW) hx hy hl
              go_upto_region 11 with fail
              go_cut [48] from 34 to 67 (fun v wx => v = .bool (lessB (K (O j)) (K (O jp)) (O j) (O jp)) ∧ Hid (Below wr.heap.size wr wx))
              case first =>
                go_region_held3 (fun W => Below wr.heap.size wr W ∧ W.cell? ⟨w.heap.size, j, none⟩ = some (.int .i64 (O j : Int)) ∧ W.cell? ⟨w.heap.size, jp, none⟩ = some (.int .i64 (O jp : Int))) (first | exact ⟨(Below.refl _ _).drew, c0, c1⟩ | exact keep2 (by assumption) (by assumption))
                  (first
                  | (go_at_call 22; refine (C1.out _ ?_).mono ?_; (first | exact HB.out.drew | exact HB.out.trans ((And.left (by assumption)).mono HB.out.size)); rintro e w' ⟨rfl, hb'⟩))
                all_goals
                  go_wp2
                  go_meet
                  case rel => exact ⟨rfl, (And.left (by assumption))⟩
              case rest =>
                obtain ⟨rfl, HBc⟩ := hcut
                have HOc := hide (HO.out.later HBc.out)
                have HBw : Hid (Below w.heap.size w wc) := HB.out.trans (HBc.out.mono HB.out.size)
                clear C1 c0 c1 HO HBc i4 i5 hx hy
                have hjp : jp < j := by have := HJp.out; omega
                cases hless : lessB (K (O j)) (K (O jp)) (O j) (O jp)
                · have HS2 : Hid (Sorted K O (i + 1)) := HH.out.done HP.out hlt hji (fun _ h => by
                    have e : j - 1 = jp := by omega
                    rw [e] at h
                    unfold Lt at h
                    rw [hless] at h
                    cases h)
                  clear hless e5
                  go_wp2
                  go_roundg (g2 - 1)
                  case measure => have := HG.out; omega
                  case rel => exact ⟨i + 1, O, by go_num, by omega, (by have := HG.out; omega : i + 1 + (g2 - 1) = n + 1), HOc, HP, HS2, HBw⟩
                · have e : j - 1 = jp := by omega
                  have esw : swp O j = upd (upd O j (O jp)) jp (O j) := by unfold swp; rw [e]
                  have HO2 : Hid (OrderIn ((wc.setCell ⟨w.heap.size, j, none⟩ (.int .i64 (O jp : Int))).setCell ⟨w.heap.size, jp, none⟩ (.int .i64 (O j : Int))) w.heap.size n (swp O j)) := by
                    rw [esw]; exact (HOc.out.set (j := j) (v := O jp)).set (j := jp) (v := O j)
                  have HP2 : Hid (Perm (swp O j) n) := HP.out.swap hj (by omega)
                  have HH2 : Hid (Hole K (swp O j) i jp) := by
                    have := HH.out.step hj hji (by rw [e]; exact hless)
                    rw [e] at this; exact this
                  have HB2 : Hid (Below w.heap.size w ((wc.setCell ⟨w.heap.size, j, none⟩ (.int .i64 (O jp : Int))).setCell ⟨w.heap.size, jp, none⟩ (.int .i64 (O j : Int)))) := (HBw.out.setCell (p := ⟨w.heap.size, j, none⟩) (Nat.le_refl _) _).setCell (p := ⟨w.heap.size, jp, none⟩) (Nat.le_refl _) _
                  have c0 := HOc.out.cell (a := j) (by omega)
                  have c1 := HOc.out.cell (a := jp) (by omega)
                  have f0 := HOc.out.free j
                  have f1 := HOc.out.free jp
                  clear e esw hless HOc
                  go_wp2
                  go_roundg jp
                  case measure => omega
                  case rel => exact ⟨swp O j, rfl, by omega, HO2, HP2, HH2, HB2⟩
            · have hd : decide ((0 : Int) < (j : Int)) = false := by simp; omega
              have HS2 : Hid (Sorted K O (i + 1)) := HH.out.done HP.out hlt hji (fun h => absurd h hj)
              go_wp2
              go_quiet (fail)
              go_wp2
              go_roundg (g2 - 1)
              case measure => have := HG.out; omega
              case rel => exact ⟨i + 1, O, by go_num, by omega, (by have := HG.out; omega : i + 1 + (g2 - 1) = n + 1), HO, HP, HS2, below_drewN HB.out _⟩
        · have HSn : Hid (Sorted K O n) := fun a b h1 h2 => HS.out a b h1 (by omega)
          obtain ⟨w2, rfl⟩ : ∃ w2, w2 = wr := ⟨_, rfl⟩
          clear HS HG
          go_wp2
          go_loopg [10, 11, 12] n (fun gn bf bs sv wr => ∃ (s : Nat) (f q : Int), bf = .int .i64 f ∧ bs = .int .i64 q ∧ sv = .int .i64 s ∧ s ≤ n ∧ Hid (s + gn = n) ∧ Hid (Best K O n s f q) ∧ Hid (s < n → Starts K O s) ∧ Hid (OrderIn wr w.heap.size n O) ∧ Hid (Below w.heap.size w wr))
          case atStart => exact ⟨0, -1, -1, rfl, rfl, rfl, Nat.zero_le _, (by omega : 0 + n = n), best_start K O n, (fun _ => starts_zero K O : 0 < n → _), HO, HB⟩
          case round =>
            clear HO HB
            obtain ⟨s, f, q, rfl, rfl, rfl, hsn, HG, HBest, HSt, HO, HB⟩ := hrel
            by_cases hlt : s + 1 < n
            · obtain ⟨w3, rfl⟩ : ∃ w3, w3 = wr := ⟨_, rfl⟩
              obtain ⟨g4, rfl⟩ : ∃ g4, g4 = gk := ⟨_, rfl⟩
              have hs1 : (s : Int) + 1 < (n : Int) := by omega
              have HSt2 : Hid (Starts K O s) := HSt.out (by omega)
              clear HSt
              go_wp2
              go_loopg [13] n (fun gn ev wr => ∃ (e : Nat), ev = .int .i64 e ∧ s < e ∧ e ≤ n ∧ Hid (e + gn = n + s + 1) ∧ Hid (Group K O s e) ∧ Hid (OrderIn wr w.heap.size n O) ∧ Hid (Below w.heap.size w wr))
              case atStart => exact ⟨s + 1, by go_num, by omega, by omega, (by omega : s + 1 + n = n + s + 1), Group.first K O s, HO, HB⟩
              case round =>
                clear HO HB
                obtain ⟨e, rfl, hse, hen, HG5, HGr, HO, HB⟩ := hrel
                by_cases hltn : e < n
                · obtain ⟨b, off, rfl, hc⟩ := HK.out.at' (by omega)
                  have hx := HP.out.lt s (by omega)
                  have hy := HP.out.lt e hltn
                  have B0 : Hid (Both wr wr.drew w.heap.size s e b (off + O s * 7) (off + O e * 7) (O s) (O e) (K (O s)) (K (O e))) := Both.mk' (HO.out.cell (by omega)) (HO.out.cell hltn) ((hc _ hx).later HB.out) ((hc _ hy).later HB.out)
                  have i1 : (s : Int) < (n : Int) := by omega
                  have i2 : (e : Int) < (n : Int) := by omega
                  have i3 : (O s : Int) < (n : Int) := by omega
                  have i4 : (O e : Int) < (n : Int) := by omega
                  clear hc hx hy
                  go_upto_region 21 with fail
                  go_cut [93] from 74 to 95 (fun v wx => v = .bool (sameB (K (O s)) (K (O e))) ∧ Hid (Below wr.heap.size wr wx))
                  case first =>
                    go_region_held3 (fun W => Both wr W w.heap.size s e b (off + O s * 7) (off + O e * 7) (O s) (O e) (K (O s)) (K (O e))) (first | exact B0.out | exact Both.later (by assumption) (by assumption))
                      (first
                      | (go_at_call 23; refine (same_any (K (O s)) (K (O e)) _).mono ?_; rintro e w' ⟨rfl, hb'⟩))
                    all_goals
                      go_wp2
                      go_meet
                      case rel => exact ⟨rfl, (And.left (by assumption))⟩
                  case rest =>
                    obtain ⟨rfl, HBc⟩ := hcut
                    have HOx := hide (HO.out.later HBc.out)
                    have HBx : Hid (Below w.heap.size w wc) := HB.out.trans (HBc.out.mono HB.out.size)
                    clear HO HBc B0
                    cases hsame : sameB (K (O s)) (K (O e))
                    · have HStN : Hid (e < n → Starts K O e) := fun h => starts_next HSn.out HGr.out hse h HSt2.out (fun e2 => by
                        rw [(sameB_iff _ _).2 e2] at hsame
                        cases hsame)
                      clear hsame
                      by_cases h2 : s + 2 ≤ e
                      · have cs := HOx.out.cell (a := s) (by omega)
                        have cs1 := HOx.out.cell (a := s + 1) (by omega)
                        have hs1n : (s : Int) + 1 < (n : Int) := by omega
                        have hsn' : (s : Int) < (n : Int) := by omega
                        have hes : (2 : Int) ≤ (e : Int) - (s : Int) := by omega
                        by_cases hq0 : q < 0
                        · have HBest2 := hide (HBest.out.take HP.out HSn.out HSt2.out HGr.out h2 hen (.inl hq0))
                          go_wp2
                          go_roundg (n - e)
                          case measure => have := HG.out; omega
                          case rel => exact ⟨e, _, _, rfl, rfl, rfl, hen, (by omega : e + (n - e) = n), HBest2, HStN, HOx, HBx⟩
                        · by_cases hq1 : (O (s + 1) : Int) < q
                          · have HBest2 := hide (HBest.out.take HP.out HSn.out HSt2.out HGr.out h2 hen (.inr hq1))
                            go_wp2
                            go_roundg (n - e)
                            case measure => have := HG.out; omega
                            case rel => exact ⟨e, _, _, rfl, rfl, rfl, hen, (by omega : e + (n - e) = n), HBest2, HStN, HOx, HBx⟩
                          · have HBest2 := hide (HBest.out.keep HSn.out HSt2.out HGr.out hen (by omega) (by omega))
                            go_wp2
                            go_roundg (n - e)
                            case measure => have := HG.out; omega
                            case rel => exact ⟨e, _, _, rfl, rfl, rfl, hen, (by omega : e + (n - e) = n), HBest2, HStN, HOx, HBx⟩
                      · have hes : (e : Int) - (s : Int) < 2 := by omega
                        have HBest2 : Hid (Best K O n e f q) := by
                          have e1 : e = s + 1 := by omega
                          have := HBest.out.one HSt2.out
                          rw [← e1] at this
                          exact this
                        go_wp2
                        go_roundg (n - e)
                        case measure => have := HG.out; omega
                        case rel => exact ⟨e, _, _, rfl, rfl, rfl, hen, (by omega : e + (n - e) = n), HBest2, HStN, HOx, HBx⟩
                    · have HGr2 := hide (HGr.out.next ((sameB_iff _ _).1 hsame))
                      clear hsame
                      go_wp2
                      go_roundg (gk - 1)
                      case measure => have := HG5.out; omega
                      case rel => exact ⟨e + 1, by go_num, by omega, by omega, (by have := HG5.out; omega : e + 1 + (gk - 1) = n + s + 1), HGr2, HOx, HBx⟩
                · have hd : decide ((e : Int) < (n : Int)) = false := by simp; omega
                  have HStN : Hid (e < n → Starts K O e) := fun h => absurd h hltn
                  go_wp2
                  go_quiet (fail)
                  have HOx : Hid (OrderIn (wr.drewN nq) w.heap.size n O) := HO
                  have HBx : Hid (Below w.heap.size w (wr.drewN nq)) := below_drewN HB.out _
                  clear HO HB
                  by_cases h2 : s + 2 ≤ e
                  · have cs := HOx.out.cell (a := s) (by omega)
                    have cs1 := HOx.out.cell (a := s + 1) (by omega)
                    have hs1n : (s : Int) + 1 < (n : Int) := by omega
                    have hsn' : (s : Int) < (n : Int) := by omega
                    have hes : (2 : Int) ≤ (e : Int) - (s : Int) := by omega
                    by_cases hq0 : q < 0
                    · have HBest2 := hide (HBest.out.take HP.out HSn.out HSt2.out HGr.out h2 hen (.inl hq0))
                      go_wp2
                      go_roundg (n - e)
                      case measure => have := HG.out; omega
                      case rel => exact ⟨e, _, _, rfl, rfl, rfl, hen, (by omega : e + (n - e) = n), HBest2, HStN, HOx, HBx⟩
                    · by_cases hq1 : (O (s + 1) : Int) < q
                      · have HBest2 := hide (HBest.out.take HP.out HSn.out HSt2.out HGr.out h2 hen (.inr hq1))
                        go_wp2
                        go_roundg (n - e)
                        case measure => have := HG.out; omega
                        case rel => exact ⟨e, _, _, rfl, rfl, rfl, hen, (by omega : e + (n - e) = n), HBest2, HStN, HOx, HBx⟩
                      · have HBest2 := hide (HBest.out.keep HSn.out HSt2.out HGr.out hen (by omega) (by omega))
                        go_wp2
                        go_roundg (n - e)
                        case measure => have := HG.out; omega
                        case rel => exact ⟨e, _, _, rfl, rfl, rfl, hen, (by omega : e + (n - e) = n), HBest2, HStN, HOx, HBx⟩
                  · exact absurd hlt (by omega)
            · have HF := hide (HBest.out.last HP.out HSn.out HSt.out (by omega))
              go_wp2
              go_ret2
              refine ⟨?_, HB.out⟩
              rcases HF.out with ⟨rfl, rfl, h⟩ | ⟨f', q', rfl, rfl, h⟩
              · exact .inl ⟨h, rfl⟩
              · exact .inr ⟨f', q', h, rfl⟩

end Go.Proofs.Qxb6603246a
