/-
  SEAT b6603246a: repeatedText (21), at most eight keys.
-/
import Derived.Test.Qxb6603246aText
import Derived.Test.Qxb6603246aReps
import Derived.Deep.RegionWith
import Derived.Deep.RegionHeld3
import Derived.Deep.LoopGhost
import Derived.Deep.CutRange
namespace Go.Proofs.Qxb6603246a
open Go.RowKit

/-- What tells a key apart. -/
def idOf (k : Key) : Bool × List UInt8 := (isMerge k, (resolved k).toList)
abbrev ids (K : Nat → Key) (i : Nat) : Bool × List UInt8 := idOf (K i)
def sameB (a b : Key) : Bool := isMerge a == isMerge b && (resolved a).toList == (resolved b).toList
theorem sameB_iff (a b : Key) : sameB a b = true ↔ idOf a = idOf b := by
  simp [sameB, idOf]

theorem eq56 (a b : Key) (W : World) : (binOp .eql 56 (keyVal a) (keyVal b)).run Try.prog W = .ok (.bool (sameB a b)) W := by
  unfold sameB
  cases h : (isMerge a == isMerge b)
  · simp [go_sem, h]
  · simp only [Bool.true_and]
    by_cases h2 : (resolved a).toList = (resolved b).toList <;> simp [go_sem, h, h2]

theorem keepS {w W : World} {A B C : Addr} {x y z : Value} (h : Below w.heap.size w W ∧ W.cell? A = some x ∧ W.cell? B = some y ∧ W.cell? C = some z) (o : Obj) :
    Below w.heap.size w (W.alloc o) ∧ (W.alloc o).cell? A = some x ∧ (W.alloc o).cell? B = some y ∧ (W.alloc o).cell? C = some z := by
  have hb : Below W.heap.size W (W.alloc o) := (Below.refl _ _).alloc (Nat.le_refl _) o
  exact ⟨h.1.alloc h.1.size o, cell_later hb h.2.1, cell_later hb h.2.2.1, cell_later hb h.2.2.2⟩

/-- What repeatedText hands back. -/
def Answer (K : Nat → Key) (Pt : Nat → Nat) (len : Nat) (e : Ending) : Prop :=
  (NoRep (ids K) len ∧ e = .returned (.tuple #[.pointer none, .pointer none])) ∨ ∃ f s, IsRep (ids K) len f s ∧ e = .returned (.tuple #[ptr (Pt f), ptr (Pt s)])

set_option maxRecDepth 100000 in
set_option maxHeartbeats 4000000 in
theorem few_any (lo g S p len : Nat) (Pt : Nat → Nat) (K : Nat → Key) (w : World) (hS : S = 2 * len ∨ S + 1 = 2 * len) (hS16 : S ≤ 16) (hp : w.cell? ⟨p, 6, none⟩ = some (.slice (some ⟨g, 0, none⟩) S S))
    (hc : ∀ j, j < len → w.cell? ⟨g, 2 * j, none⟩ = some (ptr (Pt j)) ∧ NodeAt w lo (Pt j) (K j)) :
    Calls Try.prog 21 #[ptr p] w fun e w' => Answer K Pt len e ∧ Below w.heap.size w w' := by
  have hS1 : S ≤ 2 * len := by omega
  have hS2 : 2 * len ≤ S + 1 := by omega
  have HP := hide hp
  have HC := hide hc
  have hq16 : decide ((S : Int) ≤ 16) = true := by simp; omega
  clear hS hc
  go_enter Try.func21, Try.ntmps21
  go_wp2
  go_loopg [4] 16 (fun gn iv wr => ∃ (i a : Nat), iv = .int .i64 i ∧ i ≤ 18 ∧ Hid (i + gn = 18) ∧ Hid (i = 2 * a) ∧ Hid (NoRep (ids K) a) ∧ Hid (Below w.heap.size w wr))
  case atStart => exact ⟨2, 1, rfl, by omega, (rfl : 2 + 16 = 18), (rfl : 2 = 2 * 1), noRep_one _, Below.refl _ _⟩
  case round =>
    obtain ⟨i, a, rfl, hi18, HG, HI, HN, HB⟩ := hrel
    have cp : wr.cell? ⟨p, 6, none⟩ = some (.slice (some ⟨g, 0, none⟩) S S) := cell_later HB.out HP.out
    by_cases hlt : i < S
    · have hal : a < len := by have := HI.out; omega
      obtain ⟨wo, rfl⟩ : ∃ wo, wo = wr := ⟨_, rfl⟩
      obtain ⟨go, rfl⟩ : ∃ go, go = gk := ⟨_, rfl⟩
      go_wp2
      clear cp
      go_loopg [5] i (fun gn jv wr => ∃ (j b : Nat), jv = .int .i64 j ∧ j ≤ i ∧ Hid (j + gn = i) ∧ Hid (j = 2 * b) ∧ Hid (∀ c, c < b → ids K c ≠ ids K a) ∧ Hid (Below w.heap.size w wr))
      case atStart => exact ⟨0, 0, rfl, Nat.zero_le _, (by omega : 0 + i = i), (rfl : 0 = 2 * 0), (fun c h => by omega : ∀ c, c < 0 → _), HB⟩
      case round =>
        obtain ⟨j, b, rfl, hji, HG2, HJ, HNb, HB2⟩ := hrel
        by_cases hjlt : j < i
        · have hbl : b < len := by have := HI.out; have := HJ.out; omega
          have hjS : (j : Int) < (S : Int) := by omega
          have hiS : (i : Int) < (S : Int) := by omega
          have cp : wr.cell? ⟨p, 6, none⟩ = some (.slice (some ⟨g, 0, none⟩) S S) := cell_later HB2.out HP.out
          have cj : wr.cell? ⟨g, j, none⟩ = some (ptr (Pt b)) := by rw [HJ.out]; exact cell_later HB2.out (HC.out b hbl).1
          have ci : wr.cell? ⟨g, i, none⟩ = some (ptr (Pt a)) := by rw [HI.out]; exact cell_later HB2.out (HC.out a hal).1
          have hpb : p < wr.heap.size := World.block_lt_of_cell? _ _ cp
          have hgb : g < wr.heap.size := World.block_lt_of_cell? _ _ cj
          have hsz := HB2.out.size
          have Cb : Hid (∀ W, Below w.heap.size w W → Calls Try.prog 26 #[ptr (Pt b)] W fun e w' => e = .returned (keyVal (K b)) ∧ W.alloc (keyObj (K b)) = w') := fun W hW => textKey_any lo _ _ W ((HC.out b hbl).2.later hW)
          have Ca : Hid (∀ W, Below w.heap.size w W → Calls Try.prog 26 #[ptr (Pt a)] W fun e w' => e = .returned (keyVal (K a)) ∧ W.alloc (keyObj (K a)) = w') := fun W hW => textKey_any lo _ _ W ((HC.out a hal).2.later hW)
          have q56 := fun W => eq56 (K b) (K a) W
          go_upto_region 8 with fail
          go_cut [48] from 27 to 62 (fun v wx => v = .bool (sameB (K b) (K a)) ∧ Hid (Below w.heap.size w wx))
          case first =>
            go_region_held3 (fun W => Below w.heap.size w W ∧ W.cell? ⟨p, 6, none⟩ = some (.slice (some ⟨g, 0, none⟩) S S) ∧ W.cell? ⟨g, j, none⟩ = some (ptr (Pt b)) ∧ W.cell? ⟨g, i, none⟩ = some (ptr (Pt a))) (first | exact ⟨HB2.out.drew, cp, cj, ci⟩ | exact keepS (by assumption) _)
              (first
              | (go_at_call_of 26 (ptr (Pt b)); refine (Cb.out _ ?_).mono ?_; (repeat (first | exact HB2.out | exact hsz | apply Below.drew | (refine Below.alloc ?_ ?_ _))); rintro e w' ⟨rfl, rfl⟩)
              | (go_at_call_of 26 (ptr (Pt a)); refine (Ca.out _ ?_).mono ?_; (repeat (first | exact HB2.out | exact hsz | apply Below.drew | (refine Below.alloc ?_ ?_ _))); rintro e w' ⟨rfl, rfl⟩))
            all_goals
              go_wp2
              go_meet
              case rel => exact ⟨rfl, ((HB2.out.alloc hsz _).alloc (by simp; omega) _).drew⟩
          case rest =>
            obtain ⟨rfl, HBc⟩ := hcut
            have cp2 : wc.cell? ⟨p, 6, none⟩ = some (.slice (some ⟨g, 0, none⟩) S S) := cell_later HBc.out HP.out
            have cj2 : wc.cell? ⟨g, j, none⟩ = some (ptr (Pt b)) := by rw [HJ.out]; exact cell_later HBc.out (HC.out b hbl).1
            have ci2 : wc.cell? ⟨g, i, none⟩ = some (ptr (Pt a)) := by rw [HI.out]; exact cell_later HBc.out (HC.out a hal).1
            clear cp cj ci Cb Ca q56
            cases hsame : sameB (K b) (K a)
            · have HNb2 : Hid (∀ c, c < b + 1 → ids K c ≠ ids K a) := by
                intro c hc
                by_cases e : c = b
                · subst e
                  intro e2
                  rw [(sameB_iff _ _).2 e2] at hsame
                  cases hsame
                · exact HNb.out c (by omega)
              clear hsame
              go_wp2
              go_roundg (gk - 2)
              case measure => have := HG2.out; have := HI.out; have := HJ.out; omega
              case rel => exact ⟨j + 2, b + 1, by go_num, by have := HI.out; have := HJ.out; omega, (by have := HG2.out; have := HI.out; have := HJ.out; omega : j + 2 + (gk - 2) = i), (by have := HJ.out; omega : j + 2 = 2 * (b + 1)), HNb2, HBc⟩
            · have HR : Hid (IsRep (ids K) len b a) := ⟨by have := HI.out; have := HJ.out; omega, hal, (sameB_iff _ _).1 hsame, HN.out⟩
              clear hsame
              go_wp2
              go_region
              all_goals
                go_wp2
                go_ret2
                exact ⟨.inr ⟨b, a, HR.out, rfl⟩, HBc.out.drew⟩
        · have HN2 : Hid (NoRep (ids K) (a + 1)) := HN.out.succ (fun c hc => HNb.out c (by have := HI.out; have := HJ.out; omega))
          go_wp2
          go_roundg (go - 2)
          case measure => have := HG.out; omega
          case rel => exact ⟨i + 2, a + 1, by go_num, by omega, (by have := HG.out; omega : i + 2 + (go - 2) = 18), (by have := HI.out; omega : i + 2 = 2 * (a + 1)), HN2, HB2⟩
    · have HN2 : Hid (NoRep (ids K) len) := HN.out.mono (by have := HI.out; omega)
      go_wp2
      go_ret2
      exact ⟨.inl ⟨HN2.out, rfl⟩, HB.out⟩

end Go.Proofs.Qxb6603246a
