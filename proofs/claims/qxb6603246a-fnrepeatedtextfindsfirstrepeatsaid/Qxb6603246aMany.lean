/-
  SEAT b6603246a: repeatedText (21), more than eight keys: the map; ZZrepeatedText (10).
-/
import Derived.Test.Qxb6603246aMaps
namespace Go.Proofs.Qxb6603246a
open Go.RowKit

theorem sameB_comm (a b : Key) : sameB a b = sameB b a := by
  rw [Bool.eq_iff_iff, sameB_iff, sameB_iff]
  exact ⟨Eq.symm, Eq.symm⟩
theorem sameB_false {a b : Key} (h : idOf a ≠ idOf b) : sameB b a = false := by
  cases e : sameB b a
  · rfl
  · exact absurd ((sameB_iff _ _).1 e).symm h

/-- A round of the map: two blocks laid, the map stored into. -/
theorem map_step {w wr : World} {K : Nat → Key} {Pt : Nat → Nat} {m a : Nat} (hm : wr.heap[m]? = some (mapObj K Pt a)) (hw : w.heap.size ≤ m) (hb : Below w.heap.size w wr) (o o2 : Obj) :
    (ChangeMaps.setBlock ((wr.alloc o).alloc o2) m (mapObj K Pt (a + 1))).heap[m]? = some (mapObj K Pt (a + 1)) ∧ Below w.heap.size w (ChangeMaps.setBlock ((wr.alloc o).alloc o2) m (mapObj K Pt (a + 1))) := by
  have hlt : m < wr.heap.size := (Array.getElem?_eq_some_iff.1 hm).1
  have hsz := hb.size
  exact ⟨heap_setBlock (by simp; omega) _, ((hb.alloc hsz o).alloc (by simp; omega) o2).grown (grown_setBlock _ _ _) (by simp; omega) (fun k hk => by cases hk; exact hw)⟩

set_option maxRecDepth 100000 in
set_option maxHeartbeats 4000000 in
theorem many_any (lo g S p len : Nat) (Pt : Nat → Nat) (K : Nat → Key) (w : World) (hS : S = 2 * len ∨ S + 1 = 2 * len) (hlen : len ≤ 4096) (hS16 : ¬ S ≤ 16) (hp : w.cell? ⟨p, 6, none⟩ = some (.slice (some ⟨g, 0, none⟩) S S))
    (hc : ∀ j, j < len → w.cell? ⟨g, 2 * j, none⟩ = some (ptr (Pt j)) ∧ NodeAt w lo (Pt j) (K j)) :
    Calls Try.prog 21 #[ptr p] w fun e w' => Answer K Pt len e ∧ Below w.heap.size w w' := by
  have hS1 : S ≤ 2 * len := by omega
  have hS2 : 2 * len ≤ S + 1 := by omega
  have HP := hide hp
  have HC := hide hc
  have hq16 : decide ((S : Int) ≤ 16) = false := by simp; omega
  have hmk := make_run
  clear hS hc
  go_enter Try.func21, Try.ntmps21
  go_wp2
  clear hmk
  go_loopw [7] (fun iv wr => ∃ (i a : Nat), iv = .int .i64 i ∧ i ≤ S + 1 ∧ Hid (i = 2 * a) ∧ Hid (NoRep (ids K) a) ∧ Hid (wr.heap[w.heap.size]? = some (mapObj K Pt a)) ∧ Hid (Below w.heap.size w wr)) (fun iv _ => S + 1 - (intOf iv).toNat)
  case atStart => exact ⟨0, 0, rfl, Nat.zero_le _, (rfl : 0 = 2 * 0), noRep_zero _, (by rw [heap_alloc_new]; rfl : _ = _), (Below.refl _ _).alloc (Nat.le_refl _) _⟩
  case round =>
    obtain ⟨i, a, rfl, hiS, HI, HN, HM, HB⟩ := hrel
    have cp : wr.cell? ⟨p, 6, none⟩ = some (.slice (some ⟨g, 0, none⟩) S S) := cell_later HB.out HP.out
    by_cases hlt : i < S
    · have hal : a < len := by have := HI.out; omega
      have hlt' : (i : Int) < (S : Int) := by omega
      have ci : wr.cell? ⟨g, i, none⟩ = some (ptr (Pt a)) := by rw [HI.out]; exact cell_later HB.out (HC.out a hal).1
      have Ca := hide (textKey_any lo _ _ wr ((HC.out a hal).2.later HB.out))
      have hm2 : ((wr.alloc (keyObj (K a))).alloc (keyObj (K a))).heap[w.heap.size]? = some (mapObj K Pt a) := by
        have hlt : w.heap.size < wr.heap.size := (Array.getElem?_eq_some_iff.1 HM.out).1
        rw [Below.heap_alloc _ _ _ (by simp; omega), Below.heap_alloc _ _ _ hlt]
        exact HM.out
      by_cases hrep : ∃ f, f < a ∧ ids K f = ids K a
      · obtain ⟨f, hfa, hfe⟩ := hrep
        have hl := lookup_some (k := K a) hm2 hfa ((sameB_iff _ _).2 hfe.symm) (fun c hc he => by
          have h1 := ((sameB_iff _ _).1 he).symm.trans hfe.symm
          rcases Nat.lt_trichotomy c f with h | h | h
          · exact absurd h1 (HN.out c f h hfa)
          · exact h
          · exact absurd h1.symm (HN.out f c h hc))
        have HR : Hid (IsRep (ids K) len f a) := ⟨hfa, hal, hfe, HN.out⟩
        clear hm2 hfe
        go_wp2_with (go_at_call 26; refine Ca.out.mono ?_; rintro e w' ⟨rfl, rfl⟩)
        go_ret2
        exact ⟨.inr ⟨f, a, HR.out, rfl⟩, (HB.out.alloc HB.out.size _).alloc (by have := HB.out.size; simp; omega) _⟩
      · have hno : ∀ c, c < a → sameB (K a) (K c) = false := fun c hc => sameB_false (fun e => hrep ⟨c, hc, e⟩)
        have hl := lookup_none (k := K a) hm2 hno
        have hu := update_run hm2 hno
        have HN2 : Hid (NoRep (ids K) (a + 1)) := HN.out.succ (fun c hc e => hrep ⟨c, hc, e⟩)
        have T := map_step HM.out (Nat.le_refl _) HB.out (keyObj (K a)) (keyObj (K a))
        have HT1 := hide T.1
        have HT2 := hide T.2
        clear hm2 hno hrep T
        go_wp2_with (go_at_call 26; refine Ca.out.mono ?_; rintro e w' ⟨rfl, rfl⟩)
        go_roundw
        case rel => exact ⟨i + 2, a + 1, by go_num, by omega, (by have := HI.out; omega : i + 2 = 2 * (a + 1)), HN2, HT1, HT2⟩
        case measure => simp [intOf]; omega
    · have HN2 : Hid (NoRep (ids K) len) := HN.out.mono (by have := HI.out; omega)
      go_wp2
      go_ret2
      exact ⟨.inl ⟨HN2.out, rfl⟩, HB.out⟩

end Go.Proofs.Qxb6603246a
