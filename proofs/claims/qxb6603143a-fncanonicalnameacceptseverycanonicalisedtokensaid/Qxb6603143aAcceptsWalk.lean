/-
  SEAT b6603143a: FnCanonicalNameAcceptsEveryCanonicalisedToken (4): the walks.
-/
import Derived.Test.Qxb6603143aForm
namespace Go.Proofs.Qxb6603143a
open Go.RowKit

theorem small12 (a0 : Option Addr) (len0 cap0 : Nat) (w : World) (h : len0 ≤ 1048576) :
    Calls Try.prog 12 #[.slice a0 len0 cap0] w fun e w' => e = .returned (.bool true) ∧ w' = w := by
  go_enter Try.func12, Try.ntmps12
  go_wp2
  go_ret
  exact ⟨rfl, rfl⟩
theorem great12 (a0 : Option Addr) (len0 cap0 : Nat) (w : World) (h : ¬ len0 ≤ 1048576) :
    Calls Try.prog 12 #[.slice a0 len0 cap0] w fun e w' => e = .returned (.bool false) ∧ w' = w := by
  go_enter Try.func12, Try.ntmps12
  go_wp2
  all_goals
    go_ret
    exact ⟨rfl, rfl⟩

theorem accepts_great (a0 : Option Addr) (len0 cap0 : Nat) (w : World) (h : ¬ len0 ≤ 1048576) :
    Calls Try.prog 4 #[.slice a0 len0 cap0] w fun e w' => e = .returned (.bool true) ∧ Below w.heap.size w w' := by
  go_enter Try.func4, Try.ntmps4
  go_wp2_with (go_at_call 12; refine (great12 a0 len0 cap0 _ h).mono ?_; rintro e w' ⟨rfl, rfl⟩)
  go_ret
  exact ⟨rfl, Below.refl _ _⟩

theorem accepts_small (a0 : Option Addr) (len0 cap0 : Nat) (z0 : List Int) (w : World) (w0 : Bytes w a0 len0 cap0 z0) (h : len0 ≤ 1048576) :
    Calls Try.prog 4 #[.slice a0 len0 cap0] w fun e w' => e = .returned (.bool true) ∧ Below w.heap.size w w' := by
  go_enter Try.func4, Try.ntmps4
  go_wp2_with fail
  refine (small12 a0 len0 cap0 _ h).mono ?_
  rintro e w' ⟨rfl, hw⟩
  have hw := hw.symm
  subst hw
  go_wp2_with fail
  refine (clone_any a0 len0 cap0 z0 _ w0 (by omega)).mono ?_
  rintro e wa ⟨aa, ca, rfl, Ba, ba⟩
  go_wp2_with fail
  refine (form_any aa len0 ca z0 _ Ba (by omega)).mono ?_
  rintro e wb ⟨ab, cb, rfl, Bb, bb⟩
  have BA : Hid (Bytes wb aa len0 ca z0) := Ba.later bb
  have BB : Hid (Bytes wb ab len0 cb (formGo true z0)) := Bb
  have BE : Hid (Below w.heap.size w wb) := ba.trans (bb.mono ba.size)
  have HL : Hid (canonB (formGo true z0) = (!z0.isEmpty && z0.all tokB)) := accept_law z0
  clear Ba Bb ba bb w0
  go_wp2_with fail
  refine (zzCanonicalName_any _ _ _ _ _ BB.out (by omega)).mono ?_
  rintro e w' ⟨rfl, hw⟩
  have hw := hw.symm
  subst hw
  by_cases h0 : len0 = 0
  · subst h0
    obtain rfl : z0 = [] := List.eq_nil_of_length_eq_zero BA.out.length
    clear BA BB
    go_wp2_with fail
    go_ret
    exact ⟨rfl, BE.out⟩
  · have hz : (0 : Int) < (len0 : Int) := by omega
    have HE : Hid (z0.isEmpty = false) := by
      show _ = _
      have := BA.out.length
      cases z0 with
      | nil => simp at this; omega
      | cons c cs => rfl
    go_wp2_with fail
    refine (allTok_any _ _ _ _ _ BA.out (by omega)).mono ?_
    rintro e w' ⟨rfl, hw⟩
    have hw := hw.symm
    subst hw
    go_wp2_with fail
    go_ret
    exact ⟨ret_bool (by rw [HL.out, HE.out]; simp), BE.out⟩

end Go.Proofs.Qxb6603143a
