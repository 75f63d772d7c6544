/-
  SEAT b6603246a: FnRepeatedTextFindsFirstRepeat (3): the walk.
-/
import Derived.Test.Qxb6603246aFirst
import Derived.LaidEqlPtr
namespace Go.Proofs.Qxb6603246a
open Go.RowKit

theorem Try.info51 : (Try.prog.info? 51).map (fun i => i.size) = some 8 := by kernel_rfl
theorem eqPtr (p : Nat) (W : World) : (binOp .eql 27 (ptr p) (ptr p)).run Try.prog W = .ok (.bool true) W := by
  obtain ⟨i, hi, _⟩ := Option.map_eq_some_iff.1 Try.info51
  exact run_eql_ptr_same _ _ Try.underlying27 hi

set_option maxRecDepth 100000 in
set_option maxHeartbeats 4000000 in
theorem top_any (ao : Option Addr) (len cap : Nat) (K : Nat → Key) (cut : Bool) (w : World) (hK : Keys w ao len cap K) :
    Calls Try.prog 3 #[.slice ao len cap, .bool cut] w fun e w' => e = .returned (.bool true) ∧ Below w.heap.size w w' := by
  have HK := hide hK
  clear hK
  go_enter Try.func3, Try.ntmps3
  go_wp2_with fail
  refine (bytes_any ao len cap K cut _ HK.out).mono ?_
  rintro e w' ⟨⟨r, rfl⟩, hw⟩
  have hw := hw.symm
  subst hw
  cases r
  · go_wp2_with fail
    go_ret
    exact ⟨rfl, Below.refl _ _⟩
  · by_cases hl : len ≤ 4096
    · go_wp2_with fail
      refine (keyBytes_any ao len cap K _ HK.out hl).mono ?_
      rintro e w1 ⟨⟨r, rfl⟩, b1⟩
      have HB1 := hide b1
      clear b1
      by_cases hr : 1048576 < r
      · go_wp2_with fail
        go_ret
        exact ⟨rfl, HB1.out⟩
      · go_wp2_with fail
        refine (clone_any ao len cap K _ (HK.out.later HB1.out) hl).mono ?_
        rintro e w2 ⟨a2, c2, rfl, k2, b2⟩
        have HK2 := hide k2
        have HB2 : Hid (Below w.heap.size w w2) := HB1.out.trans (b2.mono HB1.out.size)
        clear k2 b2 HB1 HK
        obtain ⟨S0, hS0⟩ : ∃ S0, cut = false ∧ S0 = 2 * len ∨ cut = true ∧ (len = 0 ∧ S0 = 0 ∨ 0 < len ∧ S0 + 1 = 2 * len) := by
          cases cut
          · exact ⟨2 * len, .inl ⟨rfl, rfl⟩⟩
          · by_cases h0 : len = 0
            · exact ⟨0, .inr ⟨rfl, .inl ⟨h0, rfl⟩⟩⟩
            · exact ⟨2 * len - 1, .inr ⟨rfl, .inr ⟨by omega, by omega⟩⟩⟩
        have CM := hide (mapping_loop a2 len c2 S0 cut K w2 HK2.out hl hS0)
        clear hS0
        go_wp2_with fail
        refine CM.out.mono ?_
        rintro e w3 ⟨g, S, p, Pt, rfl, hS, hp, hc, b3⟩
        have HP := hide hp
        have HC := hide hc
        have HS := hide hS
        have hS1 : S ≤ 2 * len := by omega
        have hS2 : 2 * len ≤ S + 1 := by omega
        have HK3 := hide (HK2.out.later b3)
        have HB3 : Hid (Below w.heap.size w w3) := HB2.out.trans (b3.mono HB2.out.size)
        clear hp hc hS b3 CM HK2 HB2
        go_wp2_with fail
        refine (zz_any (g + 1) g S p len Pt K _ HS.out hl HP.out HC.out).mono ?_
        rintro e w4 ⟨ha, b4⟩
        have HK4 := hide (HK3.out.later b4)
        have HC4 : Hid (∀ j, j < len → w4.cell? ⟨g, 2 * j, none⟩ = some (ptr (Pt j))) := fun j hj => cell_later b4 (HC.out j hj).1
        have HB4 : Hid (Below w.heap.size w w4) := HB3.out.trans (b4.mono HB3.out.size)
        clear b4 HK3 HB3 HC HP HS
        rcases ha with ⟨hn, rfl⟩ | ⟨f, q, hrep, rfl⟩
        · have HN := hide hn
          clear hn
          go_wp2_with fail
          refine (first_any a2 len c2 K _ HK4.out hl).mono ?_
          rintro e w5 ⟨hf, b5⟩
          have HB5 : Hid (Below w.heap.size w w5) := HB4.out.trans (b5.mono HB4.out.size)
          clear b5
          rcases hf with ⟨_, rfl⟩ | ⟨f', q', hrep, rfl⟩
          · go_wp2_with fail
            go_ret
            exact ⟨rfl, HB5.out⟩
          · exact absurd HN.out hrep.not
        · have HR := hide hrep
          clear hrep
          go_wp2_with fail
          refine (first_any a2 len c2 K _ HK4.out hl).mono ?_
          rintro e w5 ⟨hf, b5⟩
          have HC5 : Hid (∀ j, j < len → w5.cell? ⟨g, 2 * j, none⟩ = some (ptr (Pt j))) := fun j hj => cell_later b5 (HC4.out j hj)
          have HB5 : Hid (Below w.heap.size w w5) := HB4.out.trans (b5.mono HB4.out.size)
          clear b5 HC4
          rcases hf with ⟨hn, rfl⟩ | ⟨f', q', hrep, rfl⟩
          · exact absurd hn HR.out.not
          · obtain ⟨rfl, rfl⟩ := HR.out.same hrep
            have hfq := hrep.1
            have hql := hrep.2.1
            have c1 := HC5.out f (by omega)
            have c2' := HC5.out q (by omega)
            have i1 : 2 * (f : Int) < (S : Int) := by omega
            have i2 : 2 * (q : Int) < (S : Int) := by omega
            have e1 := fun W => eqPtr (Pt f) W
            have e2 := fun W => eqPtr (Pt q) W
            clear hrep
            go_wp2_with fail
            go_ret
            exact ⟨rfl, HB5.out⟩
    · go_wp2_with fail
      go_ret
      exact ⟨rfl, Below.refl _ _⟩

end Go.Proofs.Qxb6603246a
