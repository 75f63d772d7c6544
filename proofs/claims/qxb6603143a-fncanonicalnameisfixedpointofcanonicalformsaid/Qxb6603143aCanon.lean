/-
  SEAT b6603143a: canonicalName (20), ZZCanonicalName (10).
-/
import Derived.Test.Qxb6603143aBase
namespace Go.Proofs.Qxb6603143a
open Go.RowKit

theorem ret_bool {a b : Bool} (h : a = b) : Ending.returned (.bool a) = .returned (.bool b) := by rw [h]

set_option maxHeartbeats 1600000 in
theorem canonicalName_any (ao : Option Addr) (len cap : Nat) (zs : List Int) (w : World) (hB : Bytes w ao len cap zs) (hlen : len ≤ 4194304) :
    Calls Try.prog 20 #[.slice ao len cap] w fun e w' => e = .returned (.bool (canonB zs)) ∧ w' = w := by
  have hl := hB.length
  by_cases h0 : len = 0
  · subst h0
    obtain rfl : zs = [] := List.eq_nil_of_length_eq_zero hl
    clear hB hl
    go_enter Try.func20, Try.ntmps20
    go_wp2
    go_ret
    exact ⟨rfl, rfl⟩
  · obtain ⟨b, off, rfl, hc⟩ := hB.cells (by omega)
    have hbd := hB.bd
    have hz : ((len : Int) == 0) = false := by simp; omega
    have HC : Hid (canonB zs = canonGo true (zs.drop 0)) := by
      show canonB zs = _
      unfold canonB
      cases zs with
      | nil => simp at hl; omega
      | cons c cs => simp
    have HL : Hid (zs.length = len) := hl
    clear hB hl h0
    go_enter Try.func20, Try.ntmps20
    go_wp2
    go_loop [3, 11] (fun u i => ∃ (k : Nat) (up : Bool), k ≤ len ∧ i = .int .i64 k ∧ u = .bool up ∧ Hid (canonB zs = canonGo up (zs.drop k))) (fun _ i => len - (intOf i).toNat)
    case atStart => exact ⟨0, true, Nat.zero_le _, rfl, rfl, HC⟩
    case round =>
      obtain ⟨k, up, hk, rfl, rfl, HR⟩ := hrel
      clear HC
      by_cases hlt : k < len
      · have hck := hc k hlt
        have hb1 := hbd k
        have HR2 : Hid (canonB zs = canonGo up (zs.getD k 0 :: zs.drop (k + 1))) := by
          show _ = _
          rw [← drop_cons (by rw [HL.out]; exact hlt)]; exact HR.out
        obtain ⟨c, HCe⟩ : ∃ c, Hid (zs.getD k 0 = c) := ⟨_, rfl⟩
        rw [HCe.out] at hck hb1 HR2
        clear HR hc hbd
        obtain ⟨hb0, hb255⟩ := hb1
        by_cases h1 : 65 ≤ c ∧ c ≤ 90
        · obtain ⟨h1a, h1b⟩ := h1
          have HR3 : Hid (canonB zs = (up && canonGo false (zs.drop (k + 1)))) := HR2.out.trans (canonGo_upper h1a h1b)
          clear HR2
          cases up
          · go_wp2
            go_ret
            exact ⟨ret_bool (by rw [HR3.out]; rfl), rfl⟩
          · go_wp2
            go_round
            case rel => exact ⟨k + 1, false, by omega, by go_num, rfl, HR3⟩
            case measure => simp [intOf]; omega
        · by_cases h2 : 97 ≤ c ∧ c ≤ 122
          · obtain ⟨h2a, h2b⟩ := h2
            have HR3 : Hid (canonB zs = (!up && canonGo false (zs.drop (k + 1)))) := HR2.out.trans (canonGo_lower h2a h2b)
            clear HR2 h1
            cases up
            · go_wp2
              go_round
              case rel => exact ⟨k + 1, false, by omega, by go_num, rfl, HR3⟩
              case measure => simp [intOf]; omega
            · go_wp2
              go_ret
              exact ⟨ret_bool (by rw [HR3.out]; rfl), rfl⟩
          · by_cases h3 : 48 ≤ c ∧ c ≤ 57
            · obtain ⟨h3a, h3b⟩ := h3
              have HR3 : Hid (canonB zs = (canonGo false (zs.drop (k + 1)))) := HR2.out.trans (canonGo_digit h3a h3b)
              clear HR2 h1 h2
              go_wp2
              go_round
              case rel => exact ⟨k + 1, false, by omega, by go_num, rfl, HR3⟩
              case measure => simp [intOf]; omega
            · by_cases h4 : c = 45
              · subst h4
                have HR3 : Hid (canonB zs = (canonGo true (zs.drop (k + 1)))) := HR2.out.trans canonGo_hyphen
                clear HR2 h1 h2 h3
                go_wp2
                go_round
                case rel => exact ⟨k + 1, true, by omega, by go_num, rfl, HR3⟩
                case measure => simp [intOf]; omega
              · have HR3 : Hid (canonB zs = false) := HR2.out.trans (canonGo_other h1 h2 h3 h4)
                clear HR2
                rcases (show (c < 45 ∨ (45 < c ∧ c < 48) ∨ (57 < c ∧ c < 65) ∨ (90 < c ∧ c < 97) ∨ 122 < c) from by omega) with h | ⟨h, h'⟩ | ⟨h, h'⟩ | ⟨h, h'⟩ | h
                all_goals
                  clear h1 h2 h3 h4
                  go_wp2
                  go_ret
                  exact ⟨ret_bool HR3.out.symm, rfl⟩
      · have hz2 : zs.drop k = [] := List.drop_eq_nil_of_le (by rw [HL.out]; omega)
        have HR2 : Hid (canonB zs = true) := by
          show _ = _
          rw [HR.out, hz2]; rfl
        clear HR hz2
        go_wp2
        go_ret
        exact ⟨ret_bool HR2.out.symm, rfl⟩


theorem zzCanonicalName_any (ao : Option Addr) (len cap : Nat) (zs : List Int) (w : World) (hB : Bytes w ao len cap zs) (hlen : len ≤ 4194304) :
    Calls Try.prog 10 #[.slice ao len cap] w fun e w' => e = .returned (.bool (canonB zs)) ∧ w' = w := by
  go_enter Try.func10, Try.ntmps10
  go_wp2_with (go_at_call 20; refine (canonicalName_any ao len cap zs _ hB hlen).mono ?_; rintro e w' ⟨rfl, rfl⟩)
  go_ret
  exact ⟨rfl, rfl⟩

end Go.Proofs.Qxb6603143a
