/-
  SEAT b6603143a: digits (23), ZZDigits (17), zzSrvB1IsDecimalDigit (24), zzSrvB1AllDecimal (18).
-/
import Derived.Test.Qxb6603143aCanon
namespace Go.Proofs.Qxb6603143a
open Go.RowKit

set_option maxHeartbeats 1600000 in
theorem digits_any (ao : Option Addr) (len cap : Nat) (zs : List Int) (w : World) (hB : Bytes w ao len cap zs) (hlen : len ≤ 4194304) :
    Calls Try.prog 23 #[.slice ao len cap] w fun e w' => e = .returned (.bool (!zs.isEmpty && zs.all digB)) ∧ w' = w := by
  have hl := hB.length
  by_cases h0 : len = 0
  · subst h0
    obtain rfl : zs = [] := List.eq_nil_of_length_eq_zero hl
    clear hB hl
    go_enter Try.func23, Try.ntmps23
    go_wp2
    refine wp_loop_rounds 1 ?_
    rw [rounds_succ]
    go_wp2
    go_ret
    exact ⟨rfl, rfl⟩
  · obtain ⟨b, off, rfl, hc⟩ := hB.cells (by omega)
    have hbd := hB.bd
    have hz : (0 : Int) < (len : Int) := by omega
    have HC : Hid ((!zs.isEmpty && zs.all digB) = (zs.drop 0).all digB) := by
      show _ = _
      cases zs with
      | nil => simp at hl; omega
      | cons c cs => simp
    have HL : Hid (zs.length = len) := hl
    clear hB hl h0
    go_enter Try.func23, Try.ntmps23
    go_wp2
    go_loop [7] (fun i => ∃ (k : Nat), k ≤ len ∧ i = .int .i64 k ∧ Hid ((!zs.isEmpty && zs.all digB) = (zs.drop k).all digB)) (fun i => len - (intOf i).toNat)
    case atStart => exact ⟨0, Nat.zero_le _, rfl, HC⟩
    case round =>
      obtain ⟨k, hk, rfl, HR⟩ := hrel
      clear HC
      by_cases hlt : k < len
      · have hck := hc k hlt
        have hb1 := hbd k
        have HR2 : Hid ((!zs.isEmpty && zs.all digB) = (digB (zs.getD k 0) && (zs.drop (k + 1)).all digB)) := by
          show _ = _
          rw [HR.out, drop_cons (by rw [HL.out]; exact hlt), List.all_cons]
        obtain ⟨c, HCe⟩ : ∃ c, Hid (zs.getD k 0 = c) := ⟨_, rfl⟩
        rw [HCe.out] at hck hb1 HR2
        clear HR hc hbd
        obtain ⟨hb0, hb255⟩ := hb1
        by_cases h1 : 48 ≤ c ∧ c ≤ 57
        · have hd : digB c = true := by simp [digB, h1]
          have HR3 : Hid ((!zs.isEmpty && zs.all digB) = (zs.drop (k + 1)).all digB) := by
            show _ = _
            rw [HR2.out, hd, Bool.true_and]
          obtain ⟨h1a, h1b⟩ := h1
          clear HR2 hd
          go_wp2
          go_round
          case rel => exact ⟨k + 1, by omega, by go_num, HR3⟩
          case measure => simp [intOf]; omega
        · have hd : digB c = false := by simp [digB]; omega
          have HR3 : Hid ((!zs.isEmpty && zs.all digB) = false) := by
            show _ = _
            rw [HR2.out, hd, Bool.false_and]
          clear HR2 hd
          rcases (show c < 48 ∨ 57 < c from by omega) with h | h
          all_goals
            clear h1
            go_wp2
            go_ret
            exact ⟨ret_bool HR3.out.symm, rfl⟩
      · have hz2 : zs.drop k = [] := List.drop_eq_nil_of_le (by rw [HL.out]; omega)
        have HR2 : Hid ((!zs.isEmpty && zs.all digB) = true) := by
          show _ = _
          rw [HR.out, hz2]; rfl
        have hd2 : decide (0 < len) = true := by simp; omega
        clear HR hz2
        go_wp2
        go_ret
        exact ⟨ret_bool HR2.out.symm, rfl⟩

theorem zzDigits_any (ao : Option Addr) (len cap : Nat) (zs : List Int) (w : World) (hB : Bytes w ao len cap zs) (hlen : len ≤ 4194304) :
    Calls Try.prog 17 #[.slice ao len cap] w fun e w' => e = .returned (.bool (!zs.isEmpty && zs.all digB)) ∧ w' = w := by
  go_enter Try.func17, Try.ntmps17
  go_wp2_with (go_at_call 23; refine (digits_any ao len cap zs _ hB hlen).mono ?_; rintro e w' ⟨rfl, rfl⟩)
  go_ret
  exact ⟨rfl, rfl⟩

/-- The ten digits, as the program's text has them. -/
theorem tenth (j : Nat) (hj : j < 10) (h : j < (⟨#[48, 49, 50, 51, 52, 53, 54, 55, 56, 57]⟩ : ByteArray).size) : (((⟨#[48, 49, 50, 51, 52, 53, 54, 55, 56, 57]⟩ : ByteArray)[j]'h).toNat : Int) = 48 + j := by
  match j, hj with
  | 0, _ => rfl
  | 1, _ => rfl
  | 2, _ => rfl
  | 3, _ => rfl
  | 4, _ => rfl
  | 5, _ => rfl
  | 6, _ => rfl
  | 7, _ => rfl
  | 8, _ => rfl
  | 9, _ => rfl

set_option maxHeartbeats 1600000 in
theorem isDec_any (c : Int) (w : World) :
    Calls Try.prog 24 #[.int .u8 c] w fun e w' => e = .returned (.bool (digB c)) ∧ w' = w := by
  go_enter Try.func24, Try.ntmps24
  go_wp2
  go_loop [3] (fun i => ∃ (k : Nat), k ≤ 10 ∧ i = .int .i64 k ∧ Hid (c < 48 ∨ 48 + (k : Int) ≤ c)) (fun i => 10 - (intOf i).toNat)
  case atStart => exact ⟨0, by omega, rfl, (by omega : c < 48 ∨ 48 + ((0 : Nat) : Int) ≤ c)⟩
  case round =>
    obtain ⟨k, hk, rfl, HR⟩ := hrel
    by_cases hlt : k < 10
    · have ht := tenth k hlt
      go_wp2
      · have he : 48 + (k : Int) = c := by simp_all
        go_ret
        exact ⟨ret_bool (by have := HR.out; simp [digB]; omega), rfl⟩
      · have he : ¬ 48 + (k : Int) = c := by simp_all
        go_round
        case rel => exact ⟨k + 1, by omega, by go_num, (by have := HR.out; omega : c < 48 ∨ 48 + ((k + 1 : Nat) : Int) ≤ c)⟩
        case measure => simp [intOf]; omega
    · go_wp2
      go_ret
      exact ⟨ret_bool (by have := HR.out; simp [digB]; omega), rfl⟩

theorem hide {p : Prop} (h : p) : Hid p := h

/-- A part of a slice of bytes. -/
theorem Bytes.front {w : World} {ao : Option Addr} {len cap : Nat} {zs : List Int} (h : Bytes w ao len cap zs) (m : Nat) (hm : m ≤ len) (hp : 0 < m) : Bytes w ao m cap (zs.take m) := by
  obtain ⟨b, off, e, hc⟩ := h.cells (by omega)
  have hl := h.length
  refine ⟨by simp; omega, Nat.le_trans hm h.le, fun e' => by rw [e] at e'; simp at e', fun j => ?_, fun _ => ⟨b, off, e, fun j hj => ?_⟩⟩
  · have hb := h.bd j
    by_cases hj : j < m
    · simp only [List.getD, List.getElem?_take, hj, if_true] at hb ⊢; exact hb
    · simp [List.getD, List.getElem?_take, hj]
  · rw [hc j (by omega)]
    simp [List.getD, hj]
theorem Bytes.back {w : World} {b off len cap : Nat} {zs : List Int} (h : Bytes w (some ⟨b, off, none⟩) len cap zs) (m : Nat) (hm : m < len) : Bytes w (some ⟨b, off + m, none⟩) (len - m) (cap - m) (zs.drop m) := by
  have hl := h.length
  have hle := h.le
  obtain ⟨b', off', e, hc⟩ := h.cells (by omega)
  simp only [Option.some.injEq, Addr.mk.injEq, and_true] at e
  obtain ⟨rfl, rfl⟩ := e
  refine ⟨by simp; omega, by omega, fun e' => by simp at e', fun j => ?_, fun _ => ⟨b, off + m, rfl, fun j hj => ?_⟩⟩
  · have hb := h.bd (m + j)
    simpa [List.getD] using hb
  · rw [Nat.add_assoc, hc (m + j) (by omega)]
    simp [List.getD]
theorem all_halves (zs : List Int) (m : Nat) : zs.all digB = ((zs.take m).all digB && (zs.drop m).all digB) := by
  rw [← List.all_append, List.take_append_drop]

set_option maxHeartbeats 1600000 in
theorem allDec_any (n : Nat) : ∀ (ao : Option Addr) (len cap : Nat) (zs : List Int) (w : World), len ≤ n → Bytes w ao len cap zs → len ≤ 4194304 →
    Calls Try.prog 18 #[.slice ao len cap] w fun e w' => e = .returned (.bool (zs.all digB)) ∧ w' = w := by
  induction n with
  | zero =>
    intro ao len cap zs w hn hB hlen
    obtain rfl : len = 0 := by omega
    obtain rfl : zs = [] := List.eq_nil_of_length_eq_zero hB.length
    clear hB
    go_enter Try.func18, Try.ntmps18
    go_wp2_with fail
    go_ret
    exact ⟨rfl, rfl⟩
  | succ n ih =>
    intro ao len cap zs w hn hB hlen
    have IH : Hid (∀ (ao : Option Addr) (len cap : Nat) (zs : List Int) (w : World), len ≤ n → Bytes w ao len cap zs → len ≤ 4194304 →
      Calls Try.prog 18 #[.slice ao len cap] w fun e w' => e = .returned (.bool (zs.all digB)) ∧ w' = w) := ih
    clear ih
    by_cases h0 : len = 0
    · subst h0
      obtain rfl : zs = [] := List.eq_nil_of_length_eq_zero hB.length
      clear hB
      go_enter Try.func18, Try.ntmps18
      go_wp2_with fail
      go_ret
      exact ⟨rfl, rfl⟩
    · obtain ⟨b, off, rfl, hc⟩ := hB.cells (by omega)
      by_cases h1 : len = 1
      · subst h1
        obtain ⟨c, rfl⟩ : ∃ c, zs = [c] := by
          match zs, hB.length with
          | [c], _ => exact ⟨c, rfl⟩
        have hck := hc 0 (by omega)
        simp only [Nat.add_zero, List.getD_cons_zero] at hck
        clear hc hB
        go_enter Try.func18, Try.ntmps18
        go_wp2_with (go_at_call 24; refine (isDec_any c _).mono ?_; rintro e w' ⟨rfl, rfl⟩)
        go_ret
        exact ⟨ret_bool (by simp), rfl⟩
      · have HF : Hid (Bytes w (some ⟨b, off, none⟩) (len / 2) cap (zs.take (len / 2))) := hB.front (len / 2) (by omega) (by omega)
        have HG : Hid (Bytes w (some ⟨b, off + len / 2, none⟩) (len - len / 2) (cap - len / 2) (zs.drop (len / 2))) := hB.back (len / 2) (by omega)
        have hle := hB.le
        have hne : ¬ cap = len / 2 := by omega
        have HL : Hid (zs.all digB = ((zs.take (len / 2)).all digB && (zs.drop (len / 2)).all digB)) := all_halves zs (len / 2)
        obtain ⟨P, HP⟩ : ∃ P, Hid ((zs.take (len / 2)).all digB = P) := ⟨_, rfl⟩
        clear hc hB
        have C1 := IH.out _ _ _ _ w (by omega) HF.out (by omega)
        have C2 := IH.out _ _ _ _ w (by omega) HG.out (by omega)
        rw [HP.out] at C1
        have H1 := hide C1
        have H2 := hide C2
        clear C1 C2 IH HF HG
        cases P
        · go_enter Try.func18, Try.ntmps18
          go_wp2_with fail
          refine H1.out.mono ?_
          rintro e w' ⟨rfl, hw⟩
          have hw := hw.symm
          subst hw
          go_wp2_with fail
          go_ret
          exact ⟨ret_bool (by rw [HL.out, HP.out]; rfl), rfl⟩
        · go_enter Try.func18, Try.ntmps18
          go_wp2_with fail
          refine H1.out.mono ?_
          rintro e w' ⟨rfl, hw⟩
          have hw := hw.symm
          subst hw
          go_wp2_with fail
          refine H2.out.mono ?_
          rintro e w' ⟨rfl, hw⟩
          have hw := hw.symm
          subst hw
          go_wp2_with fail
          go_ret
          exact ⟨ret_bool (by rw [HL.out, HP.out]; rfl), rfl⟩

theorem small16 (a0 : Option Addr) (len0 cap0 : Nat) (w : World) (h : len0 ≤ 1048576) :
    Calls Try.prog 16 #[.slice a0 len0 cap0] w fun e w' => e = .returned (.bool true) ∧ w' = w := by
  go_enter Try.func16, Try.ntmps16
  go_wp2
  go_ret
  exact ⟨rfl, rfl⟩
theorem great16 (a0 : Option Addr) (len0 cap0 : Nat) (w : World) (h : ¬ len0 ≤ 1048576) :
    Calls Try.prog 16 #[.slice a0 len0 cap0] w fun e w' => e = .returned (.bool false) ∧ w' = w := by
  go_enter Try.func16, Try.ntmps16
  go_wp2
  all_goals
    go_ret
    exact ⟨rfl, rfl⟩

theorem halving_great (a0 : Option Addr) (len0 cap0 : Nat) (w : World) (h : ¬ len0 ≤ 1048576) :
    Calls Try.prog 6 #[.slice a0 len0 cap0] w fun e w' => e = .returned (.bool true) ∧ Below w.heap.size w w' := by
  go_enter Try.func6, Try.ntmps6
  go_wp2_with (go_at_call 16; refine (great16 a0 len0 cap0 _ h).mono ?_; rintro e w' ⟨rfl, rfl⟩)
  go_ret
  exact ⟨rfl, Below.refl _ _⟩

theorem halving_small (a0 : Option Addr) (len0 cap0 : Nat) (z0 : List Int) (w : World) (w0 : Bytes w a0 len0 cap0 z0) (h : len0 ≤ 1048576) :
    Calls Try.prog 6 #[.slice a0 len0 cap0] w fun e w' => e = .returned (.bool true) ∧ Below w.heap.size w w' := by
  go_enter Try.func6, Try.ntmps6
  go_wp2_with fail
  refine (small16 a0 len0 cap0 _ h).mono ?_
  rintro e w' ⟨rfl, hw⟩
  have hw := hw.symm
  subst hw
  go_wp2_with fail
  refine (clone_any a0 len0 cap0 z0 _ w0 (by omega)).mono ?_
  rintro e wa ⟨aa, ca, rfl, Ba, ba⟩
  have BA := hide Ba
  have BE := hide ba
  clear Ba ba w0
  go_wp2_with fail
  refine (zzDigits_any _ _ _ _ _ BA.out (by omega)).mono ?_
  rintro e w' ⟨rfl, hw⟩
  have hw := hw.symm
  subst hw
  by_cases h0 : len0 = 0
  · subst h0
    obtain rfl : z0 = [] := List.eq_nil_of_length_eq_zero BA.out.length
    clear BA
    go_wp2_with fail
    go_ret
    exact ⟨rfl, BE.out⟩
  · have hz : (0 : Int) < (len0 : Int) := by omega
    have HE : Hid (z0.isEmpty = false) := by
      show _ = _
      have := BA.out.length
      cases z0 with
      | nil => simp at this; omega
      | cons c cs => rfl
    go_wp2_with fail
    refine (allDec_any len0 _ _ _ _ _ (Nat.le_refl _) BA.out (by omega)).mono ?_
    rintro e w' ⟨rfl, hw⟩
    have hw := hw.symm
    subst hw
    go_wp2_with fail
    go_ret
    exact ⟨ret_bool (by rw [HE.out]; simp), BE.out⟩

end Go.Proofs.Qxb6603143a
