/-
  SEAT b6603187a: FnAppendAddressDecodesBack (4): the main walk, international numbers.
-/
import Derived.Test.Qxb6603187aAddrMain
namespace Go.Proofs.Qxb6603187a
open Go.RowKit

set_option maxRecDepth 100000 in
set_option maxHeartbeats 4000000 in
theorem addr_main_true (s : ByteArray) (a2 : Option Addr) (n c : Nat) (z : List Int) (w : World) (hB : Bytes w a2 n c z) (h : s.size + n ≤ 1048576) (h2 : s.size ≤ 65536) (hd : (dg s).all digB = true) :
    Calls Try.prog 4 #[.bool true, .string s, .slice a2 n c] w fun e w' => e = .returned (.bool true) ∧ Below w.heap.size w w' := by
  obtain ⟨i0, hi, hz0, hz1, hz2⟩ := info_parts Try.info5
  have HC := hide (isDec_any s w (by omega))
  rw [hd] at HC
  have HD := hide hd
  clear hd
  go_enter Try.func4, Try.ntmps4
  go_wp2_with fail
  refine (small8 true s a2 n c _ h).mono ?_
  rintro e w' ⟨rfl, hw⟩
  have hw := hw.symm
  subst hw
  go_wp2_with fail
  refine HC.out.mono ?_
  rintro e w' ⟨rfl, hw⟩
  have hw := hw.symm
  subst hw
  clear HC
  go_wp2_with fail
  refine (clone_any a2 n c z _ hB (by omega)).mono ?_
  rintro e w1 ⟨aa, ca, rfl, _, BA, bel1⟩
  go_wp2_with fail
  refine (clone_any aa n ca z _ BA (by omega)).mono ?_
  rintro e w2 ⟨ab, cb, rfl, own2, _, bel2⟩
  go_wp2_with fail
  refine (zzAddr_any true s _ n z w1.heap.size _ h2 HD.out (by omega) own2 bel2.size).mono ?_
  rintro e w3 ⟨v', rfl, own3, bel3⟩
  obtain ⟨N, HN⟩ : ∃ N, Hid (N = n + 2 + (s.size + 1) / 2) := ⟨_, rfl⟩
  have hN1 : 2 * N ≤ 2 * n + 4 + s.size + 1 := by rw [HN.out]; omega
  have hN2 : 2 * n + 4 + s.size ≤ 2 * N := by rw [HN.out]; omega
  rw [← HN.out] at own3
  obtain ⟨g, cg, rfl, _⟩ := owned_shape own3 (by omega)
  have B13 : Below w1.heap.size w1 w3 := bel2.trans bel3
  have HA := hide (BA.later B13)
  have HG : Hid (∀ j, j < N → w3.cell? ⟨g, j, none⟩ = some (.int .u8 ((z ++ [cnt s, toa true] ++ enc (dg s)).getD j 0))) := by
    intro j hj
    rw [own3.cellAt j (by omega)]
    have hl := own3.1
    simp only [List.length_map] at hl
    rw [List.getElem?_map, List.getElem?_eq_getElem (by omega), List.getD_eq_getElem?_getD, List.getElem?_eq_getElem (by omega)]
    rfl
  have HW := hide (bel1.trans (B13.mono bel1.size))
  clear BA bel1 own2 bel2 own3 bel3 B13 hB
  go_wp2
  go_loopw [10] (fun i wr => ∃ (k : Nat), k ≤ n ∧ i = .int .i64 k ∧ Hid (Below w3.heap.size w3 wr)) (fun i _ => n - (intOf i).toNat)
  case atStart => exact ⟨0, Nat.zero_le _, rfl, Below.refl _ _⟩
  case round =>
    obtain ⟨k, hk, rfl, HB⟩ := hrel
    by_cases hlt : k < n
    · obtain ⟨b, off, rfl, hc⟩ := HA.out.cells (by omega)
      have hlt' : (k : Int) < (n : Int) := by omega
      have hlN : (k : Int) < (N : Int) := by omega
      have c1 : wr.cell? ⟨b, off + k, none⟩ = some (.int .u8 (z.getD k 0)) := cell_later HB.out (hc k hlt)
      have c2 : wr.cell? ⟨g, k, none⟩ = some (.int .u8 (z.getD k 0)) := by
        have := cell_later HB.out (HG.out k (by omega))
        rwa [G_lt z _ _ _ k (by rw [HA.out.length]; exact hlt)] at this
      obtain ⟨x, HX⟩ : ∃ x, Hid (z.getD k 0 = x) := ⟨_, rfl⟩
      rw [HX.out] at c1 c2
      clear hc HX
      go_wp2
      go_region
      all_goals
        go_wp2
        go_roundw
        case rel => exact ⟨k + 1, by omega, by go_num, HB.out.drew⟩
        case measure => simp [intOf]; omega
    · obtain rfl : n = k := by omega
      obtain ⟨wl, rfl⟩ : ∃ wl, wl = wr := ⟨_, rfl⟩
      have c0 : wl.cell? ⟨g, n, none⟩ = some (.int .u8 (cnt s)) := by
        have := cell_later HB.out (HG.out n (by omega))
        rwa [G_0 z _ _ _ n HA.out.length] at this
      have c1 : wl.cell? ⟨g, n + 1, none⟩ = some (.int .u8 145) := by
        have := cell_later HB.out (HG.out (n + 1) (by omega))
        rwa [G_1 z _ _ _ n HA.out.length] at this
      obtain ⟨cn, HCN⟩ : ∃ cn, Hid (cnt s = cn) := ⟨_, rfl⟩
      rw [HCN.out] at c0
      clear hk hlt
      go_wp2_with (at_make; refine wpList_make_own _ rfl _ _ 22 rfl wl.heap.size 5 i0 (.int .u8 0) 1 Try.underlying22 hi hz0 hz1 _ _ _ s.size rfl rfl rfl ?b2 ?b3 (Nat.le_refl _) ?_)
      case b2 => rw [hz2]; omega
      case b3 => unfold maxLen; omega
      intro w4 own4 grow4
      have HB4 : Hid (Below w3.heap.size w3 w4) := HB.out.grown grow4 HB.out.size (fun k h => by cases h)
      have HO4 : Hid (w4.ownsRow wl.heap.size 5 1 (.slice (some ⟨wl.heap.size, 0, none⟩) 0 s.size) 0 (firsts s 0)) := own4
      have hgz := HB.out.size
      clear own4 grow4 c0 c1 HB
      go_wp2
      go_loopw [14, 15] (fun dv kv wq => ∃ (k j q : Nat), kv = .int .i64 k ∧ k ≤ N ∧ q ≤ s.size ∧ dv = .slice (some ⟨wl.heap.size, 0, none⟩) q s.size ∧ Hid (k = n + 2 + j) ∧ Hid (2 * j ≤ s.size + 1) ∧ Hid ((2 * j ≤ s.size → q = 2 * j) ∧ (s.size < 2 * j → q = s.size)) ∧
          Hid (wq.ownsRow wl.heap.size 5 1 (.slice (some ⟨wl.heap.size, 0, none⟩) q s.size) q (firsts s q)) ∧ Hid (Below w3.heap.size w3 wq))
        (fun _ kv _ => N - (intOf kv).toNat)
      case atStart => exact ⟨n + 2, 0, 0, by go_num, by omega, Nat.zero_le _, rfl, (rfl : n + 2 = n + 2 + 0), (by omega : 2 * 0 ≤ s.size + 1), (⟨fun _ => rfl, fun h => by omega⟩ : (2 * 0 ≤ s.size → 0 = 2 * 0) ∧ (s.size < 2 * 0 → 0 = s.size)), HO4, HB4⟩
      case round =>
        obtain ⟨k, j, q, rfl, hkN, hqs, rfl, HK, HJ, HQ, HO, HB⟩ := hrel
        clear HO4 HB4
        by_cases hlt : k < N
        · have HQ2 : Hid (q = 2 * j) := HQ.out.1 (by have := HK.out; omega)
          have hqs1 : q < s.size := by have := HK.out; have := HQ2.out; omega
          have hlt' : (k : Int) < (N : Int) := by omega
          have hd0 := dig_of_all HD.out q (by rw [dg_length]; exact hqs1)
          obtain ⟨lo, HLo⟩ : ∃ lo, Hid ((dg s).getD q 0 = 48 + lo) := ⟨(dg s).getD q 0 - 48, (by omega : _ = _)⟩
          rw [HLo.out] at hd0
          have hlo0 : 0 ≤ lo := by omega
          have hlo9 : lo ≤ 9 := by omega
          have HT1 := hide (take_push s q hqs1)
          rw [HLo.out] at HT1
          have hcell := cell_later HB.out (HG.out k hlt)
          rw [HK.out, G_2 z _ _ _ n j HA.out.length, ← HK.out] at hcell
          have hwz := HB.out.size
          clear hd0
          by_cases hq1 : q + 1 < s.size
          · have hd1 := dig_of_all HD.out (q + 1) (by rw [dg_length]; exact hq1)
            obtain ⟨hn, HHn⟩ : ∃ hn, Hid ((dg s).getD (q + 1) 0 = 48 + hn) := ⟨(dg s).getD (q + 1) 0 - 48, (by omega : _ = _)⟩
            rw [HHn.out] at hd1
            have hhn0 : 0 ≤ hn := by omega
            have hhn9 : hn ≤ 9 := by omega
            have HT2 := hide (take_push s (q + 1) hq1)
            rw [HHn.out] at HT2
            rw [enc_pair _ j (by rw [dg_length]; have := HQ2.out; omega), ← HQ2.out, HHn.out, HLo.out, show (48 + hn - 48) * 16 + (48 + lo - 48) = hn * 16 + lo from by omega] at hcell
            obtain ⟨x, HX⟩ : ∃ x, Hid (hn * 16 + lo = x) := ⟨_, rfl⟩
            rw [HX.out] at hcell
            have e1 : bits .and .u8 x 15 = lo := by rw [← HX.out]; exact octet_lo hn lo (by omega) (by omega) hlo0 hlo9
            have e2 : x / 16 = hn := by rw [← HX.out]; omega
            have hx0 : 0 ≤ x := by rw [← HX.out]; omega
            have hx1 : x ≤ 255 := by rw [← HX.out]; omega
            clear hd1
            go_wp2_with (at_builtin; refine wpList_append_fits _ rfl (.tmp 117) (.tmp 120) 22 rfl wl.heap.size 5 i0 1 Try.underlying22 hi hz1 wl.heap.size q s.size _ rfl (HO.out.alloc _) ⟨wr.heap.size, 0, none⟩ 1 1 [.int .u8 (48 + lo)] rfl rfl ?m1 ?m2 (by omega) ?_)
            case m1 => exact cell_one_new _ _ _
            case m2 => intro u hu; simp at hu; subst hu; rfl
            intro w5 own5 grow5
            rw [HT1.out] at own5
            have HO5 := hide own5
            have HB5 : Hid (Below w3.heap.size w3 w5) := (HB.out.alloc HB.out.size _).grown grow5 (by simp; omega) (fun k hk => by cases hk; omega)
            clear own5 grow5
            go_wp2_with (at_builtin; refine wpList_append_fits _ rfl (.tmp 136) (.tmp 139) 22 rfl wl.heap.size 5 i0 1 Try.underlying22 hi hz1 wl.heap.size (q + 1) s.size _ rfl (HO5.out.alloc _) ⟨w5.heap.size, 0, none⟩ 1 1 [.int .u8 (48 + hn)] rfl rfl ?n1 ?n2 (by omega) ?_)
            case n1 => exact cell_one_new _ _ _
            case n2 => intro u hu; simp at hu; subst hu; rfl
            intro w6 own6 grow6
            rw [HT2.out] at own6
            have HO6 := hide own6
            have hwz5 := HB5.out.size
            have HB6 : Hid (Below w3.heap.size w3 w6) := (HB5.out.alloc HB5.out.size _).grown grow6 (by simp; omega) (fun k hk => by cases hk; omega)
            clear own6 grow6
            go_wp2
            go_roundw
            case rel => exact ⟨k + 1, j + 1, q + 2, by go_num, by omega, by omega, rfl, (by have := HK.out; omega : k + 1 = n + 2 + (j + 1)), (by have := HQ2.out; omega : 2 * (j + 1) ≤ s.size + 1), (by have := HQ2.out; exact ⟨fun _ => by omega, fun _ => by omega⟩ : (2 * (j + 1) ≤ s.size → q + 2 = 2 * (j + 1)) ∧ (s.size < 2 * (j + 1) → q + 2 = s.size)), HO6, HB6⟩
            case measure => simp [intOf]; omega
          · rw [enc_last _ j (by rw [dg_length]; have := HQ2.out; omega), ← HQ2.out, HLo.out, show 240 + (48 + lo - 48) = 15 * 16 + lo from by omega] at hcell
            obtain ⟨x, HX⟩ : ∃ x, Hid (15 * 16 + lo = x) := ⟨_, rfl⟩
            rw [HX.out] at hcell
            have e1 : bits .and .u8 x 15 = lo := by rw [← HX.out]; exact octet_lo 15 lo (by omega) (by omega) hlo0 hlo9
            have e2 : x / 16 = 15 := by rw [← HX.out]; omega
            have hx0 : 0 ≤ x := by rw [← HX.out]; omega
            have hx1 : x ≤ 255 := by rw [← HX.out]; omega
            have hkl : k + 1 = N := by have := HK.out; have := HQ2.out; omega
            have hkl' : (k : Int) + 1 ≤ (N : Int) := by omega
            have hkl2 : (N : Int) ≤ (k : Int) + 1 := by omega
            have HKL := hide hkl
            clear hkl
            go_wp2_with (at_builtin; refine wpList_append_fits _ rfl (.tmp 117) (.tmp 120) 22 rfl wl.heap.size 5 i0 1 Try.underlying22 hi hz1 wl.heap.size q s.size _ rfl (HO.out.alloc _) ⟨wr.heap.size, 0, none⟩ 1 1 [.int .u8 (48 + lo)] rfl rfl ?o1 ?o2 (by omega) ?_)
            case o1 => exact cell_one_new _ _ _
            case o2 => intro u hu; simp at hu; subst hu; rfl
            intro w5 own5 grow5
            rw [HT1.out] at own5
            have HO5 := hide own5
            have HB5 : Hid (Below w3.heap.size w3 w5) := (HB.out.alloc HB.out.size _).grown grow5 (by simp; omega) (fun k hk => by cases hk; omega)
            clear own5 grow5
            go_wp2
            go_roundw
            case rel => exact ⟨k + 1, j + 1, q + 1, by go_num, by omega, by omega, rfl, (by have := HK.out; omega : k + 1 = n + 2 + (j + 1)), (by have := HQ2.out; omega : 2 * (j + 1) ≤ s.size + 1), (by have := HQ2.out; exact ⟨fun _ => by omega, fun _ => by omega⟩ : (2 * (j + 1) ≤ s.size → q + 1 = 2 * (j + 1)) ∧ (s.size < 2 * (j + 1) → q + 1 = s.size)), HO5, HB5⟩
            case measure => simp [intOf]; omega
        · obtain ⟨wq, rfl⟩ : ∃ wq, wq = wr := ⟨_, rfl⟩
          have hqe : q = s.size := by
            have h1 := HK.out
            have h3 := HQ.out
            by_cases h4 : 2 * j ≤ s.size
            · have := h3.1 h4; omega
            · exact h3.2 (by omega)
          have HO7 : Hid (∀ i, i < s.size → wq.cell? ⟨wl.heap.size, i, none⟩ = some (.int .u8 ((dg s).getD i 0))) := by
            intro i hi
            have := HO.out
            rw [hqe] at this
            rw [this.cellAt i (by omega), firsts, List.getElem?_map, List.getElem?_take, if_pos hi]
            have h' : i < (dg s).length := by rw [dg_length]; exact hi
            simp [List.getD, h']
          have HQE := hide hqe
          have hq1 : s.size ≤ q := by omega
          clear hqe HO
          go_wp2
          go_loopw [18] (fun iv wp => ∃ (i : Nat), i ≤ s.size ∧ iv = .int .i64 i ∧ Hid (Below wq.heap.size wq wp)) (fun iv _ => s.size - (intOf iv).toNat)
          case atStart => exact ⟨0, Nat.zero_le _, rfl, Below.refl _ _⟩
          case round =>
            obtain ⟨i, his, rfl, HBp⟩ := hrel
            by_cases hil : i < s.size
            · have hil' : (i : Int) < (q : Int) := by omega
              have hil2 : (i : Int) < (s.size : Int) := by omega
              have hc1 := cell_later HBp.out (HO7.out i hil)
              rw [dg_get s i hil] at hc1
              go_wp2
              go_region
              all_goals
                go_wp2
                go_roundw
                case rel => exact ⟨i + 1, by omega, by go_num, HBp.out.drew⟩
                case measure => simp [intOf]; omega
            · have HF : Hid (Below w.heap.size w wr) := HW.out.trans ((HB.out.trans (HBp.out.mono HB.out.size)).mono HW.out.size)
              go_wp2
              go_ret
              refine ⟨ret_bool ?_, HF.out⟩
              have := HCN.out
              unfold cnt at this
              have h2 := HQE.out
              rw [← this, h2]
              simp

end Go.Proofs.Qxb6603187a
