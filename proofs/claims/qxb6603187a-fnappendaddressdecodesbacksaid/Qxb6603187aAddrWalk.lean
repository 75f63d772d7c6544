/-
  SEAT b6603187a: zzIsDecimal (9), Number.appendAddress (14), ZZAppendAddress (11).
-/
import Derived.Test.Qxb6603187aBase
import Derived.Test.Qxb6603187aAddrPlain
namespace Go.Proofs.Qxb6603187a
open Go.RowKit

set_option maxHeartbeats 1000000 in
theorem isDec_any (s : ByteArray) (w : World) (hs : s.size ≤ 1048576) :
    Calls Try.prog 9 #[.string s] w fun e w' => e = .returned (.bool ((dg s).all digB)) ∧ w' = w := by
  have H0 : Hid ((dg s).all digB = ((dg s).drop 0).all digB) := by show _ = _; rfl
  go_enter Try.func9, Try.ntmps9
  go_wp2
  go_loop [3] (fun i => ∃ (k : Nat), k ≤ s.size ∧ i = .int .i64 k ∧ Hid ((dg s).all digB = ((dg s).drop k).all digB)) (fun i => s.size - (intOf i).toNat)
  case atStart => exact ⟨0, Nat.zero_le _, rfl, H0⟩
  case round =>
    obtain ⟨k, hk, rfl, HR⟩ := hrel
    clear H0
    by_cases hlt : k < s.size
    · have HR2 : Hid ((dg s).all digB = (digB (s[k].toNat : Int) && ((dg s).drop (k + 1)).all digB)) := by
        show _ = _
        rw [HR.out, drop_cons' (by rw [dg_length]; exact hlt), List.all_cons, dg_get s k hlt]
      by_cases h1 : 48 ≤ (s[k].toNat : Int) ∧ (s[k].toNat : Int) ≤ 57
      · have HR3 : Hid ((dg s).all digB = ((dg s).drop (k + 1)).all digB) := by
          show _ = _
          rw [HR2.out, show digB (s[k].toNat : Int) = true from by simp only [digB, h1]; rfl, Bool.true_and]
        obtain ⟨h1a, h1b⟩ := h1
        clear HR2 HR
        go_wp2
        go_round
        case rel => exact ⟨k + 1, by omega, by go_num, HR3⟩
        case measure => simp [intOf]; omega
      · have HR3 : Hid ((dg s).all digB = false) := by
          show _ = _
          rw [HR2.out, show digB (s[k].toNat : Int) = false from by simp only [digB, h1]; rfl, Bool.false_and]
        clear HR2 HR
        rcases (show (s[k].toNat : Int) < 48 ∨ 57 < (s[k].toNat : Int) from by omega) with h | h
        all_goals
          clear h1
          go_wp2
          go_ret
          exact ⟨ret_bool HR3.out.symm, rfl⟩
    · have HR2 : Hid ((dg s).all digB = true) := by
        show _ = _
        rw [HR.out, List.drop_eq_nil_of_le (by rw [dg_length]; omega)]; rfl
      clear HR
      go_wp2
      go_ret
      exact ⟨ret_bool HR2.out.symm, rfl⟩

def cnt (s : ByteArray) : Int := (s.size : Int) % 256
def toa (b : Bool) : Int := if b = true then 145 else 129

/-- The box of the receiver stays as it was behind the first append. -/
theorem box_kept {w w1 : World} {base n : Nat} {v : Value} {xs : List Value} {bs cs : Array Value} {t : TypeId} (hg : ((w.alloc (.cells bs 38)).alloc (.cells cs t)).grownBy w1 v.ownBlock) (hown : w.ownsRow base 5 1 v n xs) :
    w1.heap[w.heap.size]? = some (.cells bs 38 (0, 0)) := by
  have h1 : ((w.alloc (.cells bs 38)).alloc (.cells cs t)).heap[w.heap.size]? = some (.cells bs 38 (0, 0)) := by
    rw [Below.heap_alloc _ _ _ (by simp), heap_alloc_new]
  refine (hg.block w.heap.size (by simp; omega) ?_).trans h1
  intro e
  have := hown.lt w.heap.size e.symm
  omega
theorem octet_join (h l : Int) (h0 : 48 ≤ h) (h1 : h ≤ 57) (l0 : 48 ≤ l) (l1 : l ≤ 57) : bits .or .u8 ((h - 48) * 16) (l - 48) = (h - 48) * 16 + (l - 48) :=
  bits_join .u8 8 (by decide) wraps_u8 4 _ _ (by omega) (by omega) (by omega) (by omega) (by omega) (by omega)
theorem octet_last (l : Int) (l0 : 48 ≤ l) (l1 : l ≤ 57) : bits .or .u8 240 (l - 48) = 240 + (l - 48) :=
  bits_join .u8 8 (by decide) wraps_u8 4 _ _ (by omega) (by omega) (by omega) (by omega) (by omega) (by omega)
/-- A round's append: what is owned, the box, what lies below. -/
theorem rel_next {w wr w2 : World} {base c bx : Nat} {v v2 : Value} {xs : List Int} {y : Int} {bs : Array Value} (hown : wr.ownsRow base 5 1 v c (xs.map (Value.int .u8))) (hx : wr.heap[bx]? = some (.cells bs 38 (0, 0))) (hbel : Below base w wr) (hb : base ≤ w.heap.size)
    (hown2 : w2.ownsRow base 5 1 v2 (c + 1) (xs.map (Value.int .u8) ++ [.int .u8 y])) (hgrow : (wr.alloc (.cells #[.int .u8 y] 5)).grownBy w2 v.ownBlock) :
    w2.ownsRow base 5 1 v2 (c + 1) ((xs ++ [y]).map (Value.int .u8)) ∧ w2.heap[bx]? = some (.cells bs 38 (0, 0)) ∧ Below base w w2 := by
  have hlt : bx < wr.heap.size := (Array.getElem?_eq_some_iff.1 hx).1
  have hsz := hbel.size
  refine ⟨by simpa using hown2, ?_, (hbel.alloc (by omega) _).grown hgrow (by simp; omega) (fun k hk => (hown.lt k hk).1)⟩
  refine (hgrow.block bx (by simp; omega) ?_).trans ((Below.heap_alloc _ _ _ hlt).trans hx)
  intro e
  rcases hown.2 with ⟨rfl, _⟩ | ⟨g, cap, cur, rfl, _, hg, _⟩
  · simp [Value.ownBlock] at e
  · simp [Value.ownBlock] at e
    subst e
    rw [hg] at hx
    simp at hx

set_option maxHeartbeats 1000000 in
theorem addr_any (intl : Bool) (s : ByteArray) (v : Value) (n : Nat) (zs : List Int) (base : Nat) (w : World) (hs : s.size ≤ 65536) (hd : (dg s).all digB = true) (hn : n ≤ 1048576)
    (hown : w.ownsRow base 5 1 v n (zs.map (Value.int .u8))) (hb : base ≤ w.heap.size) :
    Calls Try.prog 14 #[.agg #[.bool intl, .string s], v] w fun e w' => ∃ v', e = .returned v' ∧ w'.ownsRow base 5 1 v' (n + 2 + (s.size + 1) / 2) ((zs ++ [cnt s, toa intl] ++ enc (dg s)).map (Value.int .u8)) ∧ Below base w w' := by
  obtain ⟨i0, hi, hz0, hz1, hz2⟩ := info_parts Try.info5
  have HD := hide hd
  clear hd
  cases intl
  · go_enter Try.func14, Try.ntmps14
    go_wp2_with (at_builtin; refine wpList_append_own _ rfl (.tmp 10) (.tmp 16) 22 rfl base 5 i0 (.int .u8 0) 1 1 Try.underlying22 hi hz0 hz1 hz2 rfl (by decide) _ n _ rfl ((hown.alloc _).alloc _) ⟨w.heap.size + 1, 0, none⟩ 2 2 [.int .u8 ((s.size : Int) % 256), .int .u8 129] rfl rfl ?c1f ?c2f ?c3f ?c4f ?c5f ?_)
    case c1f =>
      intro j u hj
      match j, hj with
      | 0, hj => simp at hj; subst hj; simp [Addr.add, go_sem]
      | 1, hj => simp at hj; subst hj; simp [Addr.add, go_sem]
    case c2f => intro u hu; simp at hu; rcases hu with rfl | rfl <;> rfl
    case c3f => unfold maxLen; omega
    case c4f => omega
    case c5f => simp; omega
    intro v1 w1 hown1 hgrow1 _
    have HX : Hid (w1.heap[w.heap.size]? = some (.cells #[.bool false, .string s] 38 (0, 0))) := box_kept hgrow1 hown
    have HB1 : Hid (Below base w w1) := (((Below.refl _ _).alloc hb _).alloc (by simp; omega) _).grown hgrow1 (by simp; omega) (fun k hk => (hown.lt k hk).1)
    have HS : Hid ((zs ++ [cnt s, 129]) ++ enc ((dg s).drop 0) = zs ++ [cnt s, toa false] ++ enc (dg s)) := by show _ = _; rfl
    have HO1 : Hid (w1.ownsRow base 5 1 v1 (n + 2) ((zs ++ [cnt s, 129]).map (Value.int .u8))) := by
      have := hown1
      rw [List.map_append]
      exact this
    clear hown1 hgrow1 hown
    go_wp2
    go_loopw [1, 6] (fun v i wr => ∃ (k c : Nat) (xs : List Int), k ≤ s.size + 1 ∧ i = .int .i64 k ∧ Hid (k % 2 = 0) ∧ Hid (c = n + 2 + k / 2) ∧ Hid (wr.ownsRow base 5 1 v c (xs.map (Value.int .u8))) ∧
        Hid (xs ++ enc ((dg s).drop k) = zs ++ [cnt s, toa false] ++ enc (dg s)) ∧ Hid (wr.heap[w.heap.size]? = some (.cells #[.bool false, .string s] 38 (0, 0))) ∧ Hid (Below base w wr))
      (fun _ i _ => s.size + 1 - (intOf i).toNat)
    case atStart => exact ⟨0, n + 2, zs ++ [cnt s, 129], Nat.zero_le _, rfl, (rfl : 0 % 2 = 0), (rfl : n + 2 = n + 2 + 0 / 2), HO1, HS, HX, HB1⟩
    case round =>
      obtain ⟨k, c, xs, hk, rfl, HE, HC, HO, HR, HX2, HB2⟩ := hrel
      clear HX HB1 HS HO1
      have cb1 : wr.cell? ⟨w.heap.size, 1, none⟩ = some (.string s) := by rw [cell_of_row wr _ 1 _ _ _ HX2.out]; rfl
      by_cases hlt : k < s.size
      · have hd0 := dig_of_all HD.out k (by rw [dg_length]; exact hlt)
        rw [dg_get s k hlt] at hd0
        obtain ⟨hd0a, hd0b⟩ := hd0
        have hc' := HC.out
        by_cases hlt1 : k + 1 < s.size
        · have hd1 := dig_of_all HD.out (k + 1) (by rw [dg_length]; exact hlt1)
          rw [dg_get s (k + 1) hlt1] at hd1
          obtain ⟨hd1a, hd1b⟩ := hd1
          have hcb : c ≤ 2000000 := by omega
          have HN : Hid (bits .or .u8 (((s[k + 1].toNat : Int) - 48) * 16) ((s[k].toNat : Int) - 48) = ((dg s).getD (k + 1) 0 - 48) * 16 + ((dg s).getD k 0 - 48)) := by
            show _ = _
            rw [dg_get s k hlt, dg_get s (k + 1) hlt1]
            exact octet_join _ _ (by omega) (by omega) (by omega) (by omega)
          have HRn : Hid ((xs ++ [((dg s).getD (k + 1) 0 - 48) * 16 + ((dg s).getD k 0 - 48)]) ++ enc ((dg s).drop (k + 2)) = zs ++ [cnt s, toa false] ++ enc (dg s)) := by
            show _ = _
            rw [← HR.out, enc_step2 (l := dg s) (i := k) (by rw [dg_length]; exact hlt1)]
            simp only [List.append_assoc, List.singleton_append]
          clear hc' HR
          go_wp2_with (at_builtin; refine wpList_append_own _ rfl (.tmp 37) (.tmp 46) 22 rfl base 5 i0 (.int .u8 0) 1 1 Try.underlying22 hi hz0 hz1 hz2 rfl (by decide) _ c _ rfl (HO.out.alloc _) ⟨wr.heap.size, 0, none⟩ 1 1 [.int .u8 (bits .or .u8 (((s[k + 1].toNat : Int) - 48) * 16) ((s[k].toNat : Int) - 48))] rfl rfl ?d1f ?d2f ?d3f ?d4f ?d5f ?_)
          case d1f => exact cell_one_new _ _ _
          case d2f => intro u hu; simp at hu; subst hu; rfl
          case d3f => unfold maxLen; omega
          case d4f => omega
          case d5f => have := HB2.out.size; simp; omega
          intro v2 w2 hown2 hgrow2 _
          have T := rel_next HO.out HX2.out HB2.out hb hown2 hgrow2
          rw [HN.out] at T
          have HT : Hid (_ ∧ _ ∧ _) := T
          clear hown2 hgrow2 T
          go_wp2
          go_roundw
          case rel => exact ⟨k + 2, c + 1, xs ++ [((dg s).getD (k + 1) 0 - 48) * 16 + ((dg s).getD k 0 - 48)], by omega, by go_num, (by have := HE.out; omega : (k + 2) % 2 = 0), (by have := HC.out; omega : c + 1 = n + 2 + (k + 2) / 2), HT.out.1, HRn, HT.out.2.1, HT.out.2.2⟩
          case measure => simp [intOf]; omega
        · have hcb : c ≤ 2000000 := by omega
          have HN : Hid (bits .or .u8 240 ((s[k].toNat : Int) - 48) = 240 + ((dg s).getD k 0 - 48)) := by
            show _ = _
            rw [dg_get s k hlt]
            exact octet_last _ (by omega) (by omega)
          have HRn : Hid ((xs ++ [240 + ((dg s).getD k 0 - 48)]) ++ enc ((dg s).drop (k + 2)) = zs ++ [cnt s, toa false] ++ enc (dg s)) := by
            show _ = _
            rw [← HR.out, enc_step1 (l := dg s) (i := k) (by rw [dg_length]; omega), List.drop_eq_nil_of_le (by rw [dg_length]; omega)]
            simp only [enc, List.append_nil]
          clear hc' HR
          go_wp2_with (at_builtin; refine wpList_append_own _ rfl (.tmp 37) (.tmp 46) 22 rfl base 5 i0 (.int .u8 0) 1 1 Try.underlying22 hi hz0 hz1 hz2 rfl (by decide) _ c _ rfl (HO.out.alloc _) ⟨wr.heap.size, 0, none⟩ 1 1 [.int .u8 (bits .or .u8 240 ((s[k].toNat : Int) - 48))] rfl rfl ?e1f ?e2f ?e3f ?e4f ?e5f ?_)
          case e1f => exact cell_one_new _ _ _
          case e2f => intro u hu; simp at hu; subst hu; rfl
          case e3f => unfold maxLen; omega
          case e4f => omega
          case e5f => have := HB2.out.size; simp; omega
          intro v2 w2 hown2 hgrow2 _
          have T := rel_next HO.out HX2.out HB2.out hb hown2 hgrow2
          rw [HN.out] at T
          have HT : Hid (_ ∧ _ ∧ _) := T
          clear hown2 hgrow2 T
          go_wp2
          go_roundw
          case rel => exact ⟨k + 2, c + 1, xs ++ [240 + ((dg s).getD k 0 - 48)], by omega, by go_num, (by have := HE.out; omega : (k + 2) % 2 = 0), (by have := HC.out; omega : c + 1 = n + 2 + (k + 2) / 2), HT.out.1, HRn, HT.out.2.1, HT.out.2.2⟩
          case measure => simp [intOf]; omega
      · have HRn : Hid (xs = zs ++ [cnt s, toa false] ++ enc (dg s)) := by
          show _ = _
          rw [← HR.out, List.drop_eq_nil_of_le (by rw [dg_length]; omega)]
          simp only [enc, List.append_nil]
        have HCn : Hid (c = n + 2 + (s.size + 1) / 2) := by
          show _ = _
          have h1 := HC.out
          have h2 := HE.out
          omega
        clear HR
        go_wp2
        go_ret
        refine ⟨_, rfl, ?_, HB2.out⟩
        have := HO.out
        rw [HRn.out, HCn.out] at this
        exact this
  · go_enter Try.func14, Try.ntmps14
    go_wp2_with (at_builtin; refine wpList_append_own _ rfl (.tmp 10) (.tmp 16) 22 rfl base 5 i0 (.int .u8 0) 1 1 Try.underlying22 hi hz0 hz1 hz2 rfl (by decide) _ n _ rfl ((hown.alloc _).alloc _) ⟨w.heap.size + 1, 0, none⟩ 2 2 [.int .u8 ((s.size : Int) % 256), .int .u8 145] rfl rfl ?c1t ?c2t ?c3t ?c4t ?c5t ?_)
    case c1t =>
      intro j u hj
      match j, hj with
      | 0, hj => simp at hj; subst hj; simp [Addr.add, go_sem]
      | 1, hj => simp at hj; subst hj; simp [Addr.add, go_sem]
    case c2t => intro u hu; simp at hu; rcases hu with rfl | rfl <;> rfl
    case c3t => unfold maxLen; omega
    case c4t => omega
    case c5t => simp; omega
    intro v1 w1 hown1 hgrow1 _
    have HX : Hid (w1.heap[w.heap.size]? = some (.cells #[.bool true, .string s] 38 (0, 0))) := box_kept hgrow1 hown
    have HB1 : Hid (Below base w w1) := (((Below.refl _ _).alloc hb _).alloc (by simp; omega) _).grown hgrow1 (by simp; omega) (fun k hk => (hown.lt k hk).1)
    have HS : Hid ((zs ++ [cnt s, 145]) ++ enc ((dg s).drop 0) = zs ++ [cnt s, toa true] ++ enc (dg s)) := by show _ = _; rfl
    have HO1 : Hid (w1.ownsRow base 5 1 v1 (n + 2) ((zs ++ [cnt s, 145]).map (Value.int .u8))) := by
      have := hown1
      rw [List.map_append]
      exact this
    clear hown1 hgrow1 hown
    go_wp2
    go_loopw [1, 6] (fun v i wr => ∃ (k c : Nat) (xs : List Int), k ≤ s.size + 1 ∧ i = .int .i64 k ∧ Hid (k % 2 = 0) ∧ Hid (c = n + 2 + k / 2) ∧ Hid (wr.ownsRow base 5 1 v c (xs.map (Value.int .u8))) ∧
        Hid (xs ++ enc ((dg s).drop k) = zs ++ [cnt s, toa true] ++ enc (dg s)) ∧ Hid (wr.heap[w.heap.size]? = some (.cells #[.bool true, .string s] 38 (0, 0))) ∧ Hid (Below base w wr))
      (fun _ i _ => s.size + 1 - (intOf i).toNat)
    case atStart => exact ⟨0, n + 2, zs ++ [cnt s, 145], Nat.zero_le _, rfl, (rfl : 0 % 2 = 0), (rfl : n + 2 = n + 2 + 0 / 2), HO1, HS, HX, HB1⟩
    case round =>
      obtain ⟨k, c, xs, hk, rfl, HE, HC, HO, HR, HX2, HB2⟩ := hrel
      clear HX HB1 HS HO1
      have cb1 : wr.cell? ⟨w.heap.size, 1, none⟩ = some (.string s) := by rw [cell_of_row wr _ 1 _ _ _ HX2.out]; rfl
      by_cases hlt : k < s.size
      · have hd0 := dig_of_all HD.out k (by rw [dg_length]; exact hlt)
        rw [dg_get s k hlt] at hd0
        obtain ⟨hd0a, hd0b⟩ := hd0
        have hc' := HC.out
        by_cases hlt1 : k + 1 < s.size
        · have hd1 := dig_of_all HD.out (k + 1) (by rw [dg_length]; exact hlt1)
          rw [dg_get s (k + 1) hlt1] at hd1
          obtain ⟨hd1a, hd1b⟩ := hd1
          have hcb : c ≤ 2000000 := by omega
          have HN : Hid (bits .or .u8 (((s[k + 1].toNat : Int) - 48) * 16) ((s[k].toNat : Int) - 48) = ((dg s).getD (k + 1) 0 - 48) * 16 + ((dg s).getD k 0 - 48)) := by
            show _ = _
            rw [dg_get s k hlt, dg_get s (k + 1) hlt1]
            exact octet_join _ _ (by omega) (by omega) (by omega) (by omega)
          have HRn : Hid ((xs ++ [((dg s).getD (k + 1) 0 - 48) * 16 + ((dg s).getD k 0 - 48)]) ++ enc ((dg s).drop (k + 2)) = zs ++ [cnt s, toa true] ++ enc (dg s)) := by
            show _ = _
            rw [← HR.out, enc_step2 (l := dg s) (i := k) (by rw [dg_length]; exact hlt1)]
            simp only [List.append_assoc, List.singleton_append]
          clear hc' HR
          go_wp2_with (at_builtin; refine wpList_append_own _ rfl (.tmp 37) (.tmp 46) 22 rfl base 5 i0 (.int .u8 0) 1 1 Try.underlying22 hi hz0 hz1 hz2 rfl (by decide) _ c _ rfl (HO.out.alloc _) ⟨wr.heap.size, 0, none⟩ 1 1 [.int .u8 (bits .or .u8 (((s[k + 1].toNat : Int) - 48) * 16) ((s[k].toNat : Int) - 48))] rfl rfl ?d1t ?d2t ?d3t ?d4t ?d5t ?_)
          case d1t => exact cell_one_new _ _ _
          case d2t => intro u hu; simp at hu; subst hu; rfl
          case d3t => unfold maxLen; omega
          case d4t => omega
          case d5t => have := HB2.out.size; simp; omega
          intro v2 w2 hown2 hgrow2 _
          have T := rel_next HO.out HX2.out HB2.out hb hown2 hgrow2
          rw [HN.out] at T
          have HT : Hid (_ ∧ _ ∧ _) := T
          clear hown2 hgrow2 T
          go_wp2
          go_roundw
          case rel => exact ⟨k + 2, c + 1, xs ++ [((dg s).getD (k + 1) 0 - 48) * 16 + ((dg s).getD k 0 - 48)], by omega, by go_num, (by have := HE.out; omega : (k + 2) % 2 = 0), (by have := HC.out; omega : c + 1 = n + 2 + (k + 2) / 2), HT.out.1, HRn, HT.out.2.1, HT.out.2.2⟩
          case measure => simp [intOf]; omega
        · have hcb : c ≤ 2000000 := by omega
          have HN : Hid (bits .or .u8 240 ((s[k].toNat : Int) - 48) = 240 + ((dg s).getD k 0 - 48)) := by
            show _ = _
            rw [dg_get s k hlt]
            exact octet_last _ (by omega) (by omega)
          have HRn : Hid ((xs ++ [240 + ((dg s).getD k 0 - 48)]) ++ enc ((dg s).drop (k + 2)) = zs ++ [cnt s, toa true] ++ enc (dg s)) := by
            show _ = _
            rw [← HR.out, enc_step1 (l := dg s) (i := k) (by rw [dg_length]; omega), List.drop_eq_nil_of_le (by rw [dg_length]; omega)]
            simp only [enc, List.append_nil]
          clear hc' HR
          go_wp2_with (at_builtin; refine wpList_append_own _ rfl (.tmp 37) (.tmp 46) 22 rfl base 5 i0 (.int .u8 0) 1 1 Try.underlying22 hi hz0 hz1 hz2 rfl (by decide) _ c _ rfl (HO.out.alloc _) ⟨wr.heap.size, 0, none⟩ 1 1 [.int .u8 (bits .or .u8 240 ((s[k].toNat : Int) - 48))] rfl rfl ?e1t ?e2t ?e3t ?e4t ?e5t ?_)
          case e1t => exact cell_one_new _ _ _
          case e2t => intro u hu; simp at hu; subst hu; rfl
          case e3t => unfold maxLen; omega
          case e4t => omega
          case e5t => have := HB2.out.size; simp; omega
          intro v2 w2 hown2 hgrow2 _
          have T := rel_next HO.out HX2.out HB2.out hb hown2 hgrow2
          rw [HN.out] at T
          have HT : Hid (_ ∧ _ ∧ _) := T
          clear hown2 hgrow2 T
          go_wp2
          go_roundw
          case rel => exact ⟨k + 2, c + 1, xs ++ [240 + ((dg s).getD k 0 - 48)], by omega, by go_num, (by have := HE.out; omega : (k + 2) % 2 = 0), (by have := HC.out; omega : c + 1 = n + 2 + (k + 2) / 2), HT.out.1, HRn, HT.out.2.1, HT.out.2.2⟩
          case measure => simp [intOf]; omega
      · have HRn : Hid (xs = zs ++ [cnt s, toa true] ++ enc (dg s)) := by
          show _ = _
          rw [← HR.out, List.drop_eq_nil_of_le (by rw [dg_length]; omega)]
          simp only [enc, List.append_nil]
        have HCn : Hid (c = n + 2 + (s.size + 1) / 2) := by
          show _ = _
          have h1 := HC.out
          have h2 := HE.out
          omega
        clear HR
        go_wp2
        go_ret
        refine ⟨_, rfl, ?_, HB2.out⟩
        have := HO.out
        rw [HRn.out, HCn.out] at this
        exact this

theorem zzAddr_any (intl : Bool) (s : ByteArray) (v : Value) (n : Nat) (zs : List Int) (base : Nat) (w : World) (hs : s.size ≤ 65536) (hd : (dg s).all digB = true) (hn : n ≤ 1048576)
    (hown : w.ownsRow base 5 1 v n (zs.map (Value.int .u8))) (hb : base ≤ w.heap.size) :
    Calls Try.prog 11 #[.bool intl, .string s, v] w fun e w' => ∃ v', e = .returned v' ∧ w'.ownsRow base 5 1 v' (n + 2 + (s.size + 1) / 2) ((zs ++ [cnt s, toa intl] ++ enc (dg s)).map (Value.int .u8)) ∧ Below base w w' := by
  have HC := hide (addr_any intl s v n zs base w hs hd hn hown hb)
  clear hd hown
  go_enter Try.func11, Try.ntmps11
  go_wp2_with fail
  refine HC.out.mono ?_
  rintro e w1 ⟨v', rfl, h1, h2⟩
  have H1 := hide h1
  have H2 := hide h2
  clear h1 h2
  go_wp2_with fail
  go_ret
  exact ⟨_, rfl, H1.out, H2.out⟩

end Go.Proofs.Qxb6603187a
