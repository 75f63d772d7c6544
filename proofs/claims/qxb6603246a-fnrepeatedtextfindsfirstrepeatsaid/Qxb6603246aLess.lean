/-
  SEAT b6603246a: ydKeyLessB1 (22), ydSameKeyB1 (23), ZZrepeatedText (10).
-/
import Derived.Test.Qxb6603246aMany
namespace Go.Proofs.Qxb6603246a
open Go.RowKit

theorem zz_any (lo g S p len : Nat) (Pt : Nat → Nat) (K : Nat → Key) (w : World) (hS : S = 2 * len ∨ S + 1 = 2 * len) (hlen : len ≤ 4096) (hp : w.cell? ⟨p, 6, none⟩ = some (.slice (some ⟨g, 0, none⟩) S S))
    (hc : ∀ j, j < len → w.cell? ⟨g, 2 * j, none⟩ = some (ptr (Pt j)) ∧ NodeAt w lo (Pt j) (K j)) :
    Calls Try.prog 10 #[ptr p] w fun e w' => Answer K Pt len e ∧ Below w.heap.size w w' := by
  have HC : Hid (Calls Try.prog 21 #[ptr p] w fun e w' => Answer K Pt len e ∧ Below w.heap.size w w') := by
    by_cases h : S ≤ 16
    · exact few_any lo g S p len Pt K w hS h hp hc
    · exact many_any lo g S p len Pt K w hS hlen h hp hc
  clear hp hc
  go_enter Try.func10, Try.ntmps10
  go_wp2_with fail
  refine HC.out.mono ?_
  rintro e w1 ⟨ha, hb⟩
  have HB := hide hb
  clear hb
  rcases ha with ⟨hn, rfl⟩ | ⟨f, s, hr, rfl⟩
  · have HN := hide hn
    clear hn
    go_wp2_with fail
    go_ret2
    exact ⟨.inl ⟨HN.out, rfl⟩, HB.out⟩
  · have HR := hide hr
    clear hr
    go_wp2_with fail
    go_ret2
    exact ⟨.inr ⟨f, s, HR.out, rfl⟩, HB.out⟩

/-- The order of the keys: by merge-ness, by text, by place. -/
def lessB (a b : Key) (x y : Nat) : Bool :=
  if isMerge a == isMerge b then (if (resolved a).toList == (resolved b).toList then decide (x < y) else Op.bytesLess (resolved a).toList (resolved b).toList) else isMerge b

theorem isMerge_b (k : Key) (w : World) : Calls Try.prog 27 #[k.val] w fun e w' => e = .returned (.bool (isMerge k)) ∧ Below w.heap.size w w' :=
  (isMerge_any k w).mono fun _ _ ⟨h1, h2⟩ => ⟨h1, h2 ▸ (Below.refl _ _).alloc (Nat.le_refl _) _⟩
theorem resolved_b (k : Key) (w : World) : Calls Try.prog 28 #[k.val] w fun e w' => e = .returned (.string (resolved k)) ∧ Below w.heap.size w w' :=
  (resolved_any k w).mono fun _ _ ⟨h1, h2⟩ => ⟨h1, h2 ▸ (Below.refl _ _).alloc (Nat.le_refl _) _⟩

set_option maxRecDepth 100000 in
set_option maxHeartbeats 4000000 in
theorem less_any (ao : Option Addr) (len cap : Nat) (K : Nat → Key) (x y : Nat) (w : World) (hK : Keys w ao len cap K) (hx : x < len) (hy : y < len) (hl : len ≤ 4096) :
    Calls Try.prog 22 #[.slice ao len cap, .int .i64 x, .int .i64 y] w fun e w' => e = .returned (.bool (lessB (K x) (K y) x y)) ∧ Below w.heap.size w w' := by
  obtain ⟨b, off, rfl, hc⟩ := hK.at' (by omega)
  have X := hide (hc x hx)
  have Y := hide (hc y hy)
  have hx' : (x : Int) < (len : Int) := by omega
  have hy' : (y : Int) < (len : Int) := by omega
  clear hc hK
  cases hmx : isMerge (K x)
  all_goals cases hmy : isMerge (K y)
  all_goals
    obtain ⟨x0, x1, x2, x3, x4, x5, x6⟩ := X.out
    go_enter Try.func22, Try.ntmps22
    go_wp2_with fail
    clear x0 x1 x2 x3 x4 x5 x6
    refine (isMerge_b (K x) _).mono ?_
    rintro e w1 ⟨rfl, b1⟩
    have HB1 : Hid (Below w.heap.size w w1) := b1
    obtain ⟨x0, x1, x2, x3, x4, x5, x6⟩ := X.out.later HB1.out
    obtain ⟨y0, y1, y2, y3, y4, y5, y6⟩ := Y.out.later HB1.out
    clear b1
    go_wp2_with fail
    clear x0 x1 x2 x3 x4 x5 x6 y0 y1 y2 y3 y4 y5 y6
    refine (isMerge_b (K y) _).mono ?_
    rintro e w2 ⟨rfl, b2⟩
    have HB2 : Hid (Below w.heap.size w w2) := HB1.out.trans (b2.mono HB1.out.size)
    obtain ⟨x0, x1, x2, x3, x4, x5, x6⟩ := X.out.later HB2.out
    obtain ⟨y0, y1, y2, y3, y4, y5, y6⟩ := Y.out.later HB2.out
    clear b2
    go_wp2_with fail
    clear x0 x1 x2 x3 x4 x5 x6 y0 y1 y2 y3 y4 y5 y6
  · refine (resolved_b (K x) _).mono ?_
    rintro e w3 ⟨rfl, b3⟩
    have HB3 : Hid (Below w.heap.size w w3) := HB2.out.trans (b3.mono HB2.out.size)
    obtain ⟨x0, x1, x2, x3, x4, x5, x6⟩ := X.out.later HB3.out
    obtain ⟨y0, y1, y2, y3, y4, y5, y6⟩ := Y.out.later HB3.out
    clear b3
    go_wp2_with fail
    clear x0 x1 x2 x3 x4 x5 x6 y0 y1 y2 y3 y4 y5 y6
    refine (resolved_b (K y) _).mono ?_
    rintro e w4 ⟨rfl, b4⟩
    have HB4 : Hid (Below w.heap.size w w4) := HB3.out.trans (b4.mono HB3.out.size)
    clear b4
    go_wp2_with fail
    all_goals
      go_ret
      exact ⟨ret_bool (by simp_all [lessB]), HB4.out⟩
  · go_ret
    exact ⟨ret_bool (by simp [lessB, hmx, hmy]), HB2.out⟩
  · go_ret
    exact ⟨ret_bool (by simp [lessB, hmx, hmy]), HB2.out⟩
  · refine (resolved_b (K x) _).mono ?_
    rintro e w3 ⟨rfl, b3⟩
    have HB3 : Hid (Below w.heap.size w w3) := HB2.out.trans (b3.mono HB2.out.size)
    obtain ⟨x0, x1, x2, x3, x4, x5, x6⟩ := X.out.later HB3.out
    obtain ⟨y0, y1, y2, y3, y4, y5, y6⟩ := Y.out.later HB3.out
    clear b3
    go_wp2_with fail
    clear x0 x1 x2 x3 x4 x5 x6 y0 y1 y2 y3 y4 y5 y6
    refine (resolved_b (K y) _).mono ?_
    rintro e w4 ⟨rfl, b4⟩
    have HB4 : Hid (Below w.heap.size w w4) := HB3.out.trans (b4.mono HB3.out.size)
    clear b4
    go_wp2_with fail
    all_goals
      go_ret
      exact ⟨ret_bool (by simp_all [lessB]), HB4.out⟩

end Go.Proofs.Qxb6603246a
