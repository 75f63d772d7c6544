/-
  SEAT b6603187a: concatOf (13), ZZConcatOf (7), FnConcatOfRoundTrip (3).
-/
import Derived.Test.Qxb6603187aRows
import Derived.WalkKit
import Derived.WalkSpells
import Derived.RowKit3
namespace Go.Proofs.Qxb6603187a
open Go.RowKit

/-- A Concat in memory. -/
abbrev concatObj (e r t s : Int) : Obj := .cells #[.int .u8 e, .int .i64 r, .int .i64 t, .int .i64 s] 25

set_option maxHeartbeats 1000000 in
theorem concat8 (b : Nat) (r t s : Int) (w : World) (hr : 0 ≤ r ∧ r ≤ 255) (ht : 0 ≤ t ∧ t ≤ 255) (hs : 0 ≤ s ∧ s ≤ 255) (hb : b < w.heap.size)
    (c0 : w.cell? ⟨b, 0, none⟩ = some (.int .u8 r)) (c1 : w.cell? ⟨b, 1, none⟩ = some (.int .u8 t)) (c2 : w.cell? ⟨b, 2, none⟩ = some (.int .u8 s)) :
    Calls Try.prog 13 #[.int .u8 0, .slice (some ⟨b, 0, none⟩) 3 3] w fun e w' => e = .returned (.agg #[.int .u8 0, .int .i64 r, .int .i64 t, .int .i64 s]) ∧ ((w.alloc (concatObj 0 r t s)).alloc (concatObj 0 r t s)).drew = w' := by
  obtain ⟨hr1, hr2⟩ := hr
  obtain ⟨ht1, ht2⟩ := ht
  obtain ⟨hs1, hs2⟩ := hs
  go_enter Try.func13, Try.ntmps13
  go_wp2
  go_region
  all_goals
    go_wp2
    exact bodyPost_ret (v := .agg #[.int .u8 0, .int .i64 r, .int .i64 t, .int .i64 s]) (by simp [results, Try.results13, go_sem]) rfl ⟨rfl, rfl⟩

theorem joined16 (h l : Int) (h0 : 0 ≤ h) (h1 : h ≤ 255) (l0 : 0 ≤ l) (l1 : l ≤ 255) : bits .or .i64 (h * 256) l = h * 256 + l :=
  bits_join .i64 16 (by decide) (fun n a b => by rw [IntKind.wrap_i64]; omega) 8 _ _ (by omega) (by omega) (by omega) l0 (by omega) (by omega)

set_option maxHeartbeats 1000000 in
theorem concat16 (b : Nat) (h l t s r : Int) (w : World) (he : h * 256 + l = r) (hh : 0 ≤ h ∧ h ≤ 255) (hl : 0 ≤ l ∧ l ≤ 255) (ht : 0 ≤ t ∧ t ≤ 255) (hs : 0 ≤ s ∧ s ≤ 255) (hb : b < w.heap.size)
    (c0 : w.cell? ⟨b, 0, none⟩ = some (.int .u8 h)) (c1 : w.cell? ⟨b, 1, none⟩ = some (.int .u8 l)) (c2 : w.cell? ⟨b, 2, none⟩ = some (.int .u8 t)) (c3 : w.cell? ⟨b, 3, none⟩ = some (.int .u8 s)) :
    Calls Try.prog 13 #[.int .u8 8, .slice (some ⟨b, 0, none⟩) 4 4] w fun e w' => e = .returned (.agg #[.int .u8 8, .int .i64 r, .int .i64 t, .int .i64 s]) ∧ ((w.alloc (concatObj 8 r t s)).alloc (concatObj 8 r t s)).drew.drew = w' := by
  have HE : Hid (bits .or .i64 (h * 256) l = r) := (joined16 h l hh.1 hh.2 hl.1 hl.2).trans he
  clear he
  obtain ⟨hh1, hh2⟩ := hh
  obtain ⟨hl1, hl2⟩ := hl
  obtain ⟨ht1, ht2⟩ := ht
  obtain ⟨hs1, hs2⟩ := hs
  go_enter Try.func13, Try.ntmps13
  go_wp2
  go_region
  all_goals
    go_wp2
    go_region
  all_goals
    go_wp2
    exact bodyPost_ret (v := .agg #[.int .u8 8, .int .i64 (bits .or .i64 (h * 256) l), .int .i64 t, .int .i64 s]) (by simp [results, Try.results13, go_sem]) rfl ⟨by rw [HE.out], by rw [HE.out]⟩

theorem zz8 (b : Nat) (r t s : Int) (w : World) (hr : 0 ≤ r ∧ r ≤ 255) (ht : 0 ≤ t ∧ t ≤ 255) (hs : 0 ≤ s ∧ s ≤ 255) (hb : b < w.heap.size)
    (c0 : w.cell? ⟨b, 0, none⟩ = some (.int .u8 r)) (c1 : w.cell? ⟨b, 1, none⟩ = some (.int .u8 t)) (c2 : w.cell? ⟨b, 2, none⟩ = some (.int .u8 s)) :
    Calls Try.prog 7 #[.int .u8 0, .slice (some ⟨b, 0, none⟩) 3 3] w fun e w' => e = .returned (.agg #[.int .u8 0, .int .i64 r, .int .i64 t, .int .i64 s]) ∧ (((w.alloc (concatObj 0 r t s)).alloc (concatObj 0 r t s)).alloc (concatObj 0 r t s)).drew = w' := by
  have C := concat8 b r t s (w.alloc (concatObj 0 0 0 0)) hr ht hs (by simp; omega) (by rw [World.cell?_alloc_past _ _ _ hb]; exact c0) (by rw [World.cell?_alloc_past _ _ _ hb]; exact c1) (by rw [World.cell?_alloc_past _ _ _ hb]; exact c2)
  have HC : Hid (Calls _ _ _ _ _) := C
  clear C c0 c1 c2
  go_enter Try.func7, Try.ntmps7
  go_wp2_with fail
  refine HC.out.mono ?_
  rintro e w1 ⟨rfl, rfl⟩
  go_wp2_with fail
  exact bodyPost_ret (v := .agg #[.int .u8 0, .int .i64 r, .int .i64 t, .int .i64 s]) (by simp [results, Try.results7, go_sem]) rfl ⟨rfl, rfl⟩

theorem zz16 (b : Nat) (h l t s r : Int) (w : World) (he : h * 256 + l = r) (hh : 0 ≤ h ∧ h ≤ 255) (hl : 0 ≤ l ∧ l ≤ 255) (ht : 0 ≤ t ∧ t ≤ 255) (hs : 0 ≤ s ∧ s ≤ 255) (hb : b < w.heap.size)
    (c0 : w.cell? ⟨b, 0, none⟩ = some (.int .u8 h)) (c1 : w.cell? ⟨b, 1, none⟩ = some (.int .u8 l)) (c2 : w.cell? ⟨b, 2, none⟩ = some (.int .u8 t)) (c3 : w.cell? ⟨b, 3, none⟩ = some (.int .u8 s)) :
    Calls Try.prog 7 #[.int .u8 8, .slice (some ⟨b, 0, none⟩) 4 4] w fun e w' => e = .returned (.agg #[.int .u8 8, .int .i64 r, .int .i64 t, .int .i64 s]) ∧ (((w.alloc (concatObj 8 r t s)).alloc (concatObj 8 r t s)).alloc (concatObj 8 r t s)).drew.drew = w' := by
  have C := concat16 b h l t s r (w.alloc (concatObj 0 0 0 0)) he hh hl ht hs (by simp; omega) (by rw [World.cell?_alloc_past _ _ _ hb]; exact c0) (by rw [World.cell?_alloc_past _ _ _ hb]; exact c1) (by rw [World.cell?_alloc_past _ _ _ hb]; exact c2) (by rw [World.cell?_alloc_past _ _ _ hb]; exact c3)
  have HC : Hid (Calls _ _ _ _ _) := C
  clear C c0 c1 c2 c3 he
  go_enter Try.func7, Try.ntmps7
  go_wp2_with fail
  refine HC.out.mono ?_
  rintro e w1 ⟨rfl, rfl⟩
  go_wp2_with fail
  exact bodyPost_ret (v := .agg #[.int .u8 8, .int .i64 r, .int .i64 t, .int .i64 s]) (by simp [results, Try.results7, go_sem]) rfl ⟨rfl, rfl⟩

theorem narrow (a1 a2 a3 : Int) (w : World) (h1 : 0 ≤ a1 ∧ a1 ≤ 255) (h2 : 0 ≤ a2 ∧ a2 ≤ 255) (h3 : 0 ≤ a3 ∧ a3 ≤ 255) :
    Calls Try.prog 3 #[.bool false, .int .i64 a1, .int .i64 a2, .int .i64 a3] w fun e w' => e = .returned (.bool true) ∧ Grown w w' := by
  have HC : Hid (Calls _ _ _ _ _) := zz8 w.heap.size a1 a2 a3 (w.alloc (.cells #[.int .u8 a1, .int .u8 a2, .int .u8 a3] 5)) h1 h2 h3 (by simp) (by simp [go_sem]) (by simp [go_sem]) (by simp [go_sem])
  obtain ⟨h1a, h1b⟩ := h1
  obtain ⟨h2a, h2b⟩ := h2
  obtain ⟨h3a, h3b⟩ := h3
  go_enter Try.func3, Try.ntmps3
  go_wp2_with fail
  refine HC.out.mono ?_
  rintro e w1 ⟨rfl, rfl⟩
  go_wp2_with fail
  go_ret
  exact ⟨rfl, by repeat (first | exact Grown.refl _ | apply Grown.drew | apply Grown.alloc)⟩

theorem wide (a1 a2 a3 : Int) (w : World) (h1 : 0 ≤ a1 ∧ a1 ≤ 65535) (h2 : 0 ≤ a2 ∧ a2 ≤ 255) (h3 : 0 ≤ a3 ∧ a3 ≤ 255) :
    Calls Try.prog 3 #[.bool true, .int .i64 a1, .int .i64 a2, .int .i64 a3] w fun e w' => e = .returned (.bool true) ∧ Grown w w' := by
  have HC : Hid (Calls _ _ _ _ _) := zz16 w.heap.size (a1 / 256) (a1 % 256) a2 a3 a1 (w.alloc (.cells #[.int .u8 (a1 / 256), .int .u8 (a1 % 256), .int .u8 a2, .int .u8 a3] 5)) (by omega) (by omega) (by omega) h2 h3 (by simp) (by simp [go_sem]) (by simp [go_sem]) (by simp [go_sem]) (by simp [go_sem])
  obtain ⟨h1a, h1b⟩ := h1
  obtain ⟨h2a, h2b⟩ := h2
  obtain ⟨h3a, h3b⟩ := h3
  go_enter Try.func3, Try.ntmps3
  go_wp2_with fail
  refine HC.out.mono ?_
  rintro e w1 ⟨rfl, rfl⟩
  go_wp2_with fail
  go_ret
  exact ⟨rfl, by repeat (first | exact Grown.refl _ | apply Grown.drew | apply Grown.alloc)⟩

end Go.Proofs.Qxb6603187a
