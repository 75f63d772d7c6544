/-
  SEAT b6603246a: ydCloneKeysB1 (8).
-/
import Derived.Test.Qxb6603246aBase
namespace Go.Proofs.Qxb6603246a
open Go.RowKit

theorem Try.info37 : (Try.prog.info? 37).map (fun i => (i.zero, i.size, i.bytes)) = some (some (.agg #[.string ⟨#[]⟩, .string ⟨#[]⟩, .string ⟨#[]⟩, .bool false, .string ⟨#[]⟩, .string ⟨#[]⟩, .string ⟨#[]⟩]), 7, 104) := by kernel_rfl

theorem owns_setCells {base g n cap : Nat} {e size : Nat} : ∀ (vs : List Value) (o : Nat) (w : World) (L : List Value), w.ownsRow base e size (.slice (some ⟨g, 0, none⟩) n cap) n L →
    ∃ L', (w.setCells g o vs).ownsRow base e size (.slice (some ⟨g, 0, none⟩) n cap) n L'
  | [], _, _, L, h => ⟨L, h⟩
  | v :: vs, o, w, _, h => owns_setCells vs (o + 1) (w.setCell ⟨g, o, none⟩ v) _ (h.stored o v).1
theorem below_setCells {B g : Nat} {w0 : World} (hg : B ≤ g) : ∀ (vs : List Value) (o : Nat) (w : World), Below B w0 w → Below B w0 (w.setCells g o vs)
  | [], _, _, h => h
  | v :: vs, o, w, h => below_setCells hg vs (o + 1) (w.setCell ⟨g, o, none⟩ v) (h.setCell (p := ⟨g, o, none⟩) hg v)

def Key.list (k : Key) : List Value := [.string k.kind, .string k.tag, .string k.text, .bool k.al, .string k.akind, .string k.atag, .string k.atext]

/-- Seven stores lay a key; those before it stay. -/
theorem put7 {w : World} {b o : Nat} {k : Key} (h : ∀ j, j < 7 → ∃ x, w.cell? ⟨b, o + j, none⟩ = some x) : KeyAt (w.setCells b o k.list) b o k := by
  have hin := World.cell?_setCells_in b k.list o w (fun j hj => by obtain ⟨x, hx⟩ := h j hj; rw [hx]; rfl)
  exact ⟨hin 0 (by simp [Key.list]), hin 1 (by simp [Key.list]), hin 2 (by simp [Key.list]), hin 3 (by simp [Key.list]), hin 4 (by simp [Key.list]), hin 5 (by simp [Key.list]), hin 6 (by simp [Key.list])⟩
theorem put7_other {w : World} {b o p : Nat} {k k' : Key} (h : KeyAt w b p k') (hp : p + 7 ≤ o) : KeyAt (w.setCells b o k.list) b p k' := by
  have hout : ∀ q, q < o → (w.setCells b o k.list).cell? ⟨b, q, none⟩ = w.cell? ⟨b, q, none⟩ := fun q hq => World.cell?_setCells_out b k.list o w ⟨b, q, none⟩ (fun _ _ => .inl hq)
  exact ⟨(hout _ (by omega)).trans h.c0, (hout _ (by omega)).trans h.c1, (hout _ (by omega)).trans h.c2, (hout _ (by omega)).trans h.c3, (hout _ (by omega)).trans h.c4, (hout _ (by omega)).trans h.c5, (hout _ (by omega)).trans h.c6⟩

/-- A round of the copying. -/
theorem clone_step {w wr : World} {k len : Nat} {L : List Value} {K : Nat → Key} (hlt : k < len) (HO : wr.ownsRow w.heap.size 37 7 (.slice (some ⟨w.heap.size, 0, none⟩) len len) len L) (HA : ∀ j, j < k → KeyAt wr w.heap.size (j * 7) (K j)) (HB : Below w.heap.size w wr) :
    (∃ L', (wr.setCells w.heap.size (k * 7) (K k).list).ownsRow w.heap.size 37 7 (.slice (some ⟨w.heap.size, 0, none⟩) len len) len L') ∧ (∀ j, j < k + 1 → KeyAt (wr.setCells w.heap.size (k * 7) (K k).list) w.heap.size (j * 7) (K j)) ∧ Below w.heap.size w (wr.setCells w.heap.size (k * 7) (K k).list) := by
  have hL := HO.1
  refine ⟨owns_setCells _ _ _ _ HO, fun j hj => ?_, below_setCells (Nat.le_refl _) _ _ _ HB⟩
  by_cases h : j = k
  · subst h
    exact put7 (fun i hi => ⟨L[j * 7 + i]'(by omega), by rw [HO.cellAt _ (by omega), List.getElem?_eq_getElem]⟩)
  · exact put7_other (HA j (by omega)) (by omega)

set_option maxRecDepth 100000 in
set_option maxHeartbeats 4000000 in
theorem clone_any (ao : Option Addr) (len cap : Nat) (K : Nat → Key) (w : World) (hK : Keys w ao len cap K) (hl : len ≤ 4096) :
    Calls Try.prog 8 #[.slice ao len cap] w fun e w' => ∃ ao' cap', e = .returned (.slice ao' len cap') ∧ Keys w' ao' len cap' K ∧ Below w.heap.size w w' := by
  have q22 : ∀ (w : World) (a : Option Addr) (n c n' c' : Nat), (binOp .eql 22 (.slice a n c) (.slice none n' c')).run Try.prog w = .ok (.bool a.isNone) w := fun w a n c n' c' => Lib.run_eql_slice_nil w _ _ a n c n' c' Try.underlying22
  obtain ⟨i0, hi, hz0, hz1, hz2⟩ := info_parts Try.info37
  cases ao with
  | none =>
    obtain ⟨rfl, rfl⟩ := hK.nil rfl
    go_enter Try.func8, Try.ntmps8
    go_wp2
    go_ret
    exact ⟨none, 0, rfl, hK, Below.refl _ _⟩
  | some ad =>
    have HK := hide hK
    clear hK
    go_enter Try.func8, Try.ntmps8
    go_wp2_with (at_make; refine wpList_make_full _ rfl _ _ 22 rfl w.heap.size 37 i0 _ 7 Try.underlying22 hi hz0 hz1 _ _ _ _ len rfl rfl rfl rfl ?b2 ?b3 (Nat.le_refl _) ?_)
    case b2 => rw [hz2]; omega
    case b3 => unfold maxLen; omega
    intro w0 hown0 hgrow0
    have HB0 : Hid (Below w.heap.size w w0) := (Below.refl _ _).grown hgrow0 (Nat.le_refl _) (fun k h => by cases h)
    have HO0 := hide hown0
    clear hown0 hgrow0
    go_wp2
    go_loopw [4] (fun i wr => ∃ (k : Nat) (L : List Value), k ≤ len ∧ i = .int .i64 k ∧ Hid (wr.ownsRow w.heap.size 37 7 (.slice (some ⟨w.heap.size, 0, none⟩) len len) len L) ∧ Hid (∀ j, j < k → KeyAt wr w.heap.size (j * 7) (K j)) ∧ Hid (Below w.heap.size w wr))
      (fun i _ => len - (intOf i).toNat)
    case atStart => exact ⟨0, _, Nat.zero_le _, rfl, HO0, (fun j h => by omega : ∀ j, j < 0 → _), HB0⟩
    case round =>
      obtain ⟨k, L, hk, rfl, HO, HA, HB⟩ := hrel
      clear HO0 HB0
      by_cases hlt : k < len
      · obtain ⟨b, off, e, hc⟩ := HK.out.at' (by omega)
        obtain rfl := Option.some.inj e
        obtain ⟨c0, c1, c2, c3, c4, c5, c6⟩ := (hc k hlt).later HB.out
        have hL := HO.out.1
        obtain ⟨x0, d0⟩ : ∃ x, wr.cell? ⟨w.heap.size, k * 7, none⟩ = some x := ⟨L[k * 7]'(by omega), by rw [HO.out.cellAt _ (by omega), List.getElem?_eq_getElem]⟩
        obtain ⟨x1, d1⟩ : ∃ x, wr.cell? ⟨w.heap.size, k * 7 + 1, none⟩ = some x := ⟨L[k * 7 + 1]'(by omega), by rw [HO.out.cellAt _ (by omega), List.getElem?_eq_getElem]⟩
        obtain ⟨x2, d2⟩ : ∃ x, wr.cell? ⟨w.heap.size, k * 7 + 2, none⟩ = some x := ⟨L[k * 7 + 2]'(by omega), by rw [HO.out.cellAt _ (by omega), List.getElem?_eq_getElem]⟩
        obtain ⟨x3, d3⟩ : ∃ x, wr.cell? ⟨w.heap.size, k * 7 + 3, none⟩ = some x := ⟨L[k * 7 + 3]'(by omega), by rw [HO.out.cellAt _ (by omega), List.getElem?_eq_getElem]⟩
        obtain ⟨x4, d4⟩ : ∃ x, wr.cell? ⟨w.heap.size, k * 7 + 4, none⟩ = some x := ⟨L[k * 7 + 4]'(by omega), by rw [HO.out.cellAt _ (by omega), List.getElem?_eq_getElem]⟩
        obtain ⟨x5, d5⟩ : ∃ x, wr.cell? ⟨w.heap.size, k * 7 + 5, none⟩ = some x := ⟨L[k * 7 + 5]'(by omega), by rw [HO.out.cellAt _ (by omega), List.getElem?_eq_getElem]⟩
        obtain ⟨x6, d6⟩ : ∃ x, wr.cell? ⟨w.heap.size, k * 7 + 6, none⟩ = some x := ⟨L[k * 7 + 6]'(by omega), by rw [HO.out.cellAt _ (by omega), List.getElem?_eq_getElem]⟩
        have f0 : ∀ j, wr.frozen? ⟨w.heap.size, j, none⟩ = false := fun j => HO.out.frozenAt j
        have T := clone_step hlt HO.out HA.out HB.out
        obtain ⟨⟨L', T1⟩, T2, T3⟩ := T
        have H1 := hide T1
        have H2 := hide T2
        have H3 := hide T3
        clear hc e hL T1 T2 T3 HA
        go_wp2
        go_roundw
        case rel => exact ⟨k + 1, L', by omega, by go_num, H1, H2, H3⟩
        case measure => simp [intOf]; omega
      · obtain rfl : k = len := by omega
        go_wp2
        go_ret
        exact ⟨_, _, rfl, ⟨Nat.le_refl _, fun e => by simp at e, fun _ => ⟨w.heap.size, 0, rfl, fun j hj => by rw [Nat.zero_add]; exact HA.out j hj⟩⟩, HB.out⟩

end Go.Proofs.Qxb6603246a
