/-
  SEAT b6603143a: THE CONTRACTS THAT ALL FOUR LAWS SHARE: a view of a byte slice; zzSrvB1Clone (9); canonicalName (20), ZZCanonicalName (10).
-/
import Derived.Test.Qxb6603143aRows
import Derived.Test.Qxb6603143aPlain
import Derived.WalkKit
import Derived.WalkSpells
import Derived.ProofKit
import Derived.OpenShut
namespace Go.Proofs.Qxb6603143a
open Go.RowKit Go.ChangeShapes Go.WideShapes Go.ChangeAt

theorem Try.info5 : (Try.prog.info? 5).map (fun i => (i.zero, i.size, i.bytes)) = some (some (.int .u8 0), 1, 1) := by kernel_rfl

/-- The slice value '.slice ao len cap' reads the bytes zs in w. -/
structure Bytes (w : World) (ao : Option Addr) (len cap : Nat) (zs : List Int) : Prop where
  length : zs.length = len
  le : len ≤ cap
  nil : ao = none → len = 0 ∧ cap = 0
  bd : ∀ j, 0 ≤ zs.getD j 0 ∧ zs.getD j 0 ≤ 255
  cells : 0 < len → ∃ b off, ao = some ⟨b, off, none⟩ ∧ ∀ j, j < len → w.cell? ⟨b, off + j, none⟩ = some (.int .u8 (zs.getD j 0))

theorem Bytes.later {w w' : World} {ao : Option Addr} {len cap : Nat} {zs : List Int} (h : Bytes w ao len cap zs) (hb : Below w.heap.size w w') : Bytes w' ao len cap zs :=
  ⟨h.length, h.le, h.nil, h.bd, fun hp => by
    obtain ⟨b, off, e, hc⟩ := h.cells hp
    exact ⟨b, off, e, fun j hj => cell_later hb (hc j hj)⟩⟩

theorem Bytes.below {B : Nat} {w w' : World} {ao : Option Addr} {len cap : Nat} {zs : List Int} (h : Bytes w ao len cap zs) (hB : w.heap.size ≤ B) (hb : Below B w w') : Bytes w' ao len cap zs :=
  h.later (hb.mono hB)

theorem getD_bytes (zs : List Int) (h : ∀ n ∈ zs, 0 ≤ n ∧ n ≤ 255) (j : Nat) : 0 ≤ zs.getD j 0 ∧ zs.getD j 0 ≤ 255 := by
  by_cases hj : j < zs.length
  · rw [List.getD_eq_getElem?_getD, List.getElem?_eq_getElem hj]; exact h _ (List.getElem_mem hj)
  · rw [List.getD_eq_getElem?_getD, List.getElem?_eq_none (by omega)]; simp

/-- A slice that came in, as the frame opens it. -/
theorem bytes_of_row {w : World} {a : Option Addr} {len cap : Nat} {zs : List Int} (h : (a = none ∧ len = 0 ∧ cap = 0 ∧ zs = []) ∨
    ∃ x, a = some x ∧ len ≤ cap ∧ cap ≤ maxLen ∧ zs.length = cap ∧ (∀ i, i < zs.length → w.cell? (x.add i) = some (.int .u8 (zs.getD i 0))) ∧ ∀ n ∈ zs, (Lit.int .u8 n).wf = true) : Bytes w a len cap (zs.take len) := by
  rcases h with ⟨rfl, rfl, rfl, rfl⟩ | ⟨x, rfl, hl, _, hz, hc, hw⟩
  · exact ⟨rfl, Nat.le_refl _, fun _ => ⟨rfl, rfl⟩, fun j => by simp, fun h => absurd h (Nat.lt_irrefl 0)⟩
  · refine ⟨by simp; omega, hl, fun e => by simp at e, getD_bytes _ (fun n hn => ?_), fun hp => ?_⟩
    · exact bounds_u8 (hw n (List.mem_of_mem_take hn))
    · obtain ⟨b, off, spot⟩ := x
      have hspot : spot = none := by simpa [Addr.add] using World.cell?_spot (hc 0 (by omega))
      subst hspot
      refine ⟨b, off, rfl, fun j hj => ?_⟩
      have := hc j (by omega)
      rw [add_plain] at this
      rw [this]
      simp [List.getD, hj]

/-- What an owned row of bytes reads. -/
theorem bytes_of_owned {w : World} {base g n cap : Nat} {zs : List Int} (h : w.ownsRow base 5 1 (.slice (some ⟨g, 0, none⟩) n cap) n (zs.map (Value.int .u8))) (hb : ∀ j, 0 ≤ zs.getD j 0 ∧ zs.getD j 0 ≤ 255) :
    Bytes w (some ⟨g, 0, none⟩) n cap zs := by
  have hl : zs.length = n := by have := h.1; simpa using this
  refine ⟨hl, ?_, fun e => by simp at e, hb, fun _ => ⟨g, 0, rfl, fun j hj => ?_⟩⟩
  · rcases h.2 with ⟨e, _⟩ | ⟨g', cap', cur, e, _, _, hnc, _⟩
    · simp at e
    · simp only [Value.slice.injEq, true_and] at e
      omega
  · have := h.cellAt j (by omega)
    rw [Nat.zero_add, this]
    simp [List.getD, hl, hj]

/-- Its cells, as the laws on append ask them. -/
theorem Bytes.news {w : World} {ao : Option Addr} {len cap : Nat} {zs : List Int} (h : Bytes w ao len cap zs) : ∀ ad, ao = some ad → ∀ j u, (zs.map (Value.int .u8))[j]? = some u → w.cell? (ad.add j) = some u := by
  intro ad hao j u hu
  have hj : j < len := by
    have := (List.getElem?_eq_some_iff.1 hu).1
    simpa [h.length] using this
  obtain ⟨b, off, e, hc⟩ := h.cells (by omega)
  rw [e] at hao
  obtain rfl := Option.some.inj hao
  rw [add_plain, hc j hj, ← hu]
  simp [List.getD, h.length, hj]

/-- The bytes that are still to come, at j. -/
theorem drop_cons {zs : List Int} {j : Nat} (h : j < zs.length) : zs.drop j = zs.getD j 0 :: zs.drop (j + 1) := by
  rw [List.drop_eq_getElem_cons h]
  simp [List.getD, h]

/-- A row of n bytes of which the first k are those of zs, the rest zero. -/
def rowAt (zs : List Int) (k n : Nat) : List Value := (zs.take k ++ List.replicate (n - k) 0).map (Value.int .u8)
theorem rowAt_zero (zs : List Int) (n : Nat) : rowAt zs 0 n = (madeCells #[Value.int .u8 0] n).toList := by
  rw [toList_madeCells_one]; simp [rowAt]
theorem rowAt_full {zs : List Int} {n : Nat} (h : zs.length = n) : rowAt zs n n = zs.map (Value.int .u8) := by
  subst h; simp [rowAt]
theorem rowAt_get {zs : List Int} {k n : Nat} (h : zs.length = n) (hk : k < n) : (rowAt zs k n)[k]? = some (.int .u8 0) := by
  have : (zs.take k).length = k := by simp; omega
  unfold rowAt
  rw [List.getElem?_map, List.getElem?_append_right (by omega), List.getElem?_replicate]
  simp [this]; omega
theorem rowAt_set {zs : List Int} {k n : Nat} (h : zs.length = n) (hk : k < n) (y : Int) (hy : y = zs.getD k 0) : (rowAt zs k n).set k (.int .u8 y) = rowAt zs (k + 1) n := by
  subst hy
  have h1 : (zs.take k).length = k := by simp; omega
  unfold rowAt
  rw [← List.map_set, List.set_append_right _ _ (by omega), h1, Nat.sub_self, List.take_succ_eq_append_getElem (by omega)]
  obtain ⟨m, hm⟩ : ∃ m, n - k = m + 1 := ⟨n - k - 1, by omega⟩
  have hm2 : n - (k + 1) = m := by omega
  rw [hm, hm2, List.replicate_succ, List.set_cons_zero, List.append_assoc, List.singleton_append]
  have : k < zs.length := by omega
  simp [List.getD, this]

set_option maxHeartbeats 400000 in
theorem clone_any (ao : Option Addr) (len cap : Nat) (zs : List Int) (w : World) (hB : Bytes w ao len cap zs) (hlen : len ≤ 1048576) :
    Calls Try.prog 9 #[.slice ao len cap] w fun e w' => ∃ ao' cap', e = .returned (.slice ao' len cap') ∧ Bytes w' ao' len cap' zs ∧ Below w.heap.size w w' := by
  have q22 : ∀ (w : World) (a : Option Addr) (n c n' c' : Nat), (binOp .eql 22 (.slice a n c) (.slice none n' c')).run Try.prog w = .ok (.bool a.isNone) w := fun w a n c n' c' => Lib.run_eql_slice_nil w _ _ a n c n' c' Try.underlying22
  obtain ⟨i0, hi, hz0, hz1, hz2⟩ := info_parts Try.info5
  cases ao with
  | none =>
    obtain ⟨rfl, rfl⟩ := hB.nil rfl
    go_enter Try.func9, Try.ntmps9
    go_wp2
    go_ret
    exact ⟨none, 0, rfl, hB, Below.refl _ _⟩
  | some ad =>
    have H : Hid (Bytes w (some ad) len cap zs) := hB
    clear hB
    go_enter Try.func9, Try.ntmps9
    go_wp2_with (at_make; refine wpList_make_full _ rfl _ _ 22 rfl w.heap.size 5 i0 (.int .u8 0) 1 Try.underlying22 hi hz0 hz1 _ _ _ _ len rfl rfl rfl rfl ?b2 ?b3 (Nat.le_refl _) ?_)
    case b2 => rw [hz2]; omega
    case b3 => unfold maxLen; omega
    intro w0 hown0 hgrow0
    rw [← rowAt_zero zs len] at hown0
    go_wp2
    go_loopw [4] (fun i wr => ∃ k : Nat, k ≤ len ∧ i = .int .i64 k ∧ wr.ownsRow w.heap.size 5 1 (.slice (some ⟨w.heap.size, 0, none⟩) len len) len (rowAt zs k len) ∧ Below w.heap.size w wr)
      (fun i _ => len - (intOf i).toNat)
    case atStart => exact ⟨0, Nat.zero_le _, rfl, hown0, (Below.refl _ _).grown hgrow0 (Nat.le_refl _) (fun k h => by cases h)⟩
    case round =>
      obtain ⟨k, hk, rfl, hown, hbel⟩ := hrel
      by_cases hlt : k < len
      · obtain ⟨b, off, e, hc⟩ := H.out.cells (by omega)
        obtain rfl := Option.some.inj e
        have hbd := H.out.bd k
        have hck : wr.cell? ⟨b, off + k, none⟩ = some (.int .u8 (zs.getD k 0)) := cell_later hbel (hc k hlt)
        have hco : wr.cell? ⟨w.heap.size, k, none⟩ = some (.int .u8 0) := by rw [hown.cellAt k (by omega), rowAt_get H.out.length hlt]
        have hfo : wr.frozen? ⟨w.heap.size, k, none⟩ = false := hown.frozenAt k
        have HO := hown.stored k (.int .u8 (zs.getD k 0))
        rw [rowAt_set H.out.length hlt _ rfl] at HO
        have HB : Hid (_ ∧ _) := ⟨HO.1, hbel.setCell (p := ⟨w.heap.size, k, none⟩) (Nat.le_refl _) (.int .u8 (zs.getD k 0))⟩
        clear HO hown hbel hc e hown0 hgrow0
        go_wp2
        go_roundw
        case rel => exact ⟨k + 1, by omega, by go_num, HB.out.1, HB.out.2⟩
        case measure => simp [intOf]; omega
      · obtain rfl : k = len := by omega
        rw [rowAt_full H.out.length] at hown
        go_wp2
        go_ret
        exact ⟨_, _, rfl, bytes_of_owned hown H.out.bd, hbel⟩

end Go.Proofs.Qxb6603143a
