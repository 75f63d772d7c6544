/-
  SEAT b6603187a: a view of a byte slice; zzCloneBytes (10), by copy.
-/
import Derived.Test.Qxb6603187aRows
import Derived.WalkKit
import Derived.WalkSpells
import Derived.ProofKit
import Derived.OpenShut
import Derived.Laws.CopyOwn
namespace Go.Proofs.Qxb6603187a
open Go.RowKit Go.ChangeShapes Go.WideShapes Go.ChangeAt

theorem Try.info5 : (Try.prog.info? 5).map (fun i => (i.zero, i.size, i.bytes)) = some (some (.int .u8 0), 1, 1) := by kernel_rfl

/-- The slice value '.slice ao len cap' reads the bytes zs in w. -/
structure Bytes (w : World) (ao : Option Addr) (len cap : Nat) (zs : List Int) : Prop where
  length : zs.length = len
  le : len ≤ cap
  nil : ao = none → len = 0 ∧ cap = 0
  bd : ∀ j, 0 ≤ zs.getD j 0 ∧ zs.getD j 0 ≤ 255
  cells : 0 < len → ∃ b off, ao = some ⟨b, off, none⟩ ∧ ∀ j, j < len → w.cell? ⟨b, off + j, none⟩ = some (.int .u8 (zs.getD j 0))

theorem Bytes.later {w w' : World} {ao : Option Addr} {len cap : Nat} {zs : List Int} (h : Bytes w ao len cap zs) (hb : Below w.heap.size w w') : Bytes w' ao len cap zs :=
  ⟨h.length, h.le, h.nil, h.bd, fun hp => by
    obtain ⟨b, off, e, hc⟩ := h.cells hp
    exact ⟨b, off, e, fun j hj => cell_later hb (hc j hj)⟩⟩

theorem Bytes.below {B : Nat} {w w' : World} {ao : Option Addr} {len cap : Nat} {zs : List Int} (h : Bytes w ao len cap zs) (hB : w.heap.size ≤ B) (hb : Below B w w') : Bytes w' ao len cap zs :=
  h.later (hb.mono hB)

theorem getD_bytes (zs : List Int) (h : ∀ n ∈ zs, 0 ≤ n ∧ n ≤ 255) (j : Nat) : 0 ≤ zs.getD j 0 ∧ zs.getD j 0 ≤ 255 := by
  by_cases hj : j < zs.length
  · rw [List.getD_eq_getElem?_getD, List.getElem?_eq_getElem hj]; exact h _ (List.getElem_mem hj)
  · rw [List.getD_eq_getElem?_getD, List.getElem?_eq_none (by omega)]; simp

/-- A slice that came in, as the frame opens it. -/
theorem bytes_of_row {w : World} {a : Option Addr} {len cap : Nat} {zs : List Int} (h : (a = none ∧ len = 0 ∧ cap = 0 ∧ zs = []) ∨
    ∃ x, a = some x ∧ len ≤ cap ∧ cap ≤ maxLen ∧ zs.length = cap ∧ (∀ i, i < zs.length → w.cell? (x.add i) = some (.int .u8 (zs.getD i 0))) ∧ ∀ n ∈ zs, (Lit.int .u8 n).wf = true) : Bytes w a len cap (zs.take len) := by
  rcases h with ⟨rfl, rfl, rfl, rfl⟩ | ⟨x, rfl, hl, _, hz, hc, hw⟩
  · exact ⟨rfl, Nat.le_refl _, fun _ => ⟨rfl, rfl⟩, fun j => by simp, fun h => absurd h (Nat.lt_irrefl 0)⟩
  · refine ⟨by simp; omega, hl, fun e => by simp at e, getD_bytes _ (fun n hn => ?_), fun hp => ?_⟩
    · exact bounds_u8 (hw n (List.mem_of_mem_take hn))
    · obtain ⟨b, off, spot⟩ := x
      have hspot : spot = none := by simpa [Addr.add] using World.cell?_spot (hc 0 (by omega))
      subst hspot
      refine ⟨b, off, rfl, fun j hj => ?_⟩
      have := hc j (by omega)
      rw [add_plain] at this
      rw [this]
      simp [List.getD, hj]

/-- What an owned row of bytes reads. -/
theorem bytes_of_owned {w : World} {base g n cap : Nat} {zs : List Int} (h : w.ownsRow base 5 1 (.slice (some ⟨g, 0, none⟩) n cap) n (zs.map (Value.int .u8))) (hb : ∀ j, 0 ≤ zs.getD j 0 ∧ zs.getD j 0 ≤ 255) :
    Bytes w (some ⟨g, 0, none⟩) n cap zs := by
  have hl : zs.length = n := by have := h.1; simpa using this
  refine ⟨hl, ?_, fun e => by simp at e, hb, fun _ => ⟨g, 0, rfl, fun j hj => ?_⟩⟩
  · rcases h.2 with ⟨e, _⟩ | ⟨g', cap', cur, e, _, _, hnc, _⟩
    · simp at e
    · simp only [Value.slice.injEq, true_and] at e
      omega
  · have := h.cellAt j (by omega)
    rw [Nat.zero_add, this]
    simp [List.getD, hl, hj]

/-- Its cells, as the laws on append ask them. -/
theorem Bytes.news {w : World} {ao : Option Addr} {len cap : Nat} {zs : List Int} (h : Bytes w ao len cap zs) : ∀ ad, ao = some ad → ∀ j u, (zs.map (Value.int .u8))[j]? = some u → w.cell? (ad.add j) = some u := by
  intro ad hao j u hu
  have hj : j < len := by
    have := (List.getElem?_eq_some_iff.1 hu).1
    simpa [h.length] using this
  obtain ⟨b, off, e, hc⟩ := h.cells (by omega)
  rw [e] at hao
  obtain rfl := Option.some.inj hao
  rw [add_plain, hc j hj, ← hu]
  simp [List.getD, h.length, hj]

/-- The bytes that are still to come, at j. -/
theorem drop_cons {zs : List Int} {j : Nat} (h : j < zs.length) : zs.drop j = zs.getD j 0 :: zs.drop (j + 1) := by
  rw [List.drop_eq_getElem_cons h]
  simp [List.getD, h]

theorem ret_bool {a b : Bool} (h : a = b) : Ending.returned (.bool a) = .returned (.bool b) := by rw [h]
theorem hide {p : Prop} (h : p) : Hid p := h

/-- A full row that is owned is its block. -/
theorem block_of_owned {w : World} {base g n : Nat} {xs : List Value} (h : w.ownsRow base 5 1 (.slice (some ⟨g, 0, none⟩) n n) n xs) : w.heap[g]? = some (.cells xs.toArray 5 (0, 0)) ∧ base ≤ g := by
  rcases h.2 with ⟨e, _⟩ | ⟨g', cap', cur, e, hb, hg, _, _, hs, ht⟩
  · simp at e
  · simp only [Value.slice.injEq, Option.some.injEq, Addr.mk.injEq, and_true, true_and] at e
    obtain ⟨rfl, rfl⟩ := e
    rw [List.take_of_length_le (by simp; omega)] at ht
    subst ht
    exact ⟨by rw [hg], hb⟩
theorem owned_of_block {w : World} {base g n : Nat} {xs : List Value} (hg : w.heap[g]? = some (.cells xs.toArray 5 (0, 0))) (hb : base ≤ g) (hl : xs.length = n) (hm : n ≤ maxLen) : w.ownsRow base 5 1 (.slice (some ⟨g, 0, none⟩) n n) n xs :=
  ⟨by omega, .inr ⟨g, n, xs.toArray, rfl, hb, hg, Nat.le_refl _, hm, by simp; omega, by rw [Nat.mul_one, ← hl]; simp⟩⟩

/-- What is owned, and is not empty: its shape. -/
theorem owned_shape {w : World} {base n : Nat} {v : Value} {xs : List Value} (h : w.ownsRow base 5 1 v n xs) (hn : 0 < n) : ∃ g cap, v = .slice (some ⟨g, 0, none⟩) n cap ∧ base ≤ g := by
  rcases h.2 with ⟨_, e⟩ | ⟨g, cap, cur, e, hb, _⟩
  · omega
  · exact ⟨g, cap, e, hb⟩

set_option maxHeartbeats 400000 in
theorem clone_any (ao : Option Addr) (len cap : Nat) (zs : List Int) (w : World) (hB : Bytes w ao len cap zs) (hlen : len ≤ 1048576) :
    Calls Try.prog 10 #[.slice ao len cap] w fun e w' => ∃ ao' cap', e = .returned (.slice ao' len cap') ∧ w'.ownsRow w.heap.size 5 1 (.slice ao' len cap') len (zs.map (Value.int .u8)) ∧ Bytes w' ao' len cap' zs ∧ Below w.heap.size w w' := by
  have q22 : ∀ (w : World) (a : Option Addr) (n c n' c' : Nat), (binOp .eql 22 (.slice a n c) (.slice none n' c')).run Try.prog w = .ok (.bool a.isNone) w := fun w a n c n' c' => Lib.run_eql_slice_nil w _ _ a n c n' c' Try.underlying22
  obtain ⟨i0, hi, hz0, hz1, hz2⟩ := info_parts Try.info5
  cases ao with
  | none =>
    obtain ⟨rfl, rfl⟩ := hB.nil rfl
    obtain rfl : zs = [] := List.eq_nil_of_length_eq_zero hB.length
    go_enter Try.func10, Try.ntmps10
    go_wp2
    go_ret
    exact ⟨none, 0, rfl, World.ownsRow_nil _ _ _ _, hB, Below.refl _ _⟩
  | some ad =>
    have H : Hid (Bytes w (some ad) len cap zs) := hB
    clear hB
    go_enter Try.func10, Try.ntmps10
    go_wp2_with (at_make; refine wpList_make_full _ rfl _ _ 22 rfl w.heap.size 5 i0 (.int .u8 0) 1 Try.underlying22 hi hz0 hz1 _ _ _ _ len rfl rfl rfl rfl ?b2 ?b3 (Nat.le_refl _) ?_)
    case b2 => rw [hz2]; omega
    case b3 => unfold maxLen; omega
    intro w0 hown0 hgrow0
    have hb0 : Below w.heap.size w w0 := (Below.refl _ _).grown hgrow0 (Nat.le_refl _) (fun k h => by cases h)
    have HG := hide (block_of_owned hown0).1
    have HB := hide hb0
    have hsz : (Try.prog.info? 5).map (·.size) = some 1 := by rw [hi]; simp [hz1]
    have HL0 := hide hown0.1
    clear hown0 hgrow0 hb0
    obtain ⟨w1, hrun, HG2, HB1⟩ : ∃ w1, (Builtin.copy_ #[22, 22] 3 #[.slice (some ⟨w.heap.size, 0, none⟩) len len, .slice (some ad) len cap]).run Try.prog w0 = .ok (.int .i64 len) w1 ∧ Hid (w1.heap[w.heap.size]? = some (.cells (zs.map (Value.int .u8)).toArray 5 (0, 0))) ∧ Hid (Below w.heap.size w w1) := by
      have hl : (madeCells #[Value.int .u8 0] len).toList.length = (zs.map (Value.int .u8)).length := by
        rw [toList_madeCells_one]; simp [H.out.length]
      have hr := run_copy_row (P := Try.prog) w0 22 22 3 5 w.heap.size 0 len len ad len cap _ 5 (zs.map (Value.int .u8)) Try.underlying22 hsz HG.out (by simp [H.out.length]) ((H.out.later HB.out).news ad rfl) (by rw [List.size_toArray, hl]; omega) (ints_oneCell _ _)
      have e : (List.take 0 (madeCells #[Value.int .u8 0] len).toList.toArray.toList ++ zs.map (Value.int .u8) ++ List.drop (0 + (zs.map (Value.int .u8)).length) (madeCells #[Value.int .u8 0] len).toList.toArray.toList).toArray = (zs.map (Value.int .u8)).toArray := by
        rw [List.take_zero, List.nil_append, Nat.zero_add, List.drop_eq_nil_of_le (Nat.le_of_eq (by rw [← hl])), List.append_nil]
      rw [e, show goInt ((zs.map (Value.int .u8)).length : Int) = .int .i64 len from by simp [goInt, H.out.length]] at hr
      exact ⟨_, hr, setRow_heap w0 _ _ _ 5 _ HG.out, below_setRow HB.out (Nat.le_refl _) _⟩
    clear HG HB HL0
    go_wp2
    go_ret
    have ho := owned_of_block (n := len) HG2.out (Nat.le_refl _) (by simp [H.out.length]) (by unfold maxLen; omega)
    exact ⟨_, _, rfl, ho, bytes_of_owned ho H.out.bd, HB1.out⟩

end Go.Proofs.Qxb6603187a
