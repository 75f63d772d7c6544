/-
  Rows.FnRepeatedTextFindsFirstRepeatSaid: the frame in the make of the given shells (a slice of structs of seven fields and a bool come in); the walk is 'top_any'.
-/
import Derived.Test.Qxb6603246aRows
import Derived.Test.Qxb6603246aTop
import Derived.WalkKit
import Derived.ProofKit
import Derived.OpenShut
import Derived.ShutString
import Derived.ChangeOld
import Derived.Below
import Derived.Deep.Slices
namespace Go.Proofs.Qxb6603246a.fnRepeated
open Go.ChangeShapes Go.WideShapes Go.ChangeAt Go.RowKit
set_option linter.unusedVariables false

theorem own : ownKnob Try.prog.godebug = none := by kernel_rfl
theorem laidOut : laidOutB Try.prog = true := by kernel_rfl
theorem cells37 : Try.prog.cellsOf 37 = 7 := by kernel_rfl
theorem cells9 : Try.prog.cellsOf 9 = 1 := by kernel_rfl
theorem cells4 : Try.prog.cellsOf 4 = 1 := by kernel_rfl

section
variable {H : Type} {enc : TypeId × Value → H} {w : World} {base : Nat} {spare : Nat → Bool} {held : Bool}

/-- The cells of a struct that is read as a YdKeyB1. -/
theorem key_open {n : Nat} {cs : List Value} {x : DataW H × List MemPlace} (h : DataW.trod enc Try.prog w base spare held n 37 cs = some x) : ∃ k : Key, cs = k.list := by
  obtain ⟨xs, m, _, _, hl, hlen, hf⟩ := DataW.trod_struct Try.underlying37 h
  rw [cells37] at hl
  have hx : xs.length = 7 := hlen
  match cs, hl with
  | [v0, v1, v2, v3, v4, v5, v6], _ =>
    have g0 : DataW.trod enc Try.prog w base spare held m 9 (([v0, v1, v2, v3, v4, v5, v6].drop 0).take (Try.prog.cellsOf 9)) = xs[0]? := hf 0 _ rfl
    rw [cells9, List.getElem?_eq_getElem (by omega)] at g0
    replace g0 : DataW.trod enc Try.prog w base spare held m 9 [v0] = some xs[0] := g0
    have g1 : DataW.trod enc Try.prog w base spare held m 9 (([v0, v1, v2, v3, v4, v5, v6].drop 1).take (Try.prog.cellsOf 9)) = xs[1]? := hf 1 _ rfl
    rw [cells9, List.getElem?_eq_getElem (by omega)] at g1
    replace g1 : DataW.trod enc Try.prog w base spare held m 9 [v1] = some xs[1] := g1
    have g2 : DataW.trod enc Try.prog w base spare held m 9 (([v0, v1, v2, v3, v4, v5, v6].drop 2).take (Try.prog.cellsOf 9)) = xs[2]? := hf 2 _ rfl
    rw [cells9, List.getElem?_eq_getElem (by omega)] at g2
    replace g2 : DataW.trod enc Try.prog w base spare held m 9 [v2] = some xs[2] := g2
    have g3 : DataW.trod enc Try.prog w base spare held m 4 (([v0, v1, v2, v3, v4, v5, v6].drop 3).take (Try.prog.cellsOf 4)) = xs[3]? := hf 3 _ rfl
    rw [cells4, List.getElem?_eq_getElem (by omega)] at g3
    replace g3 : DataW.trod enc Try.prog w base spare held m 4 [v3] = some xs[3] := g3
    have g4 : DataW.trod enc Try.prog w base spare held m 9 (([v0, v1, v2, v3, v4, v5, v6].drop 4).take (Try.prog.cellsOf 9)) = xs[4]? := hf 4 _ rfl
    rw [cells9, List.getElem?_eq_getElem (by omega)] at g4
    replace g4 : DataW.trod enc Try.prog w base spare held m 9 [v4] = some xs[4] := g4
    have g5 : DataW.trod enc Try.prog w base spare held m 9 (([v0, v1, v2, v3, v4, v5, v6].drop 5).take (Try.prog.cellsOf 9)) = xs[5]? := hf 5 _ rfl
    rw [cells9, List.getElem?_eq_getElem (by omega)] at g5
    replace g5 : DataW.trod enc Try.prog w base spare held m 9 [v5] = some xs[5] := g5
    have g6 : DataW.trod enc Try.prog w base spare held m 9 (([v0, v1, v2, v3, v4, v5, v6].drop 6).take (Try.prog.cellsOf 9)) = xs[6]? := hf 6 _ rfl
    rw [cells9, List.getElem?_eq_getElem (by omega)] at g6
    replace g6 : DataW.trod enc Try.prog w base spare held m 9 [v6] = some xs[6] := g6
    obtain ⟨s0, e0, _⟩ := DataW.trod_string Try.underlying9 g0
    obtain ⟨s1, e1, _⟩ := DataW.trod_string Try.underlying9 g1
    obtain ⟨s2, e2, _⟩ := DataW.trod_string Try.underlying9 g2
    obtain ⟨s3, e3, _⟩ := DataW.trod_bool Try.underlying4 g3
    obtain ⟨s4, e4, _⟩ := DataW.trod_string Try.underlying9 g4
    obtain ⟨s5, e5, _⟩ := DataW.trod_string Try.underlying9 g5
    obtain ⟨s6, e6, _⟩ := DataW.trod_string Try.underlying9 g6
    simp only [List.cons.injEq, and_true] at e0 e1 e2 e3 e4 e5 e6
    subst e0 e1 e2 e3 e4 e5 e6
    exact ⟨⟨s0, s1, s2, s3, s4, s5, s6⟩, rfl⟩

/-- A slice of keys that came in. -/
theorem keys_open {fuel : Nat} {ao : Option Addr} {len cap : Nat} {x : DataW H × List MemPlace} (h : DataW.trod enc Try.prog w base spare held fuel 22 [.slice ao len cap] = some x) : ∃ K : Nat → Key, Keys w ao len cap K := by
  rcases Deep.open_slice Try.underlying22 h with ⟨hcs, _⟩ | ⟨a, l, c, m, n, D, Pl, hcs, _, hl, hm, hmm, _, hx⟩
  · simp only [List.cons.injEq, Value.slice.injEq, and_true] at hcs
    obtain ⟨rfl, rfl, rfl⟩ := hcs
    exact ⟨fun _ => ⟨⟨#[]⟩, ⟨#[]⟩, ⟨#[]⟩, false, ⟨#[]⟩, ⟨#[]⟩, ⟨#[]⟩⟩, Nat.le_refl _, fun _ => ⟨rfl, rfl⟩, fun h => absurd h (Nat.lt_irrefl 0)⟩
  · simp only [List.cons.injEq, Value.slice.injEq, and_true] at hcs
    obtain ⟨rfl, rfl, rfl⟩ := hcs
    have hlm : len ≤ m := by rw [hmm]; split <;> omega
    rw [cells37] at hx
    have each : ∀ i, ∃ k : Key, i < len → ∀ f, f < 7 → w.cell? (a.add (i * 7 + f)) = k.list[f]? := by
      intro i
      by_cases hi : i < len
      · obtain ⟨cs', h1, h2⟩ := hx i (by omega)
        obtain ⟨k, rfl⟩ := key_open h2
        obtain ⟨_, _, h3⟩ := World.cells?_some h1
        refine ⟨k, fun _ f hf => ?_⟩
        rw [← Deep.add_add]
        exact h3 f hf
      · exact ⟨⟨⟨#[]⟩, ⟨#[]⟩, ⟨#[]⟩, false, ⟨#[]⟩, ⟨#[]⟩, ⟨#[]⟩⟩, fun h => absurd h hi⟩
    refine ⟨fun i => Classical.choose (each i), hl, fun e => by simp at e, fun hp => ?_⟩
    have spec : ∀ i, i < len → ∀ f, f < 7 → w.cell? (a.add (i * 7 + f)) = (Classical.choose (each i)).list[f]? := fun i hi => Classical.choose_spec (each i) hi
    obtain ⟨b, off, spot⟩ := a
    have hspot : spot = none := by
      have h0 := spec 0 hp 0 (by omega)
      simpa [Addr.add] using World.cell?_spot h0
    subst hspot
    refine ⟨b, off, rfl, fun j hj => ?_⟩
    have cell : ∀ f, f < 7 → w.cell? ⟨b, off + j * 7 + f, none⟩ = (Classical.choose (each j)).list[f]? := by
      intro f hf
      have := spec j hj f hf
      rw [add_plain, ← Nat.add_assoc] at this
      exact this
    exact ⟨cell 0 (by omega), cell 1 (by omega), cell 2 (by omega), cell 3 (by omega), cell 4 (by omega), cell 5 (by omega), cell 6 (by omega)⟩
end

set_option maxRecDepth 100000 in
theorem lifted (os : Os) (started : os.Started) (H : Type) (enc : TypeId × Value → H) :
    ReturnsInHanded {} Try.checked os 3 .any (Rows.fnRepeatedTextFindsFirstRepeatSpec.pre6 enc Try.prog Try.f3 Rows.fnRepeatedTextFindsFirstRepeatRow.domain false) (Rows.fnRepeatedTextFindsFirstRepeatSpec.post enc Try.prog Try.f3 false true false false) := by
  refine returnsInHanded_of_change (C := Try.checked) own started (by kernel_rfl) Try.func3
    (ChangeSpec.witness6 (enc := enc) (C := Try.checked) false ⟨#[], #[.slice none 0 0, .bool false], []⟩ 8 (by kernel_rfl) (by kernel_rfl) (by kernel_rfl) (by kernel_rfl)) ?_
  intro W base args ds gs before hval0 hW hcnd _
  have hval : ∀ (j : Nat) t v, Try.f3.params[j]? = some t → args[j]? = some v → Value.okWide Try.prog W .any base t v := hval0
  have hW' := hW
  obtain ⟨p, q, hA0, hV, rfl, hfz, hnd⟩ := hW
  have hA : DataW.TrodAll enc Try.prog W 0 (fun _ => true) true Try.f3.params.toList args.toList ds p := hA0
  rw [Try.params3] at hA hval
  obtain ⟨v0, vs0, d0, ds0, p0, q0, hargs, rfl, rfl, h0, r0⟩ := trodAll_cons hA
  obtain ⟨v1, vs1, d1, ds1, p1, q1, rfl, rfl, rfl, h1, r1⟩ := trodAll_cons r0
  obtain ⟨rfl, rfl, rfl⟩ := trodAll_nil r1
  obtain rfl : args = #[v0, v1] := by cases args; simp_all
  obtain ⟨rfl, rfl⟩ := trodVars_none hV
  obtain ⟨a1, rfl, rfl, rfl⟩ := open_bool Try.underlying4 (hval 1 4 v1 rfl rfl) h1
  obtain ⟨a0, len0, cap0, rfl⟩ := okWide_slice Try.underlying22 (hval 0 22 v0 rfl rfl)
  have k0 := h0
  have lt0 : ∀ x ∈ p0, x.block < W.heap.size := by obtain ⟨m, hm⟩ := k0; exact DataW.trod_lt m _ _ _ hm
  obtain ⟨K, hK⟩ : ∃ K, Keys W a0 len0 cap0 K := by
    obtain ⟨fuel, hf⟩ := h0
    exact keys_open hf
  clear hA0 hval0
  refine (top_any a0 len0 cap0 K a1 W hK).mono fun e W' ⟨he, bel⟩ => ?_
  subst he
  exact ⟨_, rfl, _, _, _, [], _, [], hW', trodAll_mk1 (shut_bool Try.underlying4 _), (trodAll_cons_mk (Below.trod laidOut (by kernel_rfl) (of_decide_eq_true (by kernel_rfl)) k0 bel lt0) (trodAll_cons_mk (shut_bool Try.underlying4 _) trodAll_mk0)), rfl, bel.frame _, fun h => by cases h⟩

theorem over : Rows.fnRepeatedTextFindsFirstRepeatRow.holds Try.pinned (OpenSpec.ofChange Rows.fnRepeatedTextFindsFirstRepeatSpec) :=
  OpenClaim.holds_of_wide 3 Try.f3 rfl rfl rfl rfl rfl rfl rfl ⟨rfl, rfl, rfl, rfl, rfl⟩ rfl rfl rfl rfl rfl (by kernel_rfl) Try.func3 (by kernel_rfl)
    (of_decide_eq_true (by kernel_rfl)) (by unfold Func.isWrapper; first | (rw [if_pos (by decide +kernel)]; kernel_rfl) | (rw [if_neg (by decide +kernel)]; exact ⟨rfl, rfl⟩))
    (fun os started H enc _ => lifted os started H enc)
end Go.Proofs.Qxb6603246a.fnRepeated
namespace Go.Proofs.Qxb6603246a
theorem repeatedText_proved : Rows.FnRepeatedTextFindsFirstRepeatSaid := fnRepeated.over
end Go.Proofs.Qxb6603246a
