/-
  SEAT b6603246a: keys in memory; ydIsMergeB1 (27), ydResolvedTextB1 (28), ydAddB1 (13).
-/
import Derived.Test.Qxb6603246aRows
import Derived.WalkKit
import Derived.WalkSpells
import Derived.WalkLawsBesides
import Derived.ProofKit
import Derived.OpenShut
namespace Go.Proofs.Qxb6603246a
open Go.RowKit

theorem hide {p : Prop} (h : p) : Hid p := h
theorem ret_bool {a b : Bool} (h : a = b) : Ending.returned (.bool a) = .returned (.bool b) := by rw [h]

/-- Some bool, some int is handed back. -/
def SomeBool (e : Ending) : Prop := ∃ r, e = .returned (.bool r)
def SomeInt (e : Ending) : Prop := ∃ r, e = .returned (.int .i64 r)

/-- A YdKeyB1. -/
structure Key where
  kind : ByteArray
  tag : ByteArray
  text : ByteArray
  al : Bool
  akind : ByteArray
  atag : ByteArray
  atext : ByteArray

abbrev Key.val (k : Key) : Value := .agg #[.string k.kind, .string k.tag, .string k.text, .bool k.al, .string k.akind, .string k.atag, .string k.atext]
abbrev Key.obj (k : Key) : Obj := .cells #[.string k.kind, .string k.tag, .string k.text, .bool k.al, .string k.akind, .string k.atag, .string k.atext] 37

/-- The seven cells of a key at an address. -/
structure KeyAt (w : World) (b o : Nat) (k : Key) : Prop where
  c0 : w.cell? ⟨b, o, none⟩ = some (.string k.kind)
  c1 : w.cell? ⟨b, o + 1, none⟩ = some (.string k.tag)
  c2 : w.cell? ⟨b, o + 2, none⟩ = some (.string k.text)
  c3 : w.cell? ⟨b, o + 3, none⟩ = some (.bool k.al)
  c4 : w.cell? ⟨b, o + 4, none⟩ = some (.string k.akind)
  c5 : w.cell? ⟨b, o + 5, none⟩ = some (.string k.atag)
  c6 : w.cell? ⟨b, o + 6, none⟩ = some (.string k.atext)

theorem KeyAt.later {w w' : World} {b o : Nat} {k : Key} (h : KeyAt w b o k) (hb : Below w.heap.size w w') : KeyAt w' b o k :=
  ⟨cell_later hb h.c0, cell_later hb h.c1, cell_later hb h.c2, cell_later hb h.c3, cell_later hb h.c4, cell_later hb h.c5, cell_later hb h.c6⟩

/-- A slice of keys: the first 'len' are K 0, K 1, .. -/
structure Keys (w : World) (ao : Option Addr) (len cap : Nat) (K : Nat → Key) : Prop where
  le : len ≤ cap
  nil : ao = none → len = 0 ∧ cap = 0
  at' : 0 < len → ∃ b off, ao = some ⟨b, off, none⟩ ∧ ∀ j, j < len → KeyAt w b (off + j * 7) (K j)

theorem Keys.later {w w' : World} {ao : Option Addr} {len cap : Nat} {K : Nat → Key} (h : Keys w ao len cap K) (hb : Below w.heap.size w w') : Keys w' ao len cap K :=
  ⟨h.le, h.nil, fun hp => by
    obtain ⟨b, off, e, hc⟩ := h.at' hp
    exact ⟨b, off, e, fun j hj => (hc j hj).later hb⟩⟩

/-- The plain merge key. -/
def isMerge (k : Key) : Bool := (k.kind.toList == [115, 99, 97, 108, 97, 114]) && (k.tag.toList == [33, 33, 109, 101, 114, 103, 101]) && (k.text.toList == [60, 60])
/-- The text of the node that the key stands for. -/
def resolved (k : Key) : ByteArray := if (k.kind.toList == [97, 108, 105, 97, 115]) && k.al then k.atext else k.text

theorem isMerge_any (k : Key) (w : World) :
    Calls Try.prog 27 #[k.val] w fun e w' => e = .returned (.bool (isMerge k)) ∧ w.alloc k.obj = w' := by
  go_enter Try.func27, Try.ntmps27
  go_wp2
  all_goals
    go_ret
    exact ⟨ret_bool (by simp [isMerge, *]), rfl⟩

theorem ret_string {a b : ByteArray} (h : a = b) : Ending.returned (.string a) = .returned (.string b) := by rw [h]
theorem resolved_any (k : Key) (w : World) :
    Calls Try.prog 28 #[k.val] w fun e w' => e = .returned (.string (resolved k)) ∧ w.alloc k.obj = w' := by
  go_enter Try.func28, Try.ntmps28
  go_wp2
  all_goals
    go_ret
    exact ⟨ret_string (by simp [resolved, *]), by first | rfl | simp only [Key.obj, *]⟩

theorem add_any (a b : Int) (w : World) :
    Calls Try.prog 13 #[.int .i64 a, .int .i64 b] w fun e w' => SomeInt e ∧ w' = w := by
  go_enter Try.func13, Try.ntmps13
  go_wp2
  all_goals
    go_ret
    exact ⟨⟨_, rfl⟩, rfl⟩

set_option maxRecDepth 100000 in
set_option maxHeartbeats 4000000 in
theorem bytes_any (ao : Option Addr) (len cap : Nat) (K : Nat → Key) (b : Bool) (w : World) (hK : Keys w ao len cap K) :
    Calls Try.prog 6 #[.slice ao len cap, .bool b] w fun e w' => SomeBool e ∧ w' = w := by
  by_cases hl : len ≤ 1048576
  · have HK := hide hK
    clear hK
    go_enter Try.func6, Try.ntmps6
    go_wp2
    go_loop [5, 6] (fun t i => ∃ (k n : Nat), k ≤ len ∧ i = .int .i64 k ∧ n ≤ 1048576 ∧ t = .int .i64 n) (fun _ i => len - (intOf i).toNat)
    case atStart => exact ⟨0, len, Nat.zero_le _, rfl, hl, rfl⟩
    case round =>
      obtain ⟨k, n, hk, rfl, hn, rfl⟩ := hrel
      by_cases hlt : k < len
      · obtain ⟨bb, off, rfl, hc⟩ := HK.out.at' (by omega)
        obtain ⟨c0, c1, c2, c3, c4, c5, c6⟩ := hc k hlt
        clear hc c3
        go_wp2
        all_goals first
          | (go_ret; exact ⟨⟨_, rfl⟩, rfl⟩)
          | (go_round
             case rel => exact ⟨k + 1, n + (K k).kind.size + (K k).tag.size + (K k).text.size + (K k).akind.size + (K k).atag.size + (K k).atext.size, by omega, by go_num, by omega, by go_num⟩
             case measure => simp [intOf]; omega)
      · go_wp2
        go_ret
        exact ⟨⟨_, rfl⟩, rfl⟩
  · clear hK
    go_enter Try.func6, Try.ntmps6
    go_wp2
    go_ret
    exact ⟨⟨_, rfl⟩, rfl⟩

set_option maxRecDepth 100000 in
set_option maxHeartbeats 4000000 in
theorem keyBytes_any (ao : Option Addr) (len cap : Nat) (K : Nat → Key) (w : World) (hK : Keys w ao len cap K) (hl : len ≤ 4096) :
    Calls Try.prog 7 #[.slice ao len cap] w fun e w' => SomeInt e ∧ Below w.heap.size w w' := by
  have HK := hide hK
  clear hK
  go_enter Try.func7, Try.ntmps7
  go_wp2
  go_loopw [3, 4] (fun t i wr => ∃ (k : Nat) (n : Int), k ≤ len ∧ i = .int .i64 k ∧ t = .int .i64 n ∧ Hid (Below w.heap.size w wr)) (fun _ i _ => len - (intOf i).toNat)
  case atStart => exact ⟨0, _, Nat.zero_le _, rfl, rfl, Below.refl _ _⟩
  case round =>
    obtain ⟨k, n, hk, rfl, rfl, HB⟩ := hrel
    by_cases hlt : k < len
    · obtain ⟨bb, off, rfl, hc⟩ := HK.out.at' (by omega)
      obtain ⟨c0, c1, c2, c3, c4, c5, c6⟩ := (hc k hlt).later HB.out
      clear hc
      go_wp2_with (go_at_call 13; refine (add_any _ _ _).mono ?_; rintro e w' ⟨⟨r, rfl⟩, rfl⟩)
      go_roundw
      case rel => exact ⟨k + 1, _, by omega, by go_num, rfl, HB.out.alloc HB.out.size _⟩
      case measure => simp [intOf]; omega
    · go_wp2
      go_ret
      exact ⟨⟨_, rfl⟩, HB.out⟩

end Go.Proofs.Qxb6603246a
