/-
  SEAT b6603246a: the map of repeatedText: keys are structs of a bool and a string, elements pointers: what a look-up finds, what a store lays.
-/
import Derived.Test.Qxb6603246aFew
namespace Go.Proofs.Qxb6603246a
open Go.RowKit

theorem check_run (b : Bool) (k : Key) (W : World) : (Instr.checkKey b 10000 56 (keyVal k)).run Try.prog W = .ok () W := by kernel_rfl
theorem make_run (h : Int) (W : World) : (Instr.makeMap 58 (some (.int .i64 h))).run Try.prog W = .ok (.map (some W.heap.size)) (W.alloc (.map #[] 0)) := by kernel_rfl
theorem equal_run (a b : Key) (W : World) : (Op.equal 56 (keyVal a) (keyVal b)).run Try.prog W = .ok (sameB a b) W := by
  unfold sameB Op.equal Op.maxDepth
  cases h : (isMerge a == isMerge b)
  · simp [go_sem, h]
  · simp only [Bool.true_and]
    by_cases h2 : (resolved a).toList = (resolved b).toList <;> simp [go_sem, h, h2]

/-- The entry of key c. -/
def entry (K : Nat → Key) (Pt : Nat → Nat) (c : Nat) : MapEntry := { key := keyVal (K c), val := ptr (Pt c), born := c }
/-- What the look-up finds. -/
def findIn (K : Nat → Key) (Pt : Nat → Nat) (k : Key) : List Nat → Nat → Option (Nat × Value)
  | [], _ => none
  | c :: cs, i => if sameB k (K c) = true then some (i, ptr (Pt c)) else findIn K Pt k cs (i + 1)

theorem ask_run (K : Nat → Key) (Pt : Nat → Nat) (k : Key) (W : World) : ∀ (cs : List Nat) (i : Nat), (Instr.findAsking 56 (keyVal k) (cs.map (entry K Pt)) i).run Try.prog W = .ok (findIn K Pt k cs i) W
  | [], _ => rfl
  | c :: cs, i => by
    have ih := ask_run K Pt k W cs (i + 1)
    simp only [List.map_cons, Instr.findAsking, Sem.run_bind, entry, equal_run, Result.andThen_ok, findIn]
    cases sameB k (K c)
    · simpa [entry] using ih
    · rfl

theorem findKey_run (K : Nat → Key) (Pt : Nat → Nat) (k : Key) (W : World) (cs : List Nat) : (Instr.findKey 56 (keyVal k) (cs.map (entry K Pt))).run Try.prog W = .ok (findIn K Pt k cs 0) W := by
  cases cs with
  | nil => kernel_rfl
  | cons c cs =>
    have h : (Instr.findKey 56 (keyVal k) ((c :: cs).map (entry K Pt))).run Try.prog W = (Instr.findAsking 56 (keyVal k) ((c :: cs).map (entry K Pt)) 0).run Try.prog W := by kernel_rfl
    rw [h, ask_run]

/-- The map after the keys 0 .. a-1. -/
def mapObj (K : Nat → Key) (Pt : Nat → Nat) (a : Nat) : Obj := .map ((List.range a).map (entry K Pt)).toArray a

theorem findIn_none {K : Nat → Key} {Pt : Nat → Nat} {k : Key} : ∀ (cs : List Nat) (i : Nat), (∀ c ∈ cs, sameB k (K c) = false) → findIn K Pt k cs i = none
  | [], _, _ => rfl
  | c :: cs, i, h => by
    rw [findIn, h c (by simp)]
    simp only [Bool.false_eq_true, if_false]
    exact findIn_none cs (i + 1) (fun x hx => h x (by simp [hx]))
theorem findIn_some {K : Nat → Key} {Pt : Nat → Nat} {k : Key} {f : Nat} : ∀ (cs : List Nat) (i : Nat), f ∈ cs → sameB k (K f) = true → (∀ c ∈ cs, sameB k (K c) = true → c = f) → ∃ n, findIn K Pt k cs i = some (n, ptr (Pt f))
  | [], _, h, _, _ => by simp at h
  | c :: cs, i, h, hf, hu => by
    rw [findIn]
    cases hc : sameB k (K c)
    · simp only [Bool.false_eq_true, if_false]
      refine findIn_some cs (i + 1) ?_ hf (fun x hx => hu x (by simp [hx]))
      rcases List.mem_cons.1 h with e | e
      · subst e; rw [hc] at hf; cases hf
      · exact e
    · rw [if_pos rfl, hu c (by simp) hc]
      exact ⟨i, rfl⟩

theorem lookup_none {K : Nat → Key} {Pt : Nat → Nat} {k : Key} {W : World} {m a : Nat} (hm : W.heap[m]? = some (mapObj K Pt a)) (h : ∀ c, c < a → sameB k (K c) = false) :
    (Instr.lookup 58 (.map (some m)) (keyVal k) true).run Try.prog W = .ok (.tuple #[.pointer none, .bool false]) W := by
  have hf := findKey_run K Pt k W (List.range a)
  rw [findIn_none _ _ (fun c hc => h c (by simpa using hc))] at hf
  simp [Instr.lookup, run_underlying Try.underlying58, MapKept.run_getObj_map hm, check_run, hf, Result.andThen]

theorem lookup_some {K : Nat → Key} {Pt : Nat → Nat} {k : Key} {W : World} {m a f : Nat} (hm : W.heap[m]? = some (mapObj K Pt a)) (hf : f < a) (h1 : sameB k (K f) = true) (h : ∀ c, c < a → sameB k (K c) = true → c = f) :
    (Instr.lookup 58 (.map (some m)) (keyVal k) true).run Try.prog W = .ok (.tuple #[ptr (Pt f), .bool true]) W := by
  have hr := findKey_run K Pt k W (List.range a)
  obtain ⟨n, hn⟩ := findIn_some (K := K) (Pt := Pt) (k := k) (f := f) (List.range a) 0 (by simpa using hf) h1 (fun c hc => h c (by simpa using hc))
  rw [hn] at hr
  simp [Instr.lookup, run_underlying Try.underlying58, MapKept.run_getObj_map hm, check_run, hr, Result.andThen]

theorem update_run {K : Nat → Key} {Pt : Nat → Nat} {W : World} {m a : Nat} (hm : W.heap[m]? = some (mapObj K Pt a)) (h : ∀ c, c < a → sameB (K a) (K c) = false) :
    (Instr.mapUpdate 58 (.map (some m)) (keyVal (K a)) (ptr (Pt a))).run Try.prog W = .ok () (ChangeMaps.setBlock W m (mapObj K Pt (a + 1))) := by
  have hf := findKey_run K Pt (K a) W (List.range a)
  rw [findIn_none _ _ (fun c hc => h c (by simpa using hc))] at hf
  have e : mapObj K Pt (a + 1) = .map (((List.range a).map (entry K Pt)).toArray.push { key := keyVal (K a), val := ptr (Pt a), born := a }) (a + 1) := by
    simp [mapObj, List.range_succ, entry]
  rw [e]
  simp [Instr.mapUpdate, run_underlying Try.underlying58, MapKept.run_getObj_map hm, check_run, hf, MapKept.run_setObj_map _ hm, Result.andThen, ChangeMaps.setBlock]

/-- What a store into the map leaves elsewhere. -/
theorem grown_setBlock (W : World) (m : Nat) (o : Obj) : W.grownBy (ChangeMaps.setBlock W m o) (some m) :=
  ⟨rfl, rfl, rfl, by simp [ChangeMaps.setBlock], fun k hk hne => by
    have : m ≠ k := fun e => hne (by rw [e])
    simp [ChangeMaps.setBlock, this]⟩
theorem heap_setBlock {W : World} {m : Nat} (hm : m < W.heap.size) (o : Obj) : (ChangeMaps.setBlock W m o).heap[m]? = some o := by
  simp [ChangeMaps.setBlock, hm]

end Go.Proofs.Qxb6603246a
