/-
  The model of the law on adds: two rows of one's own, offsets and costs.
-/
import Derived.Test.Qxb6614306aFront
import Derived.Deep.DeepAppendRoom
namespace Go.Proofs.Qxb6614306a
open Go.RowKit Go.WideShapes
open Go.ChangeMaps (setBlock)
set_option linter.unusedVariables false

/-- a row of one's own with room for cap -/
def MR (w : World) (g : Nat) (t : TypeId) (cap : Nat) (xs : List Value) : Prop := w.ownsRow 0 t 1 (.slice (some ⟨g, 0, none⟩) xs.length cap) xs.length xs

theorem MR.parts {w : World} {g cap : Nat} {t : TypeId} {xs : List Value} (h : MR w g t cap xs) : ∃ cur, w.heap[g]? = some (.cells cur t (0, 0)) ∧ xs.length ≤ cap ∧ cap ≤ maxLen ∧ cur.size = cap ∧ cur.toList.take xs.length = xs := by
  rcases h.2 with ⟨e, _⟩ | ⟨g', cap', cur, e, _, hg, h1, h2, h3, h4⟩
  · cases e
  · simp only [Value.slice.injEq, Option.some.injEq, Addr.mk.injEq, and_true, true_and] at e
    obtain ⟨rfl, rfl⟩ := e
    exact ⟨cur, hg, h1, h2, by simpa using h3, by simpa using h4⟩
theorem MR.mk {w : World} {g cap : Nat} {t : TypeId} {xs : List Value} {cur : Array Value} (h0 : w.heap[g]? = some (.cells cur t (0, 0))) (h1 : xs.length ≤ cap) (h2 : cap ≤ maxLen) (h3 : cur.size = cap) (h4 : cur.toList.take xs.length = xs) : MR w g t cap xs :=
  ⟨by simp, .inr ⟨g, cap, cur, rfl, Nat.zero_le _, h0, h1, h2, by simpa using h3, by simpa using h4⟩⟩

theorem MR.cell {w : World} {g cap : Nat} {t : TypeId} {xs : List Value} (h : MR w g t cap xs) {j : Nat} (hj : j < xs.length) : w.cell? ⟨g, j, none⟩ = some xs[j] := by
  obtain ⟨cur, hg, _, _, _, ht⟩ := h.parts
  rw [cell_of_row _ _ j cur t (0, 0) hg]
  have e : (cur.toList.take xs.length)[j]? = xs[j]? := by rw [ht]
  rw [List.getElem?_take_of_lt hj] at e
  simpa [hj] using e
theorem MR.frozen {w : World} {g cap : Nat} {t : TypeId} {xs : List Value} (h : MR w g t cap xs) (j : Nat) : w.frozen? ⟨g, j, none⟩ = false := by
  obtain ⟨cur, hg, _⟩ := h.parts
  simp [World.frozen?, hg]
theorem MR.lt {w : World} {g cap : Nat} {t : TypeId} {xs : List Value} (h : MR w g t cap xs) : g < w.heap.size := by
  obtain ⟨cur, hg, _⟩ := h.parts
  exact (Array.getElem?_eq_some_iff.1 hg).1
theorem MR.take {w : World} {g cap : Nat} {t : TypeId} {xs : List Value} (h : MR w g t cap xs) (k : Nat) : MR w g t cap (xs.take k) := by
  obtain ⟨cur, hg, h1, h2, h3, ht⟩ := h.parts
  refine MR.mk hg (by rw [List.length_take]; omega) h2 h3 ?_
  rw [List.length_take]
  conv => rhs; rw [← ht]
  rw [List.take_take]
theorem MR.block {w w' : World} {g cap : Nat} {t : TypeId} {xs : List Value} (h : MR w g t cap xs) (e : w'.heap[g]? = w.heap[g]?) : MR w' g t cap xs := by
  obtain ⟨cur, hg, h1, h2, h3, ht⟩ := h.parts
  exact MR.mk (e.trans hg) h1 h2 h3 ht
theorem MR.set {w : World} {g cap : Nat} {t : TypeId} {xs : List Value} (h : MR w g t cap xs) (j : Nat) (v : Value) : MR (w.setCell ⟨g, j, none⟩ v) g t cap (xs.set j v) := by
  obtain ⟨cur, hg, h1, h2, h3, ht⟩ := h.parts
  refine MR.mk (cur := cur.setIfInBounds j v) (heap_setCell_same hg v) (by rw [List.length_set]; exact h1) h2 (by simpa using h3) ?_
  rw [List.length_set, Array.toList_setIfInBounds, List.take_set, ht]

/-- the two rows of the model -/
structure Mod (w : World) (ga gc n : Nat) (X : List (Int × Nat)) : Prop where
  off : MR w ga 2 n (X.map fun p => .int .i64 p.1)
  cost : MR w gc 33 n (X.map fun p => .int .u64 (p.2 : Int))

theorem Mod.blocks {w w' : World} {ga gc n : Nat} {X : List (Int × Nat)} (h : Mod w ga gc n X) (h1 : w'.heap[ga]? = w.heap[ga]?) (h2 : w'.heap[gc]? = w.heap[gc]?) : Mod w' ga gc n X := ⟨h.off.block h1, h.cost.block h2⟩
theorem Mod.take {w : World} {ga gc n : Nat} {X : List (Int × Nat)} (h : Mod w ga gc n X) (k : Nat) : Mod w ga gc n (X.take k) := ⟨by rw [List.map_take]; exact h.off.take k, by rw [List.map_take]; exact h.cost.take k⟩
theorem Mod.offCell {w : World} {ga gc n : Nat} {X : List (Int × Nat)} (h : Mod w ga gc n X) {j : Nat} (hj : j < X.length) : w.cell? ⟨ga, j, none⟩ = some (.int .i64 X[j].1) := by
  rw [h.off.cell (j := j) (by simpa using hj)]; simp
theorem Mod.costCell {w : World} {ga gc n : Nat} {X : List (Int × Nat)} (h : Mod w ga gc n X) {j : Nat} (hj : j < X.length) : w.cell? ⟨gc, j, none⟩ = some (.int .u64 (X[j].2 : Int)) := by
  rw [h.cost.cell (j := j) (by simpa using hj)]; simp
theorem Mod.set {w : World} {ga gc n : Nat} {X : List (Int × Nat)} (h : Mod w ga gc n X) (hne : ga ≠ gc) (j : Nat) (v : Int × Nat) :
    Mod ((w.setCell ⟨ga, j, none⟩ (.int .i64 v.1)).setCell ⟨gc, j, none⟩ (.int .u64 (v.2 : Int))) ga gc n (X.set j v) := by
  refine ⟨?_, ?_⟩
  · rw [List.map_set]
    exact (h.off.set j _).block (Below.heap_setCell _ _ _ _ (by show ga ≠ gc; exact hne))
  · rw [List.map_set]
    exact (h.cost.block (Below.heap_setCell _ _ _ _ (by show gc ≠ ga; exact hne.symm))).set j _
theorem Mod.len {w : World} {ga gc n : Nat} {X : List (Int × Nat)} (h : Mod w ga gc n X) : X.length ≤ n := by
  obtain ⟨_, _, h1, _⟩ := h.off.parts
  simpa using h1

/-- an entry's pair -/
def pr (x : Ent) : Int × Nat := (x.off, x.len + 128)

/-- a model list's sum -/
def msum : List (Int × Nat) → Nat
  | [] => 0
  | p :: l => p.2 + msum l
theorem msum_append : ∀ a b : List (Int × Nat), msum (a ++ b) = msum a + msum b
  | [], b => by simp [msum]
  | p :: a, b => by simp only [List.cons_append, msum, msum_append a b]; omega
theorem msum_pr : ∀ es : List Ent, msum (es.map pr) = total es
  | [] => rfl
  | x :: es => by simp only [List.map_cons, msum, total, msum_pr es, pr]
theorem msum_take_succ {X : List (Int × Nat)} {j : Nat} (hj : j < X.length) : msum (X.take (j + 1)) = msum (X.take j) + X[j].2 := by
  rw [List.take_succ_eq_append_getElem hj, msum_append]
  simp [msum]
theorem msum_take_le (X : List (Int × Nat)) (j : Nat) : msum (X.take j) ≤ msum X := by
  have : msum (X.take j) + msum (X.drop j) = msum X := by rw [← msum_append, List.take_append_drop]
  omega

theorem total_take_mono (es : List Ent) {i j : Nat} (h : i ≤ j) : total (es.take i) ≤ total (es.take j) := by
  have : es.take i = (es.take j).take i := by rw [List.take_take, Nat.min_eq_left h]
  rw [this]
  exact total_take_le _ _

/-- there is one cut -/
theorem Cut.uniq {es : List Ent} {room i j : Nat} (h : Cut es room i) (k : Cut es room j) : i = j := by
  obtain ⟨a1, a2, a3⟩ := h
  obtain ⟨b1, b2, b3⟩ := k
  by_cases e : i = j
  · exact e
  · by_cases hl : i < j
    · rcases a3 with e3 | e3
      · omega
      · have := total_take_mono es (i := i + 1) (j := j) (by omega)
        omega
    · rcases b3 with e3 | e3
      · omega
      · have := total_take_mono es (i := j + 1) (j := i) (by omega)
        omega

/-- what the model makes of the list -/
def Mmade (es : List Ent) (off : Int) (len lim : Nat) (read want : Bool) (ms : List (Int × Nat)) : Prop :=
  (want = false ∧ ms = es.map pr ∧ (lim < len + 128 ∨ (read = false ∧ lim < total es + (len + 128)) ∨ off ∈ es.map (·.off))) ∨
  (want = true ∧ len + 128 ≤ lim ∧ off ∉ es.map (·.off) ∧ (read = true ∨ total es + (len + 128) ≤ lim) ∧ ∃ k, Cut es (lim - (len + 128)) k ∧ ms = if read then (off, len + 128) :: (es.take k).map pr else (es.take k).map pr ++ [(off, len + 128)])

/-- the cache and the model agree -/
theorem agree {es es' : List Ent} {off : Int} {len lim ob : Nat} {read want ans : Bool} {ms : List (Int × Nat)} (h : Mmade es off len lim read want ms) (k : Added es off len lim ob read ans es') : ans = want ∧ es'.map pr = ms := by
  rcases h with ⟨rfl, rfl, hw⟩ | ⟨rfl, h1, h2, h3, i, hi, rfl⟩
  · rcases k with ⟨rfl, rfl, _⟩ | ⟨rfl, k1, k2, k3, _⟩
    · exact ⟨rfl, rfl⟩
    · exfalso
      rcases hw with e | e | e
      · omega
      · rcases k3 with k3 | k3
        · rw [e.1] at k3; cases k3
        · omega
      · exact k2 e
  · rcases k with ⟨rfl, rfl, hw⟩ | ⟨rfl, k1, k2, k3, j, x, hj, rfl⟩
    · exfalso
      rcases hw with e | e | e
      · omega
      · rcases h3 with k3 | k3
        · rw [e.1] at k3; cases k3
        · omega
      · exact h2 e
    · have e := hi.uniq hj
      subst e
      refine ⟨rfl, ?_⟩
      cases read <;> simp [pr]
end Go.Proofs.Qxb6614306a
