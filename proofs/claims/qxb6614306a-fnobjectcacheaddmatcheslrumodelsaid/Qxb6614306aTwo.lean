/-
  The model's two appends and its shift, plainly.
-/
import Derived.Test.Qxb6614306aModel
namespace Go.Proofs.Qxb6614306a
open Go.RowKit Go.WideShapes
set_option linter.unusedVariables false

/-- both rows have grown by one -/
theorem Mod.grown {w w1 w2 : World} {ga gc n : Nat} {X : List (Int × Nat)} {v : Int × Nat} {o1 o2 : Obj} (h : Mod w ga gc n X) (hne : ga ≠ gc)
    (a1 : w1.ownsRow 0 2 1 (.slice (some ⟨ga, 0, none⟩) (X.length + 1) n) (X.length + 1) ((X.map fun p => Value.int .i64 p.1) ++ [.int .i64 v.1])) (g1 : (w.alloc o1).grownBy w1 (some ga))
    (a2 : w2.ownsRow 0 33 1 (.slice (some ⟨gc, 0, none⟩) (X.length + 1) n) (X.length + 1) ((X.map fun p => Value.int .u64 (p.2 : Int)) ++ [.int .u64 (v.2 : Int)])) (g2 : (w1.alloc o2).grownBy w2 (some gc)) :
    Mod w2 ga gc n (X ++ [v]) ∧ Turned (fun k => k = ga ∨ k = gc) w w2 := by
  have s1 : w.heap.size ≤ w1.heap.size := by have := g1.size; simp at this; omega
  have s2 : w1.heap.size ≤ w2.heap.size := by have := g2.size; simp at this; omega
  have la := h.off.lt
  have lc := h.cost.lt
  have e1 : w2.heap[ga]? = w1.heap[ga]? := (g2.block ga (by simp; omega) (by simp [hne])).trans (Below.heap_alloc _ _ _ (by omega))
  refine ⟨⟨?_, ?_⟩, g2.os.trans g1.os, g2.tape.trans g1.tape, g2.output.trans g1.output, by omega, fun k hk hn => ?_⟩
  · have hl : ((X ++ [v]).map fun p => Value.int .i64 p.1).length = X.length + 1 := by simp
    have : MR w1 ga 2 n ((X ++ [v]).map fun p => Value.int .i64 p.1) := by
      unfold MR
      rw [hl, List.map_append]
      exact a1
    exact this.block e1
  · have hl : ((X ++ [v]).map fun p => Value.int .u64 (p.2 : Int)).length = X.length + 1 := by simp
    unfold MR
    rw [hl, List.map_append]
    exact a2
  · have n1 : k ≠ ga := fun e => hn (.inl e)
    have n2 : k ≠ gc := fun e => hn (.inr e)
    rw [g2.block k (by simp; omega) (by simp [n2]), Below.heap_alloc _ _ _ (by omega), g1.block k (by simp; omega) (by simp [n1]), Below.heap_alloc _ _ _ hk]

theorem Mod.offOwn {w : World} {ga gc n k : Nat} {X : List (Int × Nat)} (h : Mod w ga gc n X) (hk : k = X.length) : w.ownsRow 0 2 1 (.slice (some ⟨ga, 0, none⟩) k n) k (X.map fun p => Value.int .i64 p.1) := by
  have h1 := h.off
  unfold MR at h1
  rw [List.length_map, ← hk] at h1
  exact h1
theorem Mod.costOwn {w : World} {ga gc n k : Nat} {X : List (Int × Nat)} (h : Mod w ga gc n X) (hk : k = X.length) : w.ownsRow 0 33 1 (.slice (some ⟨gc, 0, none⟩) k n) k (X.map fun p => Value.int .u64 (p.2 : Int)) := by
  have h1 := h.cost
  unfold MR at h1
  rw [List.length_map, ← hk] at h1
  exact h1

/-- one step of the shift -/
theorem shift_set (P Q : List (Int × Nat)) (p x : Int × Nat) (q : Nat) (hq : q = P.length) : ((P ++ [p]) ++ x :: Q).set (q + 1) p = P ++ p :: (p :: Q) := by
  subst hq
  rw [List.set_append_right _ _ (by simp)]
  simp

theorem snoc_of {α : Type} {l : List α} {q : Nat} (h : q + 1 = l.length) : ∃ P p, l = P ++ [p] ∧ q = P.length := by
  rcases List.eq_nil_or_concat l with e | ⟨P, p, e⟩
  · rw [e] at h; simp at h
  · refine ⟨P, p, by simpa using e, ?_⟩
    rw [e] at h
    simp at h
    omega
end Go.Proofs.Qxb6614306a
