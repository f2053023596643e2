/-
  container/list at this dump, raw: insert (50), remove (38), Init (49), lazyInit (39), insertValue (40), Back (33), Front (27), Next (28), Remove (32): what each does to the cells, at whatever addresses.
-/
import Derived.Test.Qxb6614306aMem
import Derived.Deep.RegionHeld3
import Derived.LaidEqlPtr
import Derived.Lib.Builder
namespace Go.Proofs.Qxb6614306a
open Go.RowKit Go.WideShapes
set_option linter.unusedVariables false

/-- block b is a row of cells, none frozen; its cell i holds v -/
def Has (w : World) (b i : Nat) (v : Value) : Prop := ∃ c t, w.heap[b]? = some (.cells c t (0, 0)) ∧ c[i]? = some v

theorem Has.cell {w : World} {b i : Nat} {v : Value} (h : Has w b i v) : w.cell? ⟨b, i, none⟩ = some v := by
  obtain ⟨c, t, hb, hi⟩ := h
  simp [World.cell?, hb, hi]
theorem Has.frozen {w : World} {b i : Nat} {v : Value} (h : Has w b i v) (j : Nat) : w.frozen? ⟨b, j, none⟩ = false := by
  obtain ⟨c, t, hb, hi⟩ := h
  simp [World.frozen?, hb]
theorem Has.lt {w : World} {b i : Nat} {v : Value} (h : Has w b i v) : b < w.heap.size := by
  obtain ⟨c, t, hb, hi⟩ := h
  exact (Array.getElem?_eq_some_iff.1 hb).1
theorem Has.of_block {w w' : World} {b i : Nat} {v : Value} (h : Has w b i v) (e : w'.heap[b]? = w.heap[b]?) : Has w' b i v := by
  obtain ⟨c, t, hb, hi⟩ := h
  exact ⟨c, t, e.trans hb, hi⟩
theorem Has.drew {w : World} {b i : Nat} {v : Value} (h : Has w b i v) : Has w.drew b i v := h
theorem Has.drewN {w : World} {b i : Nat} {v : Value} (h : Has w b i v) (n : Nat) : Has (w.drewN n) b i v := h
theorem Has.alloc {w : World} {b i : Nat} {v : Value} (h : Has w b i v) (o : Obj) : Has (w.alloc o) b i v := h.of_block (Below.heap_alloc _ _ _ h.lt)
theorem Has.row {w : World} {b n : Nat} {t : TypeId} {f : Nat → Value} (h : w.rowIs b t n f) {i : Nat} (hi : i < n) : Has w b i (f i) := by
  obtain ⟨c, hb, hs, hc⟩ := h
  exact ⟨c, t, hb, hc i hi⟩
theorem heap_setCell_same {w : World} {b i : Nat} {c : Array Value} {t : TypeId} {z : Nat × Nat} (h : w.heap[b]? = some (.cells c t z)) (x : Value) : (w.setCell ⟨b, i, none⟩ x).heap[b]? = some (.cells (c.setIfInBounds i x) t z) := by
  simp [World.setCell, Array.getElem?_modify, h]
theorem Has.same {w : World} {b i : Nat} {v : Value} (h : Has w b i v) (x : Value) : Has (w.setCell ⟨b, i, none⟩ x) b i x := by
  obtain ⟨c, t, hb, hi⟩ := h
  have hs := (Array.getElem?_eq_some_iff.1 hi).1
  exact ⟨_, t, heap_setCell_same hb x, by simp [hs]⟩
theorem Has.other {w : World} {b i b' i' : Nat} {v : Value} (h : Has w b i v) (hne : b' ≠ b ∨ i' ≠ i) (x : Value) : Has (w.setCell ⟨b', i', none⟩ x) b i v := by
  by_cases e : b' = b
  · subst e
    obtain ⟨c, t, hb, hi⟩ := h
    have hi' : i' ≠ i := by rcases hne with h1 | h1; exact absurd rfl h1; exact h1
    exact ⟨_, t, heap_setCell_same hb x, by rw [Array.getElem?_setIfInBounds, if_neg hi']; exact hi⟩
  · exact h.of_block (Below.heap_setCell _ _ _ _ (Ne.symm e))
theorem Has.setBlock {w : World} {b i b' : Nat} {v : Value} (h : Has w b i v) (hne : b ≠ b') (o : Obj) : Has (ChangeMaps.setBlock w b' o) b i v := h.of_block (heap_setBlock_other hne)
theorem Has.uniq {w : World} {b i : Nat} {v u : Value} (h : Has w b i v) (k : Has w b i u) : v = u := by
  have := h.cell.symm.trans k.cell
  simpa using this

theorem Try.infos51 : (Try.prog.info? 85).map (·.size) = some 4 := by kernel_rfl
theorem Try.infos83 : (Try.prog.info? 87).map (·.size) = some 5 := by kernel_rfl
theorem eql_list (a : Addr) (w : World) : (binOp .eql 83 (.pointer (some a)) (.pointer (some a))).run Try.prog w = .ok (.bool true) w := by
  have h := Try.infos83
  cases e : Try.prog.info? 87 with
  | none => rw [e] at h; simp at h
  | some j => exact run_eql_ptr_same w a Try.underlying83 e
theorem neq_elem_same (a : Addr) (w : World) : (binOp .neq 51 (.pointer (some a)) (.pointer (some a))).run Try.prog w = .ok (.bool false) w := by
  have h := Try.infos51
  cases e : Try.prog.info? 85 with
  | none => rw [e] at h; simp at h
  | some j => exact Lib.run_neq_ptr_same w a Try.underlying51 e
theorem neq_elem_other {w : World} {b i b' i' : Nat} {v v' : Value} (h : Has w b i v) (h' : Has w b' i' v') (o o' : Nat) (hne : b ≠ b') : (binOp .neq 51 (.pointer (some ⟨b, o, none⟩)) (.pointer (some ⟨b', o', none⟩))).run Try.prog w = .ok (.bool true) w := by
  have hs := Try.infos51
  obtain ⟨c, t, hb, hi⟩ := h
  obtain ⟨c', t', hb', hi'⟩ := h'
  cases e : Try.prog.info? 85 with
  | none => rw [e] at hs; simp at hs
  | some j =>
    rw [e] at hs
    have hsz : j.size ≠ 0 := by simp at hs; omega
    have hd : (⟨b, o, none⟩ : Addr) ≠ ⟨b', o', none⟩ := fun h => hne (congrArg Addr.block h)
    have h : ∀ d : Nat, (Op.equalIn (d + 1) 51 (.pointer (some ⟨b, o, none⟩)) (.pointer (some ⟨b', o', none⟩))).run Try.prog w = .ok false w := fun d => by
      simp [Op.equalIn, run_underlying Try.underlying51, sizeOf, typeInfo, e, hsz, run_sameAddr_other w hd hb hb']
    simp only [binOp]
    simp [Op.equal, Op.maxDepth, h 9999]

set_option maxHeartbeats 1000000 in
/-- insert e behind 'at' ⟨ab, ao⟩, whose next is ⟨nb, no⟩ -/
theorem insert_walk (lb lo eb ab ao nb no : Nat) (n : Nat) (c0 c1 c2 pv : Value) (w : World) (he1 : eb ≠ ab) (he2 : eb ≠ nb) (he3 : eb ≠ lb) (hn : n ≤ 1048576)
    (e0 : w.cell? ⟨eb, 0, none⟩ = some c0) (e1 : w.cell? ⟨eb, 1, none⟩ = some c1) (e2 : w.cell? ⟨eb, 2, none⟩ = some c2) (f0 : w.frozen? ⟨eb, 0, none⟩ = false) (f1 : w.frozen? ⟨eb, 1, none⟩ = false) (f2 : w.frozen? ⟨eb, 2, none⟩ = false)
    (ha : w.cell? ⟨ab, ao, none⟩ = some (.pointer (some ⟨nb, no, none⟩))) (hfa : w.frozen? ⟨ab, ao, none⟩ = false) (hp : w.cell? ⟨nb, no + 1, none⟩ = some pv) (hfp : w.frozen? ⟨nb, no + 1, none⟩ = false)
    (hl : w.cell? ⟨lb, lo + 4, none⟩ = some (.int .i64 n)) (hfl : w.frozen? ⟨lb, lo + 4, none⟩ = false)
    (hd1 : (⟨ab, ao, none⟩ : Addr) ≠ ⟨nb, no + 1, none⟩) (hd2 : (⟨ab, ao, none⟩ : Addr) ≠ ⟨lb, lo + 4, none⟩) (hd3 : (⟨nb, no + 1, none⟩ : Addr) ≠ ⟨lb, lo + 4, none⟩) :
    Calls Try.prog 50 #[.pointer (some ⟨lb, lo, none⟩), .pointer (some ⟨eb, 0, none⟩), .pointer (some ⟨ab, ao, none⟩)] w fun e w' => e = .returned (.pointer (some ⟨eb, 0, none⟩)) ∧
      w' = (((((w.setCell ⟨eb, 1, none⟩ (.pointer (some ⟨ab, ao, none⟩))).setCell ⟨eb, 0, none⟩ (.pointer (some ⟨nb, no, none⟩))).setCell ⟨ab, ao, none⟩ (.pointer (some ⟨eb, 0, none⟩))).setCell ⟨nb, no + 1, none⟩ (.pointer (some ⟨eb, 0, none⟩))).setCell ⟨eb, 2, none⟩ (.pointer (some ⟨lb, lo, none⟩))).setCell ⟨lb, lo + 4, none⟩ (.int .i64 (n + 1)) := by
  go_enter Try.func50, Try.ntmps50
  go_wp2
  go_ret
  exact ⟨rfl, rfl⟩
set_option maxHeartbeats 1000000 in
theorem remove_walk (lb lo eb ab ao nb no : Nat) (n : Nat) (c2 : Value) (w : World) (he1 : eb ≠ ab) (he2 : eb ≠ nb) (he3 : eb ≠ lb) (hn : n ≤ 1048576)
    (e0 : w.cell? ⟨eb, 0, none⟩ = some (.pointer (some ⟨nb, no, none⟩))) (e1 : w.cell? ⟨eb, 1, none⟩ = some (.pointer (some ⟨ab, ao, none⟩))) (e2 : w.cell? ⟨eb, 2, none⟩ = some c2) (f0 : w.frozen? ⟨eb, 0, none⟩ = false) (f1 : w.frozen? ⟨eb, 1, none⟩ = false) (f2 : w.frozen? ⟨eb, 2, none⟩ = false)
    (av pv : Value) (ha : w.cell? ⟨ab, ao, none⟩ = some av) (hfa : w.frozen? ⟨ab, ao, none⟩ = false) (hp : w.cell? ⟨nb, no + 1, none⟩ = some pv) (hfp : w.frozen? ⟨nb, no + 1, none⟩ = false)
    (hl : w.cell? ⟨lb, lo + 4, none⟩ = some (.int .i64 (n + 1))) (hfl : w.frozen? ⟨lb, lo + 4, none⟩ = false)
    (hd1 : (⟨ab, ao, none⟩ : Addr) ≠ ⟨nb, no + 1, none⟩) (hd2 : (⟨ab, ao, none⟩ : Addr) ≠ ⟨lb, lo + 4, none⟩) (hd3 : (⟨nb, no + 1, none⟩ : Addr) ≠ ⟨lb, lo + 4, none⟩) :
    Calls Try.prog 38 #[.pointer (some ⟨lb, lo, none⟩), .pointer (some ⟨eb, 0, none⟩)] w fun e w' => e = .returned (.tuple #[]) ∧
      w' = ((((((w.setCell ⟨ab, ao, none⟩ (.pointer (some ⟨nb, no, none⟩))).setCell ⟨nb, no + 1, none⟩ (.pointer (some ⟨ab, ao, none⟩))).setCell ⟨eb, 0, none⟩ (.pointer none)).setCell ⟨eb, 1, none⟩ (.pointer none)).setCell ⟨eb, 2, none⟩ (.pointer none)).setCell ⟨lb, lo + 4, none⟩ (.int .i64 n)).drew.drew := by
  go_enter Try.func38, Try.ntmps38
  go_wp2
  go_region
  go_wp2
  go_region
  go_wp2
  go_end0
  exact ⟨rfl, rfl⟩

set_option maxHeartbeats 1000000 in
theorem lazy_init (lb lo : Nat) (c0 c1 c4 : Value) (w : World) (h0 : w.cell? ⟨lb, lo, none⟩ = some (.pointer none)) (h1 : w.cell? ⟨lb, lo + 1, none⟩ = some c1) (h4 : w.cell? ⟨lb, lo + 4, none⟩ = some c4)
    (f0 : w.frozen? ⟨lb, lo, none⟩ = false) (f1 : w.frozen? ⟨lb, lo + 1, none⟩ = false) (f4 : w.frozen? ⟨lb, lo + 4, none⟩ = false) :
    Calls Try.prog 39 #[.pointer (some ⟨lb, lo, none⟩)] w fun e w' => e = .returned (.tuple #[]) ∧
      w' = ((w.setCell ⟨lb, lo, none⟩ (.pointer (some ⟨lb, lo, none⟩))).setCell ⟨lb, lo + 1, none⟩ (.pointer (some ⟨lb, lo, none⟩))).setCell ⟨lb, lo + 4, none⟩ (.int .i64 0) := by
  have hi : ∀ w : World, w.cell? ⟨lb, lo, none⟩ = some (.pointer none) → w.cell? ⟨lb, lo + 1, none⟩ = some c1 → w.cell? ⟨lb, lo + 4, none⟩ = some c4 → w.frozen? ⟨lb, lo, none⟩ = false → w.frozen? ⟨lb, lo + 1, none⟩ = false → w.frozen? ⟨lb, lo + 4, none⟩ = false → 
      Calls Try.prog 49 #[.pointer (some ⟨lb, lo, none⟩)] w fun e w' => e = .returned (.pointer (some ⟨lb, lo, none⟩)) ∧ w' = ((w.setCell ⟨lb, lo, none⟩ (.pointer (some ⟨lb, lo, none⟩))).setCell ⟨lb, lo + 1, none⟩ (.pointer (some ⟨lb, lo, none⟩))).setCell ⟨lb, lo + 4, none⟩ (.int .i64 0) := by
    clear h0 h1 h4 f0 f1 f4 w
    intro w h0 h1 h4 f0 f1 f4
    go_enter Try.func49, Try.ntmps49
    go_wp2
    go_ret
    exact ⟨rfl, rfl⟩
  go_enter Try.func39, Try.ntmps39
  go_wp2_with (go_at_call 49; refine (hi _ h0 h1 h4 f0 f1 f4).mono ?_; rintro e w' ⟨rfl, rfl⟩)
  go_end0
  exact ⟨rfl, rfl⟩

theorem lazy_done (lb lo : Nat) (a : Addr) (w : World) (h0 : w.cell? ⟨lb, lo, none⟩ = some (.pointer (some a))) :
    Calls Try.prog 39 #[.pointer (some ⟨lb, lo, none⟩)] w fun e w' => e = .returned (.tuple #[]) ∧ w' = w := by
  go_enter Try.func39, Try.ntmps39
  go_wp2
  go_end0
  exact ⟨rfl, rfl⟩

/-- Back and Front of a list that holds none; that holds some -/
theorem back_some (lb lo : Nat) (n : Nat) (v : Value) (w : World) (hn : n ≤ 1048576) (hl : w.cell? ⟨lb, lo + 4, none⟩ = some (.int .i64 (n + 1))) (h1 : w.cell? ⟨lb, lo + 1, none⟩ = some v) :
    Calls Try.prog 33 #[.pointer (some ⟨lb, lo, none⟩)] w fun e w' => e = .returned v ∧ w' = w := by
  go_enter Try.func33, Try.ntmps33
  go_wp2
  go_ret
  exact ⟨rfl, rfl⟩

theorem front_some (lb lo : Nat) (n : Nat) (v : Value) (w : World) (hn : n ≤ 1048576) (hl : w.cell? ⟨lb, lo + 4, none⟩ = some (.int .i64 (n + 1))) (h1 : w.cell? ⟨lb, lo, none⟩ = some v) :
    Calls Try.prog 27 #[.pointer (some ⟨lb, lo, none⟩)] w fun e w' => e = .returned v ∧ w' = w := by
  go_enter Try.func27, Try.ntmps27
  go_wp2
  go_ret
  exact ⟨rfl, rfl⟩

theorem front_none (lb lo : Nat) (w : World) (hl : w.cell? ⟨lb, lo + 4, none⟩ = some (.int .i64 0)) :
    Calls Try.prog 27 #[.pointer (some ⟨lb, lo, none⟩)] w fun e w' => e = .returned (.pointer none) ∧ w' = w := by
  go_enter Try.func27, Try.ntmps27
  go_wp2
  go_ret
  exact ⟨rfl, rfl⟩


set_option maxRecDepth 100000 in
set_option maxHeartbeats 1600000 in
theorem next_end (lb lo eb : Nat) (w : World) (h0 : w.cell? ⟨eb, 0, none⟩ = some (.pointer (some ⟨lb, lo, none⟩))) (h2 : w.cell? ⟨eb, 2, none⟩ = some (.pointer (some ⟨lb, lo, none⟩))) :
    Calls Try.prog 28 #[.pointer (some ⟨eb, 0, none⟩)] w fun e w' => e = .returned (.pointer none) ∧ w' = w := by
  have hq := neq_elem_same ⟨lb, lo, none⟩ w
  go_enter Try.func28, Try.ntmps28
  go_wp2
  go_ret
  exact ⟨rfl, rfl⟩

set_option maxRecDepth 100000 in
set_option maxHeartbeats 1600000 in
theorem next_on (lb lo eb nb : Nat) (w : World) (hq : (binOp .neq 51 (.pointer (some ⟨nb, 0, none⟩)) (.pointer (some ⟨lb, lo, none⟩))).run Try.prog w = .ok (.bool true) w) (h0 : w.cell? ⟨eb, 0, none⟩ = some (.pointer (some ⟨nb, 0, none⟩))) (h2 : w.cell? ⟨eb, 2, none⟩ = some (.pointer (some ⟨lb, lo, none⟩))) :
    Calls Try.prog 28 #[.pointer (some ⟨eb, 0, none⟩)] w fun e w' => e = .returned (.pointer (some ⟨nb, 0, none⟩)) ∧ w' = w := by
  go_enter Try.func28, Try.ntmps28
  go_wp2
  go_ret
  exact ⟨rfl, rfl⟩
end Go.Proofs.Qxb6614306a
