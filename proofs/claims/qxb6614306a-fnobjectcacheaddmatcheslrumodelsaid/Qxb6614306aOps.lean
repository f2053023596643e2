/-
  []AddOp: what it holds; the bounds (24, 14); cloneAddOps (15).
-/
import Derived.Test.Qxb6614306aDwParts
namespace Go.Proofs.Qxb6614306a
open Go.RowKit Go.WideShapes
set_option linter.unusedVariables false

/-- a slice of AddOps, where its cells are plain: element k at off + 4k -/
def AOps (w : World) (b off n : Nat) (I : Nat → Int) (A : Nat → Option Addr) (L C M : Nat → Nat) (R : Nat → Bool) : Prop :=
  ∀ k, k < n → w.cell? ⟨b, off + k * 4, none⟩ = some (.int .i64 (I k)) ∧ w.cell? ⟨b, off + k * 4 + 1, none⟩ = some (.slice (A k) (L k) (C k)) ∧ w.cell? ⟨b, off + k * 4 + 2, none⟩ = some (.int .u64 (M k)) ∧ w.cell? ⟨b, off + k * 4 + 3, none⟩ = some (.bool (R k))

/-- what a test of sizes hands back: a bool; where it is true, the n lengths are small; the world as it was -/
def SaysOne (n : Nat) (L : Nat → Nat) (w : World) (e : Ending) (w' : World) : Prop := ∃ b : Bool, e = .returned (.bool b) ∧ (b = true → ∀ k, k < n → L k ≤ 1048576) ∧ w = w'

theorem bound24_long (L : Nat → Nat) (ao : Option Addr) (n c : Nat) (off : Int) (bo : Option Addr) (m d : Nat) (lim : Value) (w : World) (hn : n ≤ 9223372036854775807) (hb : 1048576 < n) : Calls Try.prog 24 #[.slice ao n c, .int .i64 off, .slice bo m d, lim] w (SaysOne n L w) := by
  go_enter Try.func24, Try.ntmps24
  go_wp2
  go_ret
  exact ⟨false, rfl, fun h => Bool.noConfusion h, rfl⟩

set_option maxHeartbeats 1000000 in
theorem bound24_none (L : Nat → Nat) (ao : Option Addr) (c : Nat) (off : Int) (bo : Option Addr) (m d : Nat) (lim : Value) (w : World) (hm : m ≤ 9223372036854775807) : Calls Try.prog 24 #[.slice ao 0 c, .int .i64 off, .slice bo m d, lim] w (SaysOne 0 L w) := by
  go_enter Try.func24, Try.ntmps24
  go_wp2
  go_loop [9, 10] (fun t i => i = .int .i64 0 ∧ t = .int .i64 0) (fun _ _ => 0)
  case atStart => exact ⟨rfl, rfl⟩
  case round =>
    obtain ⟨rfl, rfl⟩ := hrel
    go_wp2
    all_goals go_ret
    all_goals exact ⟨_, rfl, fun _ k hk => absurd hk (Nat.not_lt_zero _), rfl⟩

set_option maxHeartbeats 1000000 in
theorem bound24_some (b o n c : Nat) (off : Int) (bo : Option Addr) (m d : Nat) (lim : Value) (I : Nat → Int) (A : Nat → Option Addr) (L C M : Nat → Nat) (R : Nat → Bool) (w : World) (h : AOps w b o n I A L C M R) (hL : ∀ k, k < n → L k ≤ 9223372036854775807) (hn : n ≤ 1048576) (hm : m ≤ 9223372036854775807) :
    Calls Try.prog 24 #[.slice (some ⟨b, o, none⟩) n c, .int .i64 off, .slice bo m d, lim] w (SaysOne n L w) := by
  go_enter Try.func24, Try.ntmps24
  go_wp2
  go_loop [9, 10] (fun t i => ∃ k s : Nat, k ≤ n ∧ i = .int .i64 k ∧ s ≤ 1048576 ∧ t = .int .i64 s ∧ Hid (∀ j, j < k → L j ≤ 1048576)) (fun _ i => n - (intOf i).toNat)
  case atStart => exact ⟨0, n, Nat.zero_le _, rfl, hn, rfl, fun j hj => absurd hj (Nat.not_lt_zero _)⟩
  case round =>
    obtain ⟨k, s, hk, rfl, hs, rfl, HS⟩ := hrel
    by_cases hlt : k < n
    · obtain ⟨_, c2, _, _⟩ := h k hlt
      have hLk := hL k hlt
      clear h hL
      obtain ⟨l, hl⟩ : ∃ l, Hid (l = L k) := ⟨_, rfl⟩
      rw [← hl.out] at c2 hLk
      by_cases h1 : l ≤ 1048576
      · by_cases h2 : s + l ≤ 1048576
        · go_wp2
          go_round
          case rel => exact ⟨k + 1, s + l, by omega, by go_num, h2, by go_num, fun j hj => by
            by_cases e : j = k
            · rw [e, ← hl.out]; exact h1
            · exact HS.out j (by omega)⟩
          case measure => simp [intOf]; omega
        · go_wp2
          go_ret
          exact ⟨false, rfl, fun h => Bool.noConfusion h, rfl⟩
      · go_wp2
        go_ret
        exact ⟨false, rfl, fun h => Bool.noConfusion h, rfl⟩
    · clear h hL
      go_wp2
      all_goals go_ret
      all_goals exact ⟨_, rfl, fun _ j hj => HS.out j (by omega), rfl⟩

theorem Try.infoc40 : (Try.prog.info? 40).map (fun i => (i.zero.map Value.cells, i.size, i.bytes)) = some (some #[.int .i64 0, .slice none 0 0, .int .u64 0, .bool false], 4, 48) := by kernel_rfl

/-- the clone, its first k ops laid -/
structure ACl (B n k : Nat) (I : Nat → Int) (L M : Nat → Nat) (R : Nat → Bool) (f : Nat → Value) (A : Nat → Option Addr) (C : Nat → Nat) (w : World) : Prop where
  row : w.rowIs B 40 (n * 4) f
  x0 : ∀ j, j < k → f (j * 4) = .int .i64 (I j)
  x1 : ∀ j, j < k → f (j * 4 + 1) = .slice (A j) (L j) (C j)
  x2 : ∀ j, j < k → f (j * 4 + 2) = .int .u64 (M j)
  x3 : ∀ j, j < k → f (j * 4 + 3) = .bool (R j)

theorem ACl.step {B n k : Nat} {I : Nat → Int} {L M : Nat → Nat} {R : Nat → Bool} {f : Nat → Value} {A : Nat → Option Addr} {C : Nat → Nat} {w w1 : World} {ao : Option Addr} {c : Nat}
    (h : ACl B n k I L M R f A C w) (hw : Below w.heap.size (w.setCell ⟨B, k * 4, none⟩ (.int .i64 (I k))) w1) :
    ACl B n (k + 1) I L M R (setFn (setFn (setFn (setFn f (k * 4) (.int .i64 (I k))) (k * 4 + 1) (.slice ao (L k) c)) (k * 4 + 2) (.int .u64 (M k))) (k * 4 + 3) (.bool (R k))) (setFn A k ao) (setFn C k c)
      (((w1.setCell ⟨B, k * 4 + 1, none⟩ (.slice ao (L k) c)).setCell ⟨B, k * 4 + 2, none⟩ (.int .u64 (M k))).setCell ⟨B, k * 4 + 3, none⟩ (.bool (R k))) := by
  have hB : B < w.heap.size := h.row.lt
  refine ⟨?_, fun j hj => ?_, fun j hj => ?_, fun j hj => ?_, fun j hj => ?_⟩
  · refine ((((h.row.set (k * 4) (.int .i64 (I k))).of_block (hw.block B hB)).set (k * 4 + 1) _).set (k * 4 + 2) _).set (k * 4 + 3) _ |>.congr fun j _ => ?_
    simp [setFn]
  · by_cases e : j = k
    · subst e; simp [setFn]
    · have := h.x0 j (by omega)
      simp only [setFn]
      rw [if_neg (by omega), if_neg (by omega), if_neg (by omega), if_neg (by omega), this]
  · by_cases e : j = k
    · subst e; simp [setFn]
    · have := h.x1 j (by omega)
      simp only [setFn]
      rw [if_neg (by omega), if_neg (by omega), if_neg (by omega), if_neg (by omega), if_neg e, if_neg e, this]
  · by_cases e : j = k
    · subst e; simp [setFn]
    · have := h.x2 j (by omega)
      simp only [setFn]
      rw [if_neg (by omega), if_neg (by omega), if_neg (by omega), if_neg (by omega), this]
  · by_cases e : j = k
    · subst e; simp [setFn]
    · have := h.x3 j (by omega)
      simp only [setFn]
      rw [if_neg (by omega), if_neg (by omega), if_neg (by omega), if_neg (by omega), this]

theorem cloneA_nil (w : World) : Calls Try.prog 15 #[.slice none 0 0] w fun e w' => e = .returned (.slice none 0 0) ∧ w' = w := by
  have hq := fun w a l c => Lib.run_eql_slice_nil (P := Try.prog) w 37 40 a l c 0 0 Try.underlying37
  go_enter Try.func15, Try.ntmps15
  go_wp2
  go_ret
  exact ⟨rfl, rfl⟩

set_option maxHeartbeats 1000000 in
theorem cloneA_some {S : Nat → Prop} (x : Addr) (n c : Nat) (I : Nat → Int) (A : Nat → Option Addr) (L C M : Nat → Nat) (R : Nat → Bool) (z : Nat → Option (List Int)) (w : World) (h : 0 < n → ∃ b o, x = ⟨b, o, none⟩ ∧ b < w.heap.size ∧ AOps w b o n I A L C M R) (hn : n ≤ 1048576)
    (hS : ∀ b, S b → b < w.heap.size) (hz : ∀ k, k < n → L k ≤ 1048576 ∧ BytesAt S w (A k) (L k) (C k) (z k)) :
    Calls Try.prog 15 #[.slice (some x) n c] w fun e w' => e = .returned (.slice (some ⟨w.heap.size, 0, none⟩) n n) ∧ (∃ f A' C', ACl w.heap.size n n I L M R f A' C' w') ∧ Below w.heap.size w w' := by
  have hq := fun w a l c => Lib.run_eql_slice_nil (P := Try.prog) w 37 40 a l c 0 0 Try.underlying37
  have hmk := run_make_wide (P := Try.prog) 37 40 _ 4 48 Try.underlying37 Try.infoc40 n (by omega) (by omega)
  have HST : Hid (ACl w.heap.size n 0 I L M R (fun i => (#[.int .i64 0, .slice none 0 0, .int .u64 0, .bool false] : Array Value)[i % 4]!) (fun _ => none) (fun _ => 0) (w.alloc (.cells (madeCells #[.int .i64 0, .slice none 0 0, .int .u64 0, .bool false] (n * 4)) 40))) :=
    ⟨rowIs_wide _ _ _ _, fun j hj => absurd hj (Nat.not_lt_zero _), fun j hj => absurd hj (Nat.not_lt_zero _), fun j hj => absurd hj (Nat.not_lt_zero _), fun j hj => absurd hj (Nat.not_lt_zero _)⟩
  go_enter Try.func15, Try.ntmps15
  go_wp2
  go_loopw [4] (fun i wr => ∃ (k : Nat) (f : Nat → Value) (A' : Nat → Option Addr) (C' : Nat → Nat), k ≤ n ∧ i = .int .i64 k ∧ Hid (ACl w.heap.size n k I L M R f A' C' wr) ∧ Hid (Below w.heap.size w wr)) (fun i _ => n - (intOf i).toNat)
  case atStart => exact ⟨0, _, _, _, Nat.zero_le _, rfl, HST, (Below.refl _ _).alloc (Nat.le_refl _) _⟩
  case round =>
    obtain ⟨k, f, A', C', hk, rfl, HCL, HB⟩ := hrel
    by_cases hlt : k < n
    · obtain ⟨b, off, rfl, hbB, hc⟩ := h (by omega)
      obtain ⟨c0, c1, c2, c3⟩ := hc k hlt
      obtain ⟨hLk, hzk⟩ := hz k hlt
      have g0 : wr.cell? ⟨b, off + k * 4, none⟩ = some (.int .i64 (I k)) := (HB.out.cell (p := ⟨b, off + k * 4, none⟩) hbB).trans c0
      have g1 : wr.cell? ⟨b, off + k * 4 + 1, none⟩ = some (.slice (A k) (L k) (C k)) := (HB.out.cell (p := ⟨b, off + k * 4 + 1, none⟩) hbB).trans c1
      have r0 := HCL.out.row.cell (i := k * 4) (by omega)
      have f0 := HCL.out.row.frozen (k * 4)
      have hw1 : Below w.heap.size w (wr.setCell ⟨w.heap.size, k * 4, none⟩ (.int .i64 (I k))) := HB.out.setCell (Nat.le_refl _) _
      have hby : BytesAt S (wr.setCell ⟨w.heap.size, k * 4, none⟩ (.int .i64 (I k))) (A k) (L k) (C k) (z k) := hzk.keep (fun _ h => h) (fun b hb => hw1.block b (hS b hb))
      have HW1 := hide hw1
      have CL := hide (clone_any (S := S) (A k) (L k) (C k) (z k) _ hby hLk (fun b hb => by have := hS b hb; have := HB.out.size; simp [World.setCell]; omega))
      have H2 := hide c2
      have H3 := hide c3
      have HS2 := hide hS
      clear hz hc h hzk hby hw1 c0 c1 c2 c3 hS
      go_wp2_with fail
      refine CL.out.mono ?_
      rintro e w1 ⟨ao', c', rfl, _, hbel1⟩
      have hs1 : (wr.setCell ⟨w.heap.size, k * 4, none⟩ (.int .i64 (I k))).heap.size = wr.heap.size := by simp [World.setCell]
      rw [hs1] at hbel1
      have STEP := hide (HCL.out.step (ao := ao') (c := c') (w1 := w1) hbel1)
      have W1 : Hid (Below w.heap.size w w1) := HW1.out.trans (hbel1.mono (by have := HB.out.size; omega))
      have hrow1 := ((HCL.out.row.set (k * 4) (.int .i64 (I k))).of_block (hbel1.block _ HCL.out.row.lt))
      have q1 := hrow1.cell (i := k * 4 + 1) (by omega)
      have p1 := hrow1.frozen (k * 4 + 1)
      have hrow2 := hrow1.set (k * 4 + 1) (.slice ao' (L k) c')
      have q2 := hrow2.cell (i := k * 4 + 2) (by omega)
      have p2 := hrow2.frozen (k * 4 + 2)
      have hrow3 := hrow2.set (k * 4 + 2) (.int .u64 (M k))
      have q3 := hrow3.cell (i := k * 4 + 3) (by omega)
      have p3 := hrow3.frozen (k * 4 + 3)
      have n1 : b ≠ w.heap.size := by omega
      have s2 : (w1.setCell ⟨w.heap.size, k * 4 + 1, none⟩ (.slice ao' (L k) c')).cell? ⟨b, off + k * 4 + 2, none⟩ = some (.int .u64 (M k)) := ((W1.out.setCell (Nat.le_refl _) _).cell (p := ⟨b, off + k * 4 + 2, none⟩) hbB).trans H2.out
      have s3 : ((w1.setCell ⟨w.heap.size, k * 4 + 1, none⟩ (.slice ao' (L k) c')).setCell ⟨w.heap.size, k * 4 + 2, none⟩ (.int .u64 (M k))).cell? ⟨b, off + k * 4 + 3, none⟩ = some (.bool (R k)) := (((W1.out.setCell (Nat.le_refl _) _).setCell (Nat.le_refl _) _).cell (p := ⟨b, off + k * 4 + 3, none⟩) hbB).trans H3.out
      have FB : Hid (Below w.heap.size w (((w1.setCell ⟨w.heap.size, k * 4 + 1, none⟩ (.slice ao' (L k) c')).setCell ⟨w.heap.size, k * 4 + 2, none⟩ (.int .u64 (M k))).setCell ⟨w.heap.size, k * 4 + 3, none⟩ (.bool (R k)))) := ((W1.out.setCell (Nat.le_refl _) _).setCell (Nat.le_refl _) _).setCell (Nat.le_refl _) _
      clear hrow1 hrow2 hrow3 hbel1 hs1 g0 g1 r0 f0 HCL HB
      go_wp2
      go_roundw
      case rel => exact ⟨k + 1, _, _, _, by omega, by go_num, STEP, FB⟩
      case measure => simp [intOf]; omega
    · have : k = n := by omega
      subst this
      go_wp2
      go_ret
      exact ⟨rfl, ⟨f, A', C', HCL.out⟩, HB.out⟩
end Go.Proofs.Qxb6614306a
