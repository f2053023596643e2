/-
  THE PARTS OF THE LAW ON deltaWalk.set: function 6 (the bound on sizes), 7 (cloneSetOps), 8, 10, 11, 13, 25.
-/
import Derived.Test.Qxb6614306aBytes
namespace Go.Proofs.Qxb6614306a
open Go.RowKit Go.WideShapes
set_option linter.unusedVariables false

/-- the first k lengths, summed -/
def sumTo (L : Nat → Nat) : Nat → Nat
  | 0 => 0
  | k + 1 => sumTo L k + L k

/-- A SLICE OF SetOps: element k is the number I k and a slice of bytes. -/
def OpsAt (S : Nat → Prop) (w : World) (ao : Option Addr) (n : Nat) (I : Nat → Int) (A : Nat → Option Addr) (L C : Nat → Nat) : Prop :=
  ∀ k, k < n → ∃ x, ao = some x ∧ S x.block ∧ w.cell? (x.add (k * 2)) = some (.int .i64 (I k)) ∧ w.cell? (x.add (k * 2 + 1)) = some (.slice (A k) (L k) (C k))

theorem OpsAt.plain {S : Nat → Prop} {w : World} {ao : Option Addr} {n : Nat} {I : Nat → Int} {A : Nat → Option Addr} {L C : Nat → Nat} (h : OpsAt S w ao n I A L C) (h0 : 0 < n) :
    ∃ b off, ao = some ⟨b, off, none⟩ ∧ S b ∧ ∀ k, k < n → w.cell? ⟨b, off + k * 2, none⟩ = some (.int .i64 (I k)) ∧ w.cell? ⟨b, off + k * 2 + 1, none⟩ = some (.slice (A k) (L k) (C k)) := by
  obtain ⟨⟨b, off, s⟩, rfl, hS, g, _⟩ := h 0 h0
  have e : s = none := by simpa [Addr.add] using World.cell?_spot g
  subst e
  refine ⟨b, off, rfl, hS, fun k hk => ?_⟩
  obtain ⟨x, hx, _, g1, g2⟩ := h k hk
  simp only [Option.some.injEq] at hx
  subst hx
  rw [add_plain] at g1 g2
  exact ⟨g1, g2⟩

/-- the sizes fit: n elements, s bytes in all -/
def Fits (n s : Nat) : Prop := n ≤ 1048576 ∧ s ≤ 1048576

/-- what a test of sizes hands back: a bool; where it is true, q holds; the world as it was -/
def SaysSo (q : Prop) (w : World) (e : Ending) (w' : World) : Prop := ∃ b : Bool, e = .returned (.bool b) ∧ (b = true → q) ∧ w = w'

set_option maxHeartbeats 400000 in
theorem bound_any {S : Nat → Prop} (m : Int) (ao : Option Addr) (n c : Nat) (I : Nat → Int) (A : Nat → Option Addr) (L C : Nat → Nat) (w : World) (h : OpsAt S w ao n I A L C) (hn : n ≤ maxLen) (hL : ∀ k, k < n → L k ≤ maxLen) :
    Calls Try.prog 6 #[.int .i64 m, .slice ao n c] w (SaysSo (Fits n (sumTo L n)) w) := by
  unfold maxLen at hn hL
  by_cases hbig : n ≤ 1048576
  · by_cases h0 : n = 0
    · subst h0
      clear h
      go_enter Try.func6, Try.ntmps6
      go_wp2
      go_loop [5, 6] (fun t i => i = .int .i64 0) (fun _ _ => 0)
      case atStart => rfl
      case round =>
        subst hrel
        go_wp2
        go_ret
        exact ⟨true, rfl, fun _ => ⟨by omega, by simp [sumTo]⟩, rfl⟩
    · obtain ⟨b, off, rfl, _, hc⟩ := h.plain (by omega)
      clear h
      go_enter Try.func6, Try.ntmps6
      go_wp2
      go_loop [5, 6] (fun t i => ∃ k : Nat, k ≤ n ∧ i = .int .i64 k ∧ n + sumTo L k ≤ 1048576 ∧ t = .int .i64 (n + sumTo L k : Nat)) (fun _ i => n - (intOf i).toNat)
      case atStart => exact ⟨0, Nat.zero_le _, rfl, by simp [sumTo]; omega, by simp [sumTo]⟩
      case round =>
        obtain ⟨k, hk, rfl, hs, rfl⟩ := hrel
        by_cases hlt : k < n
        · obtain ⟨c1, c2⟩ := hc k hlt
          have hLk := hL k hlt
          clear hc
          by_cases h1 : L k ≤ 1048576
          · by_cases h2 : n + sumTo L k + L k ≤ 1048576
            · go_wp2
              go_round
              case rel => exact ⟨k + 1, by omega, by go_num, by simp only [sumTo]; omega, by simp only [sumTo]; go_num⟩
              case measure => simp [intOf]; omega
            · go_wp2
              go_ret
              exact ⟨false, rfl, by simp, rfl⟩
          · go_wp2
            go_ret
            exact ⟨false, rfl, by simp, rfl⟩
        · have : k = n := by omega
          subst this
          go_wp2
          go_ret
          exact ⟨true, rfl, fun _ => ⟨by omega, by omega⟩, rfl⟩
  · clear h
    go_enter Try.func6, Try.ntmps6
    go_wp2
    go_ret
    exact ⟨false, rfl, by simp, rfl⟩

theorem Try.infoc26 : (Try.prog.info? 26).map (fun i => (i.zero.map Value.cells, i.size, i.bytes)) = some (some #[.int .i64 0, .slice none 0 0], 2, 32) := by kernel_rfl

/-- WHAT THE CLONE OF THE FIRST k OPS IS: block B holds, element by element, the number and a slice over new bytes. -/
structure Cloned (B n k : Nat) (I : Nat → Int) (L : Nat → Nat) (z : Nat → Option (List Int)) (f : Nat → Value) (A : Nat → Option Addr) (C : Nat → Nat) (w : World) : Prop where
  row : w.rowIs B 26 (n * 2) f
  int : ∀ j, j < k → f (j * 2) = .int .i64 (I j)
  sl : ∀ j, j < k → f (j * 2 + 1) = .slice (A j) (L j) (C j)
  bytes : ∀ j, j < k → BytesAt (fun b => B < b ∧ b < w.heap.size) w (A j) (L j) (C j) (z j)

def setFn {α : Type} (f : Nat → α) (k : Nat) (v : α) : Nat → α := fun j => if j = k then v else f j

theorem Cloned.step {B n k : Nat} {I : Nat → Int} {L : Nat → Nat} {z : Nat → Option (List Int)} {f : Nat → Value} {A : Nat → Option Addr} {C : Nat → Nat} {w w1 : World} {ao : Option Addr} {c : Nat}
    (h : Cloned B n k I L z f A C w) (hk : k < n) (hb : BytesAt (fun b => w.heap.size ≤ b ∧ b < w1.heap.size) w1 ao (L k) c (z k)) (hw : Below w.heap.size (w.setCell ⟨B, k * 2, none⟩ (.int .i64 (I k))) w1) :
    Cloned B n (k + 1) I L z (setFn (setFn f (k * 2) (.int .i64 (I k))) (k * 2 + 1) (.slice ao (L k) c)) (setFn A k ao) (setFn C k c) (w1.setCell ⟨B, k * 2 + 1, none⟩ (.slice ao (L k) c)) := by
  have hB : B < w.heap.size := h.row.lt
  have hsz : w.heap.size ≤ w1.heap.size := by have := hw.size; simpa [World.setCell] using this
  have hsz2 : (w1.setCell ⟨B, k * 2 + 1, none⟩ (.slice ao (L k) c)).heap.size = w1.heap.size := by simp [World.setCell]
  refine ⟨?_, ?_, ?_, ?_⟩
  · refine (((h.row.set (k * 2) (.int .i64 (I k))).of_block (hw.block B hB)).set (k * 2 + 1) _).congr fun j _ => ?_
    simp [setFn]
  · intro j hj
    by_cases e : j = k
    · subst e
      simp [setFn]
    · have := h.int j (by omega)
      simp only [setFn]
      rw [if_neg (by omega), if_neg (by omega), this]
  · intro j hj
    by_cases e : j = k
    · subst e
      simp [setFn]
    · have := h.sl j (by omega)
      simp only [setFn]
      rw [if_neg (by omega), if_neg (by omega), if_neg e, if_neg e, this]
  · intro j hj
    rw [hsz2]
    by_cases e : j = k
    · subst e
      simp only [setFn, if_true]
      refine hb.keep (fun b hb' => ⟨by omega, hb'.2⟩) fun b hb' => ?_
      exact Below.heap_setCell _ _ _ _ (by show b ≠ B; omega)
    · simp only [setFn, if_neg e]
      refine (h.bytes j (by omega)).keep (fun b hb' => ⟨hb'.1, by omega⟩) fun b hb' => ?_
      rw [Below.heap_setCell _ _ _ _ (by show b ≠ B; omega), hw.block b hb'.2, Below.heap_setCell _ _ _ _ (by show b ≠ B; omega)]

set_option maxHeartbeats 1000000 in
theorem cloneOps_any {S : Nat → Prop} (x : Addr) (n c : Nat) (I : Nat → Int) (A : Nat → Option Addr) (L C : Nat → Nat) (z : Nat → Option (List Int)) (w : World) (h : OpsAt S w (some x) n I A L C) (hn : n ≤ 1048576)
    (hS : ∀ b, S b → b < w.heap.size) (hz : ∀ k, k < n → L k ≤ 1048576 ∧ BytesAt S w (A k) (L k) (C k) (z k)) :
    Calls Try.prog 7 #[.slice (some x) n c] w fun e w' => e = .returned (.slice (some ⟨w.heap.size, 0, none⟩) n n) ∧ ∃ f A' C', Cloned w.heap.size n n I L z f A' C' w' ∧ Below w.heap.size w w' := by
  have hq := fun w a l c => Lib.run_eql_slice_nil (P := Try.prog) w 22 26 a l c 0 0 Try.underlying22
  have hmk := run_make_wide (P := Try.prog) 22 26 _ 2 32 Try.underlying22 Try.infoc26 n (by omega) (by omega)
  have hst : Cloned w.heap.size n 0 I L z (fun i => (#[.int .i64 0, .slice none 0 0] : Array Value)[i % 2]!) (fun _ => none) (fun _ => 0) (w.alloc (.cells (madeCells #[.int .i64 0, .slice none 0 0] (n * 2)) 26)) :=
    ⟨rowIs_wide _ _ _ _, fun j hj => absurd hj (Nat.not_lt_zero _), fun j hj => absurd hj (Nat.not_lt_zero _), fun j hj => absurd hj (Nat.not_lt_zero _)⟩
  have HST := hide hst
  clear hst
  go_enter Try.func7, Try.ntmps7
  go_wp2
  go_loopw [4] (fun i wr => ∃ (k : Nat) (f : Nat → Value) (A' : Nat → Option Addr) (C' : Nat → Nat), k ≤ n ∧ i = .int .i64 k ∧ Cloned w.heap.size n k I L z f A' C' wr ∧ Below w.heap.size w wr) (fun i _ => n - (intOf i).toNat)
  case atStart => exact ⟨0, _, _, _, Nat.zero_le _, rfl, HST.out, (Below.refl _ _).alloc (Nat.le_refl _) _⟩
  case round =>
    obtain ⟨k, f, A', C', hk, rfl, hcl, hbel⟩ := hrel
    by_cases hlt : k < n
    · obtain ⟨b, off, hx, hSb, hc⟩ := h.plain (by omega)
      simp only [Option.some.injEq] at hx
      subst hx
      obtain ⟨c1, c2⟩ := hc k hlt
      obtain ⟨hLk, hzk⟩ := hz k hlt
      have hbB : b < w.heap.size := hS b hSb
      have g1 : wr.cell? ⟨b, off + k * 2, none⟩ = some (.int .i64 (I k)) := (hbel.cell (p := ⟨b, off + k * 2, none⟩) hbB).trans c1
      have g2 : wr.cell? ⟨b, off + k * 2 + 1, none⟩ = some (.slice (A k) (L k) (C k)) := (hbel.cell (p := ⟨b, off + k * 2 + 1, none⟩) hbB).trans c2
      have r1 := hcl.row.cell (i := k * 2) (by omega)
      have r2 := hcl.row.cell (i := k * 2 + 1) (by omega)
      have f1 := hcl.row.frozen (k * 2)
      have f2 := hcl.row.frozen (k * 2 + 1)
      have hw1 : Below w.heap.size w (wr.setCell ⟨w.heap.size, k * 2, none⟩ (.int .i64 (I k))) := hbel.setCell (Nat.le_refl _) _
      have hby : BytesAt S (wr.setCell ⟨w.heap.size, k * 2, none⟩ (.int .i64 (I k))) (A k) (L k) (C k) (z k) := hzk.keep (fun _ h => h) (fun b hb => hw1.block b (hS b hb))
      have HCL := hide hcl
      have HB := hide hbel
      clear hcl hbel hz hc h
      go_wp2_with fail
      refine (clone_any (S := S) (A k) (L k) (C k) (z k) _ hby hLk (fun b hb => by have := hS b hb; have := HB.out.size; simp [World.setCell]; omega)).mono ?_
      rintro e w1 ⟨ao', c', rfl, hby1, hbel1⟩
      have hs1 : (wr.setCell ⟨w.heap.size, k * 2, none⟩ (.int .i64 (I k))).heap.size = wr.heap.size := by simp [World.setCell]
      rw [hs1] at hby1 hbel1
      have hBr : w.heap.size < wr.heap.size := HCL.out.row.lt
      have q2 : w1.cell? ⟨w.heap.size, k * 2 + 1, none⟩ = some (f (k * 2 + 1)) := by
        rw [hbel1.cell (p := ⟨w.heap.size, k * 2 + 1, none⟩) hBr, World.cell?_setCell_other _ _ _ _ (by simp)]
        exact r2
      have p2 : w1.frozen? ⟨w.heap.size, k * 2 + 1, none⟩ = false := by
        rw [hbel1.frozen (p := ⟨w.heap.size, k * 2 + 1, none⟩) hBr]
        simpa using f2
      have HS := hide (HCL.out.step hlt hby1 hbel1)
      have HB1 : Hid (Below w.heap.size w (w1.setCell ⟨w.heap.size, k * 2 + 1, none⟩ (.slice ao' (L k) c'))) := (hw1.trans (hbel1.mono (by omega))).setCell (Nat.le_refl _) _
      clear hby1 hbel1 hs1 g1 g2 r1 r2 f1 f2 hby hw1 hzk c1 c2
      go_wp2
      go_roundw
      case rel => exact ⟨k + 1, _, _, _, by omega, by go_num, HS.out, HB1.out⟩
      case measure => simp [intOf]; omega
    · have : k = n := by omega
      subst this
      go_wp2
      go_ret
      exact ⟨rfl, f, A', C', hcl, hbel⟩

theorem cloneOps_nil (w : World) : Calls Try.prog 7 #[.slice none 0 0] w fun e w' => e = .returned (.slice none 0 0) ∧ w' = w := by
  have hq := fun w a l c => Lib.run_eql_slice_nil (P := Try.prog) w 22 26 a l c 0 0 Try.underlying22
  go_enter Try.func7, Try.ntmps7
  go_wp2
  go_ret
  exact ⟨rfl, rfl⟩

/-- cloneSetOps at every slice of ops -/
theorem cloneOps_all {S : Nat → Prop} (ao : Option Addr) (n c : Nat) (I : Nat → Int) (A : Nat → Option Addr) (L C : Nat → Nat) (z : Nat → Option (List Int)) (w : World) (h : OpsAt S w ao n I A L C) (hao : ao = none → n = 0 ∧ c = 0) (hn : n ≤ 1048576)
    (hS : ∀ b, S b → b < w.heap.size) (hz : ∀ k, k < n → L k ≤ 1048576 ∧ BytesAt S w (A k) (L k) (C k) (z k)) :
    Calls Try.prog 7 #[.slice ao n c] w fun e w' => ∃ ao' c' A' C', e = .returned (.slice ao' n c') ∧ OpsAt (fun b => b < w'.heap.size) w' ao' n I A' L C' ∧ (∀ k, k < n → BytesAt (fun b => b < w'.heap.size) w' (A' k) (L k) (C' k) (z k)) ∧ Below w.heap.size w w' := by
  cases ao with
  | none =>
    obtain ⟨rfl, rfl⟩ := hao rfl
    refine (cloneOps_nil w).mono ?_
    rintro e w' ⟨rfl, rfl⟩
    exact ⟨_, _, A, C, rfl, fun k hk => absurd hk (Nat.not_lt_zero _), fun k hk => absurd hk (Nat.not_lt_zero _), Below.refl _ _⟩
  | some x =>
    refine (cloneOps_any x n c I A L C z w h hn hS hz).mono ?_
    rintro e w' ⟨rfl, f, A', C', hcl, hb⟩
    refine ⟨_, _, A', C', rfl, fun k hk => ⟨_, rfl, hcl.row.lt, ?_, ?_⟩, fun k hk => (hcl.bytes k hk).keep (fun b hb => hb.2) (fun _ _ => rfl), hb⟩
    · rw [add_plain, Nat.zero_add, hcl.row.cell (by omega), hcl.int k hk]
    · rw [add_plain, Nat.zero_add, hcl.row.cell (by omega), hcl.sl k hk]

theorem Try.infoc74 : (Try.prog.info? 74).map (fun i => (i.zero.map Value.cells, i.size, i.bytes)) = some (some #[.int .i64 0, .slice none 0 0, .int .u8 0, .slice none 0 0, .slice none 0 0, .bool false, .int .u64 0], 7, 104) := by kernel_rfl


set_option maxHeartbeats 400000 in
theorem set_walk (sb db n i : Nat) (h : Nat) (ao bo : Option Addr) (m c l d : Nat) (w : World) (hi : i < n) (hn : n ≤ 4096) (hne : sb ≠ db) (hm : m ≤ 1048576) (hl : l ≤ 1048576) (hlh : l ≤ h) (hh : h ≤ 4398046511104)
    (c6 : w.cell? ⟨db, 6, none⟩ = some (.slice (some ⟨sb, 0, none⟩) n n)) (c8 : w.cell? ⟨db, 8, none⟩ = some (.int .u64 h)) (f8 : w.frozen? ⟨db, 8, none⟩ = false)
    (cs : w.cell? ⟨sb, i * 7 + 1, none⟩ = some (.slice bo l d)) (fs : w.frozen? ⟨sb, i * 7 + 1, none⟩ = false) :
    Calls Try.prog 25 #[.pointer (some ⟨db, 0, none⟩), .int .i64 i, .slice ao m c] w fun e w' => e = .returned (.tuple #[]) ∧
      w' = (((w.setCell ⟨db, 8, none⟩ (.int .u64 (h - l))).setCell ⟨db, 8, none⟩ (.int .u64 (h - l + m))).setCell ⟨sb, i * 7 + 1, none⟩ (.slice ao m c)).drew := by
  go_enter Try.func25, Try.ntmps25
  go_wp2
  go_region
  all_goals go_wp2
  all_goals go_end0
  all_goals exact ⟨rfl, rfl⟩

set_option maxHeartbeats 400000 in
theorem newWalk (n : Nat) (w : World) (hn : n ≤ 4096) : Calls Try.prog 8 #[.int .i64 n] w fun e w' => e = .returned (.pointer (some ⟨w.heap.size + 1, 0, none⟩)) ∧
    w' = (w.alloc (.cells (madeCells #[.int .i64 0, .slice none 0 0, .int .u8 0, .slice none 0 0, .slice none 0 0, .bool false, .int .u64 0] (n * 7)) 74)).alloc
      (.cells #[.pointer none, .int .u64 0, .int .u64 0, .int .u64 0, .int .u64 0, .pointer none, .slice (some ⟨w.heap.size, 0, none⟩) n n, .int .i64 0, .int .u64 0, .int .i64 0, .int .u64 0, .slice none 0 0, .int .u64 0, .nilIface,
        .slice none 0 0, .slice none 0 0, .slice none 0 0, .int .i64 (-1)] 70) := by
  have hmk := run_make_wide (P := Try.prog) 56 74 _ 7 104 Try.underlying56 Try.infoc74 n (by omega) (by omega)
  go_enter Try.func8, Try.ntmps8
  go_wp2
  go_ret
  exact ⟨rfl, rfl⟩

/-- the exported 'set': it calls the method -/
theorem zzset_walk (sb db n i : Nat) (h : Nat) (ao bo : Option Addr) (m c l d : Nat) (w : World) (hi : i < n) (hn : n ≤ 4096) (hne : sb ≠ db) (hm : m ≤ 1048576) (hl : l ≤ 1048576) (hlh : l ≤ h) (hh : h ≤ 4398046511104)
    (c6 : w.cell? ⟨db, 6, none⟩ = some (.slice (some ⟨sb, 0, none⟩) n n)) (c8 : w.cell? ⟨db, 8, none⟩ = some (.int .u64 h)) (f8 : w.frozen? ⟨db, 8, none⟩ = false)
    (cs : w.cell? ⟨sb, i * 7 + 1, none⟩ = some (.slice bo l d)) (fs : w.frozen? ⟨sb, i * 7 + 1, none⟩ = false) :
    Calls Try.prog 10 #[.pointer (some ⟨db, 0, none⟩), .int .i64 i, .slice ao m c] w fun e w' => e = .returned (.tuple #[]) ∧
      w' = (((w.setCell ⟨db, 8, none⟩ (.int .u64 (h - l))).setCell ⟨db, 8, none⟩ (.int .u64 (h - l + m))).setCell ⟨sb, i * 7 + 1, none⟩ (.slice ao m c)).drew := by
  have H := hide (set_walk sb db n i h ao bo m c l d w hi hn hne hm hl hlh hh c6 c8 f8 cs fs)
  clear c6 c8 f8 cs fs
  go_enter Try.func10, Try.ntmps10
  go_wp2_with fail
  refine H.out.mono ?_
  rintro e w' ⟨rfl, rfl⟩
  go_wp2
  go_end0
  exact ⟨rfl, rfl⟩

theorem content_walk (sb db n i : Nat) (bo : Option Addr) (l d : Nat) (w : World) (hi : i < n) (hn : n ≤ 4096)
    (c6 : w.cell? ⟨db, 6, none⟩ = some (.slice (some ⟨sb, 0, none⟩) n n)) (cs : w.cell? ⟨sb, i * 7 + 1, none⟩ = some (.slice bo l d)) :
    Calls Try.prog 11 #[.pointer (some ⟨db, 0, none⟩), .int .i64 i] w fun e w' => e = .returned (.slice bo l d) ∧ w' = w := by
  go_enter Try.func11, Try.ntmps11
  go_wp2
  go_ret
  exact ⟨rfl, rfl⟩

theorem held_walk (db : Nat) (h : Int) (w : World) (c8 : w.cell? ⟨db, 8, none⟩ = some (.int .u64 h)) :
    Calls Try.prog 13 #[.pointer (some ⟨db, 0, none⟩)] w fun e w' => e = .returned (.int .u64 h) ∧ w' = w := by
  go_enter Try.func13, Try.ntmps13
  go_wp2
  go_ret
  exact ⟨rfl, rfl⟩
end Go.Proofs.Qxb6614306a
