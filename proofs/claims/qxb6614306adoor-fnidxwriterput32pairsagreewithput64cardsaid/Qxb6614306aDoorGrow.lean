/-
  bytes.Buffer's growing, walked at this dump: growSlice$1 (45), growSlice (44), tryGrowByReslice (41), Len (43), grow (42), Write (40). After the shelf's own walks over any program (Derived/Shelf/Bytes/), with a frame that names the blocks that turn.
-/
import Derived.Test.Qxb6614306aDoorRows
import Derived.WalkKit
import Derived.ProofKit
import Derived.WalkSpells
import Derived.WalkLawsBesides
import Derived.Deep.OwnRows
import Derived.Deep.QuietTactic
import Derived.Deep.RegionHeld3
import Derived.Deep.DrawnRows
import Derived.BigQuiet
import Derived.Lib.AppendZeros
import Derived.Lib.BufferOwn
import Derived.Lib.Walk
import Derived.Lib.ByteType
import Derived.Lib.Hide
import Derived.Laws.CopyRow
import Derived.Laws.IdiomCopy
import Derived.Defers
import Derived.Recover
namespace Go.Proofs.Qxb6614306aDoor
open Go.RowKit Go.WideShapes
set_option linter.unusedVariables false
attribute [local go_sem ↓] Go.wp_at_zero Go.wp_at_succ

theorem hide {p : Prop} (h : p) : Hid p := h

theorem Tryd.info5 : (Tryd.prog.info? 5).map (fun i => (i.zero, i.size, i.bytes)) = some (some (.int .u8 0), 1, 1) := by kernel_rfl
theorem Tryd.size5 : (Tryd.prog.info? 5).map (·.size) = some 1 := by kernel_rfl

theorem catch_idle (w : World) : CallsD Tryd.prog 45 #[] .returning w fun e u' w' => e = .returned (.tuple #[]) ∧ u' = .returning ∧ w' = w := by
  have hnn : ∀ w, (binOp .neq 20 .nilIface .nilIface).run Tryd.prog w = .ok (.bool false) w := fun w => Lib.run_neq_nil_nil w Tryd.underlying20
  refine callsD_of_wpS Tryd.func45 rfl fun c₀ cs hu => ?_
  apply wpS_seq
  apply wpS_region
  simp [wpOpsS, go_sem, recoverD, hu, hnn, Tryd.ntmps45, Exit.thenS]
  refine wpS_cond (t := false) (by simp [Act.eval, Array.replicate]) ?_
  simp only [Bool.false_eq_true, if_false]
  refine wpS_of_wp (wp_skip ?_)
  cases c₀
  simp_all [bodyPostS, results]

/-- what growSlice does: a new row at the heap's end, whose first l cells are the old ones -/
def Grew (w : World) (l n : Nat) (old : List Value) (e : Ending) (w' : World) : Prop :=
  ∃ cap2 cells, e = .returned (.slice (some ⟨w.heap.size, 0, none⟩) l cap2) ∧ w'.heap[w.heap.size]? = some (.cells cells 5 (0, 0)) ∧
      cells.size = cap2 ∧ cells.toList.take l = old ∧ l + n ≤ cap2 ∧ cap2 ≤ maxLen ∧ Below w.heap.size w w' ∧ w'.heap.size = w.heap.size + 1

set_option maxHeartbeats 6400000 in
set_option maxRecDepth 100000 in
theorem growSlice_aux (g l c n C : Nat) (cur : Array Value) (w : World) (hg : w.heap[g]? = some (.cells cur 5 (0, 0))) (hcs : cur.size = c) (hlc : l ≤ c) (hn : 1 ≤ n)
    (hlim : l + n ≤ 1099511627776) (hc2 : c ≤ 1099511627776) (h1 : ∀ v ∈ cur.toList.take l, v.oneCell' = true) (hC : (l + n < 2 * c ∧ C = 2 * c) ∨ (2 * c ≤ l + n ∧ C = l + n)) :
    Calls Tryd.prog 44 #[.slice (some ⟨g, 0, none⟩) l c, .int .i64 n] w (Grew w l n (cur.toList.take l)) := by
  obtain ⟨i0, hi, hz0, hz1, hz2⟩ := info_parts Tryd.info5
  have happ := Lib.run_append_nil_zeros (P := Tryd.prog) w 30 3 30 5 i0 (.int .u8 0) .i64 .i64 Tryd.underlying30 Tryd.underlying3 hi hz0 C (by omega) (by omega) (by omega) (by rw [hz2]; omega)
  generalize hcap : grownCap w C 0 5 = cap2 at happ
  have hcapge : C ≤ cap2 := by rw [← hcap]; exact grownCap_ge w _ 0 5
  have hcaple : cap2 ≤ maxLen := by rw [← hcap]; exact grownCap_le_maxLen w _ 0 5 (by unfold maxLen; omega)
  generalize hZ : (Builtin.zeroCells (Value.int .u8 0).cells C ++ Builtin.zeroCells (Value.int .u8 0).cells (cap2 - C)) = Z at happ
  have hZs : Z.size = cap2 := by rw [← hZ]; simp [size_zeroCells, Value.cells]; omega
  clear hcap hZ
  have hgl := Lib.lt_of_heap hg
  have hg1 : (w.alloc (.cells Z 5)).drew.heap[g]? = some (.cells cur 5 (0, 0)) := by show (w.alloc (.cells Z 5)).heap[g]? = _; rw [RowKit.Below.heap_alloc w _ g hgl]; exact hg
  have hxl : (cur.toList.take l).length = l := by rw [List.length_take, Array.length_toList]; omega
  have hcopy := run_copy_row (P := Tryd.prog) (w.alloc (.cells Z 5)).drew 30 30 3 5 w.heap.size 0 C cap2 ⟨g, 0, none⟩ l c Z 5 (cur.toList.take l) Tryd.underlying30 Tryd.size5 (heap_alloc_new w _) (by rw [hxl]; exact (Nat.min_eq_left (by omega)).symm) (Lib.cells_of_row hg1 l) (by rw [hxl]; omega) h1
  rw [hxl] at hcopy
  generalize hY : (Z.toList.take 0 ++ cur.toList.take l ++ Z.toList.drop (0 + l)).toArray = Y at hcopy
  have HY := hide hY
  clear hY
  have hfin : Hid (∀ W, W = ((w.alloc (.cells Z 5)).drew.setRow w.heap.size Y) → Grew w l n (cur.toList.take l) (.returned (.slice (some ⟨w.heap.size, 0, none⟩) l cap2)) W) := by
    rintro W rfl
    have hYl : Y.toList = cur.toList.take l ++ Z.toList.drop l := by rw [← HY.out]; simp
    refine ⟨cap2, Y, rfl, setRow_heap _ _ Z Y 5 (0, 0) (heap_alloc_new w _), ?_, ?_, by omega, hcaple, ?_, ?_⟩
    · have : Y.toList.length = cap2 := by rw [hYl, List.length_append, hxl, List.length_drop, Array.length_toList, hZs]; omega
      simpa using this
    · rw [hYl, List.take_append_of_le_length (by rw [hxl]; exact Nat.le_refl _), List.take_of_length_le (by rw [hxl]; exact Nat.le_refl _)]
    · exact ⟨rfl, rfl, rfl, by simp, fun k hk => by rw [setRow_other _ _ _ _ (by omega)]; exact Below.heap_alloc w _ k hk⟩
    · simp
  rcases hC with ⟨hC, rfl⟩ | ⟨hC, rfl⟩
  · rw [show (((2 * c : Nat)) : Int) = 2 * (c : Int) by omega] at happ
    go_enter_defers Tryd.func44, Tryd.ntmps44
    go_wp2_with (at_builtin; refine Lib.wpList_append_run _ rfl _ _ _ _ rfl _ _ rfl rfl _ _ happ ?_)
    refine leaves_cons (f := 45) (args := #[]) (by simp) (by simp [go_sem]) ?_
    refine (catch_idle _).mono ?_
    rintro e u' w'' ⟨rfl, rfl, rfl⟩
    refine ⟨_, results_tmp rfl _ _ _, ?_⟩
    exact hfin.out _ rfl
  · rw [show (((l + n : Nat)) : Int) = (l : Int) + (n : Int) by omega] at happ
    go_enter_defers Tryd.func44, Tryd.ntmps44
    go_wp2_with (at_builtin; refine Lib.wpList_append_run _ rfl _ _ _ _ rfl _ _ rfl rfl _ _ happ ?_)
    refine leaves_cons (f := 45) (args := #[]) (by simp) (by simp [go_sem]) ?_
    refine (catch_idle _).mono ?_
    rintro e u' w'' ⟨rfl, rfl, rfl⟩
    refine ⟨_, results_tmp rfl _ _ _, ?_⟩
    exact hfin.out _ rfl

theorem growSlice_row (g l c n : Nat) (cur : Array Value) (w : World) (hg : w.heap[g]? = some (.cells cur 5 (0, 0))) (hcs : cur.size = c) (hlc : l ≤ c) (hn : 1 ≤ n)
    (hlim : l + n ≤ 1099511627776) (hc2 : c ≤ 1099511627776) (h1 : ∀ v ∈ cur.toList.take l, v.oneCell' = true) :
    Calls Tryd.prog 44 #[.slice (some ⟨g, 0, none⟩) l c, .int .i64 n] w (Grew w l n (cur.toList.take l)) := by
  by_cases h : l + n < 2 * c
  · exact growSlice_aux g l c n (2 * c) cur w hg hcs hlc hn hlim hc2 h1 (.inl ⟨h, rfl⟩)
  · exact growSlice_aux g l c n (l + n) cur w hg hcs hlc hn hlim hc2 h1 (.inr ⟨by omega, rfl⟩)

set_option maxHeartbeats 6400000 in
set_option maxRecDepth 100000 in
theorem growSlice_nil (n : Nat) (w : World) (hn : 1 ≤ n) (hlim : n ≤ 1099511627776) : Calls Tryd.prog 44 #[.slice none 0 0, .int .i64 n] w (Grew w 0 n []) := by
  obtain ⟨i0, hi, hz0, hz1, hz2⟩ := info_parts Tryd.info5
  have happ := Lib.run_append_nil_zeros (P := Tryd.prog) w 30 3 30 5 i0 (.int .u8 0) .i64 .i64 Tryd.underlying30 Tryd.underlying3 hi hz0 n (by omega) (by omega) (by omega) (by rw [hz2]; omega)
  generalize hcap : grownCap w n 0 5 = cap2 at happ
  have hcapge : n ≤ cap2 := by rw [← hcap]; exact grownCap_ge w _ 0 5
  have hcaple : cap2 ≤ maxLen := by rw [← hcap]; exact grownCap_le_maxLen w _ 0 5 (by unfold maxLen; omega)
  generalize hZ : (Builtin.zeroCells (Value.int .u8 0).cells n ++ Builtin.zeroCells (Value.int .u8 0).cells (cap2 - n)) = Z at happ
  have hZs : Z.size = cap2 := by rw [← hZ]; simp [size_zeroCells, Value.cells]; omega
  clear hcap hZ
  have hcopy := run_copy_nil (P := Tryd.prog) (w.alloc (.cells Z 5)).drew 30 30 3 5 ⟨w.heap.size, 0, none⟩ n cap2 Tryd.underlying30 (by rw [hi]; rfl)
  go_enter_defers Tryd.func44, Tryd.ntmps44
  go_wp2_with (at_builtin; refine Lib.wpList_append_run _ rfl _ _ _ _ rfl _ _ rfl rfl _ _ happ ?_)
  refine leaves_cons (f := 45) (args := #[]) (by simp) (by simp [go_sem]) ?_
  refine (catch_idle _).mono ?_
  rintro e u' w'' ⟨rfl, rfl, rfl⟩
  refine ⟨_, results_tmp rfl _ _ _, ?_⟩
  exact ⟨cap2, Z, rfl, heap_alloc_new w _, hZs, by simp, by omega, hcaple, ⟨rfl, rfl, rfl, by simp, fun k hk => Below.heap_alloc w _ k hk⟩, by simp⟩

/-! ### Which blocks turn -/
/-- of the blocks of w none but those that T names has turned -/
structure Turned (T : Nat → Prop) (w w' : World) : Prop where
  os : w'.os = w.os
  tape : w'.tape = w.tape
  output : w'.output = w.output
  size : w.heap.size ≤ w'.heap.size
  block : ∀ k, k < w.heap.size → ¬ T k → w'.heap[k]? = w.heap[k]?

theorem Turned.refl (T : Nat → Prop) (w : World) : Turned T w w := ⟨rfl, rfl, rfl, Nat.le_refl _, fun _ _ _ => rfl⟩
/-- two steps: what the second turns is the first's, or new -/
theorem Turned.trans {T U : Nat → Prop} {a b c : World} (h : Turned T a b) (k : Turned U b c) (hU : ∀ i, U i → T i ∨ a.heap.size ≤ i) : Turned T a c :=
  ⟨k.os.trans h.os, k.tape.trans h.tape, k.output.trans h.output, Nat.le_trans h.size k.size, fun i hi hT => by
    rw [k.block i (Nat.lt_of_lt_of_le hi h.size) (fun hu => by rcases hU i hu with h1 | h1; exact hT h1; omega)]
    exact h.block i hi hT⟩
theorem Turned.mono {T U : Nat → Prop} {w w' : World} (h : Turned T w w') (hU : ∀ i, T i → U i) : Turned U w w' := ⟨h.os, h.tape, h.output, h.size, fun k hk hu => h.block k hk fun ht => hu (hU k ht)⟩
theorem Turned.drew {T : Nat → Prop} {w w' : World} (h : Turned T w w') : Turned T w w'.drew := ⟨h.os, h.tape, h.output, h.size, h.block⟩
theorem Turned.drewN {T : Nat → Prop} {w w' : World} (h : Turned T w w') (n : Nat) : Turned T w (w'.drewN n) := ⟨h.os, h.tape, h.output, h.size, h.block⟩
theorem Turned.alloc {T : Nat → Prop} {w w' : World} (h : Turned T w w') (o : Obj) : Turned T w (w'.alloc o) :=
  h.trans (U := fun _ => False) ⟨rfl, rfl, rfl, by simp, fun k hk _ => Below.heap_alloc _ _ _ hk⟩ (fun _ h => h.elim)
theorem Turned.setCell {T : Nat → Prop} {w w' : World} (h : Turned T w w') {a : Addr} (ha : T a.block ∨ w.heap.size ≤ a.block) (v : Value) : Turned T w (w'.setCell a v) :=
  h.trans (U := fun k => k = a.block) ⟨rfl, rfl, rfl, by simp [World.setCell], fun k _ hk => Below.heap_setCell _ _ _ _ hk⟩ (fun i hi => by subst hi; exact ha)
theorem Turned.setRow {T : Nat → Prop} {w w' : World} (h : Turned T w w') {g : Nat} (ha : T g ∨ w.heap.size ≤ g) (c : Array Value) : Turned T w (w'.setRow g c) :=
  h.trans (U := fun k => k = g) ⟨rfl, rfl, rfl, by simp, fun k _ hk => setRow_other _ _ _ _ hk⟩ (fun i hi => by subst hi; exact ha)
theorem Turned.below {T : Nat → Prop} {w w' w2 : World} (h : Turned T w w') (hb : Below w'.heap.size w' w2) : Turned T w w2 :=
  h.trans (U := fun _ => False) ⟨hb.os, hb.tape, hb.output, hb.size, fun k hk _ => hb.block k hk⟩ (fun _ h => h.elim)
theorem Turned.toBelow {T : Nat → Prop} {w w' : World} (h : Turned T w w') {B : Nat} (hB : B ≤ w.heap.size) (hT : ∀ i, T i → B ≤ i) : Below B w w' :=
  ⟨h.os, h.tape, h.output, h.size, fun k hk => h.block k (by omega) fun ht => by have := hT k ht; omega⟩
theorem Turned.cell {T : Nat → Prop} {w w' : World} (h : Turned T w w') {a : Addr} {v : Value} (hT : ¬ T a.block) (hc : w.cell? a = some v) : w'.cell? a = some v := by
  have hlt : a.block < w.heap.size := by
    cases hb : w.heap[a.block]? with
    | none => simp [World.cell?, hb] at hc
    | some o => exact (Array.getElem?_eq_some_iff.1 hb).1
  rw [← hc]
  exact World.cell?_of_block (w := w) (h.block a.block hlt hT)

/-! ### A bytes.Buffer that has only been written -/
/-- block b is a Buffer; its slice is sv -/
def BufHead (b : Nat) (sv : Value) (w : World) : Prop := ∃ lr, w.heap[b]? = some (.cells #[sv, .int .i64 0, .int .i8 lr] 41 (0, 0))

theorem BufHead.cells {b : Nat} {sv : Value} {w : World} (h : BufHead b sv w) :
    w.cell? ⟨b, 0, none⟩ = some sv ∧ w.cell? ⟨b, 1, none⟩ = some (.int .i64 0) ∧ (∃ lr, w.cell? ⟨b, 2, none⟩ = some (.int .i8 lr)) ∧ (∀ i, w.frozen? ⟨b, i, none⟩ = false) ∧ b < w.heap.size := by
  obtain ⟨lr, hb⟩ := h
  exact ⟨by rw [Lib.cell_of_heap hb]; rfl, by rw [Lib.cell_of_heap hb]; rfl, ⟨lr, by rw [Lib.cell_of_heap hb]; rfl⟩, fun i => Lib.frozen_of_heap hb i, Lib.lt_of_heap hb⟩

theorem BufHead.of_block {b : Nat} {sv : Value} {w w' : World} (h : BufHead b sv w) (e : w'.heap[b]? = w.heap[b]?) : BufHead b sv w' := by
  obtain ⟨lr, hb⟩ := h
  exact ⟨lr, e.trans hb⟩

theorem BufHead.set0 {b : Nat} {sv : Value} {w : World} (h : BufHead b sv w) (v : Value) : BufHead b v (w.setCell ⟨b, 0, none⟩ v) := by
  obtain ⟨lr, hb⟩ := h
  exact ⟨lr, Lib.heap_setCell_same (i := 0) hb v⟩

theorem BufHead.set1 {b : Nat} {sv : Value} {w : World} (h : BufHead b sv w) : BufHead b sv (w.setCell ⟨b, 1, none⟩ (.int .i64 0)) := by
  obtain ⟨lr, hb⟩ := h
  exact ⟨lr, Lib.heap_setCell_same (i := 1) hb _⟩

theorem BufHead.set2 {b : Nat} {sv : Value} {w : World} (h : BufHead b sv w) (q : Int) : BufHead b sv (w.setCell ⟨b, 2, none⟩ (.int .i8 q)) := by
  obtain ⟨lr, hb⟩ := h
  exact ⟨q, Lib.heap_setCell_same (i := 2) hb _⟩

set_option maxHeartbeats 400000 in
theorem len_walk (b l cap : Nat) (ao : Option Addr) (w : World) (h : BufHead b (.slice ao l cap) w) (hl : l ≤ 1099511627776) :
    Calls Tryd.prog 43 #[.pointer (some ⟨b, 0, none⟩)] w fun e w' => e = .returned (.int .i64 l) ∧ ∃ q, w' = w.drewN q := by
  obtain ⟨c0, c1, -, -, -⟩ := h.cells
  have hw : IntKind.i64.wrap (l : Int) = l := by rw [IntKind.wrap_i64]; omega
  go_enter Tryd.func43, Tryd.ntmps43
  go_wp2
  go_quiet (fail)
  go_wp2
  go_ret
  exact ⟨rfl, _, rfl⟩

theorem tryGrow_room (b l cap n : Nat) (ao : Option Addr) (w : World) (h : BufHead b (.slice ao l cap) w) (hlc : l ≤ cap) (hcm : cap ≤ maxLen) (hr : n ≤ cap - l) :
    Calls Tryd.prog 41 #[.pointer (some ⟨b, 0, none⟩), .int .i64 n] w fun e w' => e = .returned (.tuple #[.int .i64 l, .bool true]) ∧ w' = w.setCell ⟨b, 0, none⟩ (.slice ao (l + n) cap) := by
  obtain ⟨c0, c1, -, hf, -⟩ := h.cells
  have f0 := hf 0
  clear hf
  unfold maxLen at hcm
  go_enter Tryd.func41, Tryd.ntmps41
  go_wp2
  go_ret2
  exact ⟨rfl, rfl⟩

theorem tryGrow_none (b l cap n : Nat) (ao : Option Addr) (w : World) (h : BufHead b (.slice ao l cap) w) (hlc : l ≤ cap) (hcm : cap ≤ maxLen) (hr : cap - l < n) :
    Calls Tryd.prog 41 #[.pointer (some ⟨b, 0, none⟩), .int .i64 n] w fun e w' => e = .returned (.tuple #[.int .i64 0, .bool false]) ∧ w = w' := by
  obtain ⟨c0, c1, -, hf, -⟩ := h.cells
  clear hf
  unfold maxLen at hcm
  go_enter Tryd.func41, Tryd.ntmps41
  go_wp2
  go_ret2
  exact ⟨rfl, rfl⟩

/-- what grow leaves: the index; a new row at the heap's end with room; the old bytes at its head -/
def GrewBuf (b l n : Nat) (old : List Value) (w : World) (e : Ending) (w' : World) : Prop :=
  e = .returned (.int .i64 l) ∧ ∃ cap2 cells, BufHead b (.slice (some ⟨w.heap.size, 0, none⟩) (l + n) cap2) w' ∧ w'.heap[w.heap.size]? = some (.cells cells 5 (0, 0)) ∧ cells.size = cap2 ∧ cells.toList.take l = old ∧ l + n ≤ cap2 ∧ cap2 ≤ maxLen ∧
    Turned (fun k => k = b) w w'

/-- the end of grow, behind growSlice -/
theorem grow_end {b l n q cap2 : Nat} {sv x : Value} {old : List Value} {cells : Array Value} {w w0 w2 : World} (hw0 : w0 = w.drewN q) (h : BufHead b sv w0) (hN : w2.heap[w0.drew.heap.size]? = some (.cells cells 5 (0, 0))) (hcsz : cells.size = cap2)
    (htk : cells.toList.take l = old) (hcap2 : l + n ≤ cap2) (hcm2 : cap2 ≤ maxLen) (hbel : Below w0.drew.heap.size w0.drew w2) :
    GrewBuf b l n old w (.returned (.int .i64 l)) (((w2.setCell ⟨b, 0, none⟩ x).setCell ⟨b, 1, none⟩ (.int .i64 0)).setCell ⟨b, 0, none⟩ (.slice (some ⟨w0.heap.size, 0, none⟩) (l + n) cap2)) := by
  subst hw0
  obtain ⟨-, -, -, -, hblt⟩ := h.cells
  have hb2 : BufHead b sv w2 := h.of_block (hbel.block b hblt)
  have hne : w.heap.size ≠ b := Nat.ne_of_gt hblt
  refine ⟨rfl, cap2, cells, ((hb2.set0 x).set1).set0 _, ?_, hcsz, htk, hcap2, hcm2, ?_⟩
  · rw [Below.heap_setCell _ _ _ _ hne, Below.heap_setCell _ _ _ _ hne, Below.heap_setCell _ _ _ _ hne]
    exact hN
  · have h0 : Turned (fun k => k = b) w w2 := ((Turned.refl _ w).drewN q).drew.below hbel
    exact ((h0.setCell (.inl rfl) _).setCell (.inl rfl) _).setCell (.inl rfl) _

set_option maxHeartbeats 1000000 in
theorem grow_row (b g l cap n : Nat) (cur : Array Value) (w : World) (h : BufHead b (.slice (some ⟨g, 0, none⟩) l cap) w) (hg : w.heap[g]? = some (.cells cur 5 (0, 0))) (hcs : cur.size = cap) (hlc : l ≤ cap) (hl1 : 1 ≤ l) (hn : 1 ≤ n) (hr : cap - l < n) (hlim : l + n ≤ 1073741824)
    (h1 : ∀ v ∈ cur.toList.take l, v.oneCell' = true) :
    Calls Tryd.prog 42 #[.pointer (some ⟨b, 0, none⟩), .int .i64 n] w (GrewBuf b l n (cur.toList.take l) w) := by
  have hq : ∀ W, (binOp .eql 30 (.slice (some ⟨g, 0, none⟩) l cap) (.slice none 0 0)).run Tryd.prog W = .ok (.bool false) W := fun W => Lib.run_eql_slice_nil (P := Tryd.prog) W 30 5 (some ⟨g, 0, none⟩) l cap 0 0 Tryd.underlying30
  have hcap : cap ≤ 1073741824 := by omega
  have HG := hide hg
  have H1 := hide h1
  have HH := hide h
  clear hg h1 h
  go_enter Tryd.func42, Tryd.ntmps42
  go_wp2_with fail
  refine (len_walk b l cap _ w HH.out (by omega)).mono ?_
  rintro e w0 ⟨rfl, q, hw0⟩
  have HH0 : Hid (BufHead b (.slice (some ⟨g, 0, none⟩) l cap) w0) := HH.out.of_block (by rw [hw0]; rfl)
  have HW0 := hide hw0
  clear hw0
  obtain ⟨c0, c1, -, hf, hblt⟩ := HH0.out.cells
  have f0 := hf 0
  have f1 := hf 1
  clear hf
  have hl0' : ((l : Int) == 0) = false := by simp; omega
  go_wp2_with fail
  refine (tryGrow_none b l cap n _ w0 HH0.out hlc (by unfold maxLen; omega) hr).mono ?_
  rintro e w0' ⟨rfl, rfl⟩
  have hwn : IntKind.i64.wrap (n : Int) = n := by rw [IntKind.wrap_i64]; omega
  have hgl : g < w0.heap.size := by rw [HW0.out]; exact Lib.lt_of_heap HG.out
  go_wp2_with fail
  go_region_with ((go_at_call 44; refine (growSlice_row g l cap n cur w0.drew (by rw [HW0.out]; exact HG.out) hcs hlc hn (by omega) (by omega) H1.out).mono ?_; rintro e w2 ⟨cap2, cells, rfl, hN, hcsz, htk, hcap2, hcm2, hbel, hsz2⟩; have d0 := (hbel.cell (p := ⟨b, 0, none⟩) hblt).trans c0; have d1 := (hbel.cell (p := ⟨b, 1, none⟩) hblt).trans c1; have e0 := (hbel.frozen (p := ⟨b, 0, none⟩) hblt).trans f0; have e1 := (hbel.frozen (p := ⟨b, 1, none⟩) hblt).trans f1))
  all_goals
    have HE := hide (grow_end (x := .slice (some ⟨w0.heap.size, 0, none⟩) l cap2) HW0.out HH0.out hN hcsz htk hcap2 hcm2 hbel)
    clear hN hcsz htk hbel hsz2
    go_wp2
    go_ret
    exact HE.out
end Go.Proofs.Qxb6614306aDoor
