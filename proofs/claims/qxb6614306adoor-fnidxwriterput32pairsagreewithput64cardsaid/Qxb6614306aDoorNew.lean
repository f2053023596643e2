/-
  The exported put32 (7), put64 (10); ZZnewIdxWriter (6) with bufio.NewWriter (12), NewWriterSize (17); ZZidxWritten (8) with Bytes (15).
-/
import Derived.Test.Qxb6614306aDoorPut
namespace Go.Proofs.Qxb6614306aDoor
open Go.RowKit Go.WideShapes
set_option linter.unusedVariables false
attribute [local go_sem ↓] Go.wp_at_zero Go.wp_at_succ

theorem zzput32_walk (ib wb rb b : Nat) (go : Option Nat) (all : List Value) (v : Nat) (w : World) (hv : v < 4294967296) (h : Wr ib wb rb b 4 go all w) (hlim : all.length ≤ 536870912) :
    Calls Tryd.prog 7 #[.pointer (some ⟨ib, 0, none⟩), .int .u32 v] w (Put ib wb rb b 4 go (all ++ be4 v) w) := by
  have HP := hide (put32_walk ib wb rb b go all v w hv h hlim)
  clear h
  go_enter Tryd.func7, Tryd.ntmps7
  go_wp2_with fail
  refine HP.out.mono ?_
  rintro e w2 ⟨rfl, hput⟩
  go_wp2
  go_end0
  exact ⟨rfl, hput⟩

theorem zzput64_walk (ib wb rb b : Nat) (go : Option Nat) (all : List Value) (v : Nat) (w : World) (hv : v < 18446744073709551616) (h : Wr ib wb rb b 8 go all w) (hlim : all.length ≤ 536870912) :
    Calls Tryd.prog 10 #[.pointer (some ⟨ib, 0, none⟩), .int .u64 v] w (Put ib wb rb b 8 go (all ++ be8 v) w) := by
  have HP := hide (put64_walk ib wb rb b go all v w hv h hlim)
  clear h
  go_enter Tryd.func10, Tryd.ntmps10
  go_wp2_with fail
  refine HP.out.mono ?_
  rintro e w2 ⟨rfl, hput⟩
  go_wp2
  go_end0
  exact ⟨rfl, hput⟩

theorem assert_no (a : Addr) (w : World) : (Instr.typeAssert (.iface 25 (.pointer (some a))) 45 42 true).run Tryd.prog w = .ok (.tuple #[.pointer none, .bool false]) w := by kernel_rfl

set_option maxHeartbeats 400000 in
theorem newWriterSize_walk (b : Nat) (w : World) :
    Calls Tryd.prog 17 #[.iface 25 (.pointer (some ⟨b, 0, none⟩)), .int .i64 4096] w fun e w' => e = .returned (.pointer (some ⟨w.heap.size + 1, 0, none⟩)) ∧
      w' = (w.alloc (.cells (madeCells #[.int .u8 0] 4096) 5)).alloc (.cells #[.nilIface, .slice (some ⟨w.heap.size, 0, none⟩) 4096 4096, .int .i64 0, .iface 25 (.pointer (some ⟨b, 0, none⟩))] 64) := by
  have hmk : ∀ w : World, (Instr.makeSlice 30 (.int .i64 4096) (.int .i64 4096)).run Tryd.prog w = .ok (.slice (some ⟨w.heap.size, 0, none⟩) 4096 4096) (w.alloc (.cells (madeCells #[.int .u8 0] 4096) 5)) := fun w => run_make_row' (P := Tryd.prog) 30 5 (.int .u8 0) 1 Tryd.underlying30 Tryd.info5 rfl .i64 .i64 4096 (by omega) (by omega) w
  have hta := assert_no
  go_enter Tryd.func17, Tryd.ntmps17
  go_wp2
  go_ret
  exact ⟨rfl, rfl⟩

theorem newWriter_walk (b : Nat) (w : World) :
    Calls Tryd.prog 12 #[.iface 25 (.pointer (some ⟨b, 0, none⟩))] w fun e w' => e = .returned (.pointer (some ⟨w.heap.size + 1, 0, none⟩)) ∧
      w' = (w.alloc (.cells (madeCells #[.int .u8 0] 4096) 5)).alloc (.cells #[.nilIface, .slice (some ⟨w.heap.size, 0, none⟩) 4096 4096, .int .i64 0, .iface 25 (.pointer (some ⟨b, 0, none⟩))] 64) := by
  go_enter Tryd.func12, Tryd.ntmps12
  go_wp2_with fail
  refine (newWriterSize_walk b w).mono ?_
  rintro e w' ⟨rfl, rfl⟩
  go_wp2
  go_ret
  exact ⟨rfl, rfl⟩

theorem get_some (c : Array Value) (i : Nat) (h : i < c.size) : c[i]? = some (c[i]?.getD .nilIface) := by simp [h]

def newBlocks (w : World) : World :=
  (((w.alloc (.cells #[.slice none 0 0, .int .i64 0, .int .i8 0] 41)).alloc (.cells (madeCells #[.int .u8 0] 4096) 5)).alloc
    (.cells #[.nilIface, .slice (some ⟨w.heap.size + 1, 0, none⟩) 4096 4096, .int .i64 0, .iface 25 (.pointer (some ⟨w.heap.size, 0, none⟩))] 64)).alloc
    (.cells #[.iface 25 (.pointer (some ⟨w.heap.size, 0, none⟩)), .nilIface, .pointer (some ⟨w.heap.size + 1 + 1, 0, none⟩), .int .u8 0, .int .u8 0, .int .u8 0, .int .u8 0, .int .u8 0, .int .u8 0, .int .u8 0, .int .u8 0] 50)

theorem newBlocks_wr (w : World) (m : Nat) : Wr (w.heap.size + 3) (w.heap.size + 2) (w.heap.size + 1) w.heap.size m none [] (newBlocks w) ∧ Below w.heap.size w (newBlocks w) ∧ (newBlocks w).heap.size = w.heap.size + 4 := by
  unfold newBlocks
  generalize hA : (Obj.cells #[.slice none 0 0, .int .i64 0, .int .i8 0] 41) = A
  generalize hR : (Obj.cells (madeCells #[.int .u8 0] 4096) 5) = R
  generalize hC : (Obj.cells #[.nilIface, .slice (some ⟨w.heap.size + 1, 0, none⟩) 4096 4096, .int .i64 0, .iface 25 (.pointer (some ⟨w.heap.size, 0, none⟩))] 64) = C
  have s1 : (w.alloc A).heap.size = w.heap.size + 1 := by simp
  have s2 : ((w.alloc A).alloc R).heap.size = w.heap.size + 2 := by simp
  have s3 : (((w.alloc A).alloc R).alloc C).heap.size = w.heap.size + 3 := by simp
  generalize hD : (Obj.cells #[.iface 25 (.pointer (some ⟨w.heap.size, 0, none⟩)), .nilIface, .pointer (some ⟨w.heap.size + 1 + 1, 0, none⟩), .int .u8 0, .int .u8 0, .int .u8 0, .int .u8 0, .int .u8 0, .int .u8 0, .int .u8 0, .int .u8 0] 50) = D
  have b0 : ((((w.alloc A).alloc R).alloc C).alloc D).heap[w.heap.size]? = some A := by
    rw [Below.heap_alloc _ _ _ (by omega), Below.heap_alloc _ _ _ (by omega), Below.heap_alloc _ _ _ (by omega)]; exact heap_alloc_new w A
  have b1 : ((((w.alloc A).alloc R).alloc C).alloc D).heap[w.heap.size + 1]? = some R := by
    rw [Below.heap_alloc _ _ _ (by omega), Below.heap_alloc _ _ _ (by omega), ← s1]; exact heap_alloc_new _ R
  have b2 : ((((w.alloc A).alloc R).alloc C).alloc D).heap[w.heap.size + 2]? = some C := by
    rw [Below.heap_alloc _ _ _ (by omega), ← s2]; exact heap_alloc_new _ C
  have b3 : ((((w.alloc A).alloc R).alloc C).alloc D).heap[w.heap.size + 3]? = some D := by
    rw [← s3]; exact heap_alloc_new _ D
  have hrow : (madeCells #[Value.int .u8 0] 4096).toList = List.replicate 4096 (.int .u8 0) := toList_madeCells_one _ _
  refine ⟨⟨⟨0, madeCells #[.int .u8 0] 4096, [], Nat.zero_mod _, ⟨⟨?_, ?_, size_madeCells _ _, ?_, by omega, by omega, by omega, by omega⟩, .inl ⟨rfl, rfl, 0, ?_⟩, by simp, by simp, by simp, by simp⟩⟩, ⟨fun i => (#[.iface 25 (.pointer (some ⟨w.heap.size, 0, none⟩)), .nilIface, .pointer (some ⟨w.heap.size + 1 + 1, 0, none⟩), .int .u8 0, .int .u8 0, .int .u8 0, .int .u8 0, .int .u8 0, .int .u8 0, .int .u8 0, .int .u8 0] : Array Value)[i]?.getD .nilIface, ⟨#[.iface 25 (.pointer (some ⟨w.heap.size, 0, none⟩)), .nilIface, .pointer (some ⟨w.heap.size + 1 + 1, 0, none⟩), .int .u8 0, .int .u8 0, .int .u8 0, .int .u8 0, .int .u8 0, .int .u8 0, .int .u8 0, .int .u8 0], ?_, rfl, ?_⟩, rfl⟩, by omega, by omega, by omega, by simp⟩, ?_, ?_⟩
  · rw [b2, ← hC]; rfl
  · rw [b1, ← hR]
  · intro v hv
    rw [hrow] at hv
    rw [List.eq_of_mem_replicate hv]
    rfl
  · rw [b0, ← hA]
  · rw [b3, ← hD]
  · intro i hi
    exact get_some _ i hi
  · exact (((((Below.refl _ _).alloc (Nat.le_refl _) _).alloc (by omega) _).alloc (by omega) _).alloc (by omega) _)
  · simp

/-- a new writer: four new blocks -/
theorem newIdx_walk (w : World) :
    Calls Tryd.prog 6 #[] w fun e w' => e = .returned (.tuple #[.pointer (some ⟨w.heap.size + 3, 0, none⟩), .pointer (some ⟨w.heap.size, 0, none⟩)]) ∧ w' = newBlocks w := by
  go_enter Tryd.func6, Tryd.ntmps6
  go_wp2_with fail
  refine (newWriter_walk w.heap.size _).mono ?_
  rintro e w' ⟨rfl, rfl⟩
  go_wp2
  go_ret2
  exact ⟨rfl, rfl⟩

set_option maxHeartbeats 400000 in
theorem bytes_walk (b l cap : Nat) (ao : Option Addr) (w : World) (h : BufHead b (.slice ao l cap) w) (hlc : l ≤ cap) (hcm : cap ≤ maxLen) :
    Calls Tryd.prog 15 #[.pointer (some ⟨b, 0, none⟩)] w fun e w' => e = .returned (.slice ao l cap) ∧ ∃ q, w' = w.drewN q := by
  obtain ⟨c0, c1, -, -, -⟩ := h.cells
  unfold maxLen at hcm
  have h1 : (0 : Int) ≤ (l : Int) := by omega
  have h2 : (l : Int) ≤ (cap : Int) := by omega
  clear h
  go_enter Tryd.func15, Tryd.ntmps15
  go_wp2
  go_quiet (fail)
  go_wp2
  go_ret
  exact ⟨rfl, _, rfl⟩

/-- what Written hands back: the cells 'all' -/
def Out (ib wb rb b : Nat) (go : Option Nat) (all : List Value) (w : World) (e : Ending) (w' : World) : Prop :=
  ∃ go2 cap, e = .returned (.slice (go2.map fun g => ⟨g, 0, none⟩) all.length cap) ∧ (∀ j v, all[j]? = some v → ∃ g, go2 = some g ∧ w'.cell? ⟨g, j, none⟩ = some v) ∧
    Turned (fun i => i = ib ∨ i = wb ∨ i = rb ∨ i = b ∨ some i = go) w w' ∧ (go2 = go ∨ ∃ r, go2 = some r ∧ w.heap.size ≤ r)

theorem Buf.out {b : Nat} {go : Option Nat} {bs : List Value} {w : World} (h : Buf b go bs w) :
    ∃ cap, BufHead b (.slice (go.map fun g => ⟨g, 0, none⟩) bs.length cap) w ∧ bs.length ≤ cap ∧ cap ≤ maxLen ∧ ∀ j v, bs[j]? = some v → ∃ g, go = some g ∧ w.cell? ⟨g, j, none⟩ = some v := by
  rcases h with ⟨rfl, rfl, hh⟩ | ⟨g, cap, cur, rfl, hh, hg, hcs, htk, hbc, hcm, hgb, hb1⟩
  · exact ⟨0, hh, Nat.le_refl _, Nat.zero_le _, fun j v hj => by simp at hj⟩
  · refine ⟨cap, hh, hbc, hcm, fun j v hj => ⟨g, rfl, ?_⟩⟩
    have := Lib.cells_of_row hg bs.length j v (by rw [htk]; exact hj)
    rwa [Lib.addr_add, Nat.zero_add] at this

set_option maxHeartbeats 400000 in
theorem written_walk (ib wb rb b m : Nat) (go : Option Nat) (all : List Value) (w : World) (h : Wr ib wb rb b m go all w) (hlim : all.length ≤ 536870912) :
    Calls Tryd.prog 8 #[.pointer (some ⟨ib, 0, none⟩), .pointer (some ⟨b, 0, none⟩)] w (Out ib wb rb b go all w) := by
  have c2 := h.cell2
  obtain ⟨⟨n, row, bs, hn, hh⟩, -⟩ := h
  have hlen := hh.len
  by_cases hn0 : n = 0
  · subst hn0
    obtain ⟨cap, hb, hbc, hcm, hcells⟩ := hh.buf.out
    have hall : bs = all := by have := hh.all; simpa using this
    subst hall
    have HF := hide (flush_none wb rb b row w hh.bw)
    have HBy := hide (bytes_walk b bs.length cap _ w hb hbc hcm)
    have HO : ∀ q, Hid (Out ib wb rb b go bs w (.returned (.slice (go.map fun g => ⟨g, 0, none⟩) bs.length cap)) (w.drewN q)) := fun q => ⟨go, cap, rfl, hcells, (Turned.refl _ w).drewN q, .inl rfl⟩
    clear hb hcells hh hlen
    go_enter Tryd.func8, Tryd.ntmps8
    go_wp2_with fail
    refine HF.out.mono ?_
    rintro e w1 ⟨rfl, hw1⟩
    subst hw1
    go_wp2_with fail
    refine HBy.out.mono ?_
    rintro e w2 ⟨rfl, q, rfl⟩
    go_wp2
    go_ret
    exact (HO q).out
  · have HF := hide (flush_some wb rb b n go row bs w hh.bw hh.buf (by omega) (by omega) hh.one hh.gw hh.gr)
    rw [hh.all] at HF
    clear hh hlen
    go_enter Tryd.func8, Tryd.ntmps8
    go_wp2_with fail
    refine HF.out.mono ?_
    rintro e w1 ⟨rfl, go2, hbw1, hbuf1, ht1, hg1⟩
    obtain ⟨cap, hb, hbc, hcm, hcells⟩ := hbuf1.out
    have HBy := hide (bytes_walk b all.length cap _ w1 hb hbc hcm)
    have HO : ∀ q, Hid (Out ib wb rb b go all w (.returned (.slice (go2.map fun g => ⟨g, 0, none⟩) all.length cap)) (w1.drewN q)) := fun q =>
      ⟨go2, cap, rfl, hcells, (ht1.mono (by rintro i (e | e | e); exact .inr (.inl e); exact .inr (.inr (.inr (.inl e))); exact .inr (.inr (.inr (.inr e))))).drewN q, hg1⟩
    clear hb hcells hbw1 hbuf1 ht1 hg1 HF
    go_wp2_with fail
    refine HBy.out.mono ?_
    rintro e w2 ⟨rfl, q, rfl⟩
    go_wp2
    go_ret
    exact (HO q).out
end Go.Proofs.Qxb6614306aDoor
