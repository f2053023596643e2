/-
  bytes.Buffer: grow (42) at a nil buffer; Write (40) as a whole.
-/
import Derived.Test.Qxb6614306aDoorGrow
namespace Go.Proofs.Qxb6614306aDoor
open Go.RowKit Go.WideShapes
set_option linter.unusedVariables false
attribute [local go_sem ↓] Go.wp_at_zero Go.wp_at_succ

set_option maxHeartbeats 1000000 in
theorem grow_nil_big (b n : Nat) (w : World) (h : BufHead b (.slice none 0 0) w) (hn : 64 < n) (hlim : n ≤ 1073741824) :
    Calls Tryd.prog 42 #[.pointer (some ⟨b, 0, none⟩), .int .i64 n] w (GrewBuf b 0 n [] w) := by
  have hq : ∀ W, (binOp .eql 30 (.slice none 0 0) (.slice none 0 0)).run Tryd.prog W = .ok (.bool true) W := fun W => Lib.run_eql_slice_nil (P := Tryd.prog) W 30 5 none 0 0 0 0 Tryd.underlying30
  have HH := hide h
  clear h
  go_enter Tryd.func42, Tryd.ntmps42
  go_wp2_with fail
  refine (len_walk b 0 0 _ w HH.out (by omega)).mono ?_
  rintro e w0 ⟨rfl, q, hw0⟩
  have HH0 : Hid (BufHead b (.slice none 0 0) w0) := HH.out.of_block (by rw [hw0]; rfl)
  have HW0 := hide hw0
  clear hw0
  obtain ⟨c0, c1, -, hf, hblt⟩ := HH0.out.cells
  have f0 := hf 0
  have f1 := hf 1
  clear hf
  go_wp2_with fail
  refine (tryGrow_none b 0 0 n _ w0 HH0.out (Nat.le_refl _) (by unfold maxLen; omega) (by omega)).mono ?_
  rintro e w0' ⟨rfl, rfl⟩
  have hwn : IntKind.i64.wrap (n : Int) = n := by rw [IntKind.wrap_i64]; omega
  go_wp2_with fail
  go_region_with ((go_at_call 44; refine (growSlice_nil n w0.drew (by omega) (by omega)).mono ?_; rintro e w2 ⟨cap2, cells, rfl, hN, hcsz, htk, hcap2, hcm2, hbel, hsz2⟩; have d0 := (hbel.cell (p := ⟨b, 0, none⟩) hblt).trans c0; have d1 := (hbel.cell (p := ⟨b, 1, none⟩) hblt).trans c1; have e0 := (hbel.frozen (p := ⟨b, 0, none⟩) hblt).trans f0; have e1 := (hbel.frozen (p := ⟨b, 1, none⟩) hblt).trans f1))
  all_goals
    have HE := hide (grow_end (x := .slice (some ⟨w0.heap.size, 0, none⟩) 0 cap2) HW0.out HH0.out hN hcsz htk hcap2 hcm2 hbel)
    clear hN hcsz htk hbel hsz2
    go_wp2
    go_ret
    first | exact HE.out | (simp only [Nat.zero_add] at HE; exact HE.out)

set_option maxHeartbeats 1000000 in
theorem grow_nil_small (b n : Nat) (w : World) (h : BufHead b (.slice none 0 0) w) (hn1 : 1 ≤ n) (hn : n ≤ 64) :
    Calls Tryd.prog 42 #[.pointer (some ⟨b, 0, none⟩), .int .i64 n] w (GrewBuf b 0 n [] w) := by
  have hq : ∀ W, (binOp .eql 30 (.slice none 0 0) (.slice none 0 0)).run Tryd.prog W = .ok (.bool true) W := fun W => Lib.run_eql_slice_nil (P := Tryd.prog) W 30 5 none 0 0 0 0 Tryd.underlying30
  obtain ⟨i0, hi, hz0, hz1, hz2⟩ := info_parts Tryd.info5
  obtain ⟨M, hM⟩ : ∃ M, M = madeCells (Value.int .u8 0).cells ((64 : Int).toNat * i0.size) := ⟨_, rfl⟩
  have hMs : M.size = 64 := by rw [hM, size_madeCells, hz1]; rfl
  have hmk : ∀ W : World, (Instr.makeSlice 30 (.int .i64 (n : Int)) (.int .i64 64)).run Tryd.prog W = .ok (.slice (some ⟨W.heap.size, 0, none⟩) n 64) (W.alloc (.cells M 5)) := fun W => by
    have h := run_make (P := Tryd.prog) W 30 5 i0 (.int .u8 0) Tryd.underlying30 hi hz0 .i64 .i64 (n : Int) 64 (by omega) (by omega) (by rw [hz2]; decide) (by decide)
    rw [← hM] at h
    simpa using h
  have HM := hide hMs
  clear hM hMs
  have HH := hide h
  clear h
  go_enter Tryd.func42, Tryd.ntmps42
  go_wp2_with fail
  refine (len_walk b 0 0 _ w HH.out (by omega)).mono ?_
  rintro e w0 ⟨rfl, q, hw0⟩
  have HH0 : Hid (BufHead b (.slice none 0 0) w0) := HH.out.of_block (by rw [hw0]; rfl)
  have HW0 := hide hw0
  clear hw0
  obtain ⟨c0, c1, -, hf, hblt⟩ := HH0.out.cells
  have f0 := hf 0
  have c0a : ∀ o, (w0.alloc o).cell? ⟨b, 0, none⟩ = some (.slice none 0 0) := fun o => (World.cell?_of_block (a := ⟨b, 0, none⟩) (Below.heap_alloc w0 o b hblt)).trans c0
  have f0a : ∀ o, (w0.alloc o).frozen? ⟨b, 0, none⟩ = false := fun o => (World.frozen?_of_block (a := ⟨b, 0, none⟩) (Below.heap_alloc w0 o b hblt)).trans f0
  clear hf
  go_wp2_with fail
  refine (tryGrow_none b 0 0 n _ w0 HH0.out (Nat.le_refl _) (by unfold maxLen; omega) (by omega)).mono ?_
  rintro e w0' ⟨rfl, rfl⟩
  have HE2 : Hid (GrewBuf b 0 n [] w (.returned (.int .i64 0)) ((w0.setCell ⟨b, 0, none⟩ (.slice (some ⟨w0.heap.size, 0, none⟩) n 64)).alloc (.cells M 5))) := by
    have hb2 : BufHead b (.slice (some ⟨w0.heap.size, 0, none⟩) n 64) (w0.setCell ⟨b, 0, none⟩ (.slice (some ⟨w0.heap.size, 0, none⟩) n 64)) := HH0.out.set0 _
    have hsz : w0.heap.size = w.heap.size := by rw [HW0.out]; rfl
    have hs2 : (w0.setCell ⟨b, 0, none⟩ (.slice (some ⟨w0.heap.size, 0, none⟩) n 64)).heap.size = w.heap.size := by rw [← hsz]; simp [World.setCell]
    refine ⟨rfl, 64, M, ?_, ?_, HM.out, by simp, by omega, by unfold maxLen; omega, ?_⟩
    · rw [Nat.zero_add, ← hsz]; exact hb2.of_block (Below.heap_alloc _ _ b (by simpa [World.setCell] using hblt))
    · rw [← hs2]; exact heap_alloc_new _ _
    · have h0 : Turned (fun k => k = b) w w0 := by rw [HW0.out]; exact (Turned.refl _ w).drewN q
      exact (h0.setCell (.inl rfl) _).alloc _
  go_wp2
  go_ret
  exact HE2.out
end Go.Proofs.Qxb6614306aDoor
