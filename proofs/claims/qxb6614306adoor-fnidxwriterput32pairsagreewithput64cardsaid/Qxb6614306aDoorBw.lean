/-
  bufio.Writer over a bytes.Buffer: Flush (14), Available (21), Buffered (22), Write (18).
-/
import Derived.Test.Qxb6614306aDoorBufW
namespace Go.Proofs.Qxb6614306aDoor
open Go.RowKit Go.WideShapes
set_option linter.unusedVariables false
attribute [local go_sem ↓] Go.wp_at_zero Go.wp_at_succ

/-- block wb is a bufio.Writer onto the Buffer b, n bytes buffered, its buffer the row rb -/
structure BW (wb rb b n : Nat) (row : Array Value) (w : World) : Prop where
  head : w.heap[wb]? = some (.cells #[.nilIface, .slice (some ⟨rb, 0, none⟩) 4096 4096, .int .i64 n, .iface 25 (.pointer (some ⟨b, 0, none⟩))] 64 (0, 0))
  line : w.heap[rb]? = some (.cells row 5 (0, 0))
  size : row.size = 4096
  one : ∀ v ∈ row.toList, v.oneCell' = true
  nle : n ≤ 4096
  ne1 : wb ≠ rb
  ne2 : wb ≠ b
  ne3 : rb ≠ b

theorem BW.cells {wb rb b n : Nat} {row : Array Value} {w : World} (h : BW wb rb b n row w) :
    w.cell? ⟨wb, 0, none⟩ = some .nilIface ∧ w.cell? ⟨wb, 1, none⟩ = some (.slice (some ⟨rb, 0, none⟩) 4096 4096) ∧ w.cell? ⟨wb, 2, none⟩ = some (.int .i64 n) ∧ w.cell? ⟨wb, 3, none⟩ = some (.iface 25 (.pointer (some ⟨b, 0, none⟩))) ∧ (∀ i, w.frozen? ⟨wb, i, none⟩ = false) ∧ wb < w.heap.size :=
  ⟨by rw [Lib.cell_of_heap h.head]; rfl, by rw [Lib.cell_of_heap h.head]; rfl, by rw [Lib.cell_of_heap h.head]; rfl, by rw [Lib.cell_of_heap h.head]; rfl, fun i => Lib.frozen_of_heap h.head i, Lib.lt_of_heap h.head⟩

theorem nq53 (w : World) : (binOp .neq 53 .nilIface .nilIface).run Tryd.prog w = .ok (.bool false) w := Lib.run_neq_nil_nil w Tryd.underlying53

theorem method_write (a : Addr) (w : World) : (method 199 25 (.pointer (some a)) "Write").run Tryd.prog w = .ok (40, .pointer (some a)) w := by kernel_rfl

theorem cells_of_line {w : World} {g : Nat} {cur : Array Value} (hg : w.heap[g]? = some (.cells cur 5 (0, 0))) (l : Nat) :
    ∀ j v, (cur.toList.take l)[j]? = some v → w.cell? ((⟨g, 0, none⟩ : Addr).add j) = some v := Lib.cells_of_row hg l

/-- the writer empty again; what was buffered stands in the Buffer -/
def Flushed (wb rb b : Nat) (go : Option Nat) (row : Array Value) (bs : List Value) (w : World) (e : Ending) (w' : World) : Prop :=
  e = .returned .nilIface ∧ ∃ go', BW wb rb b 0 row w' ∧ Buf b go' bs w' ∧ Turned (fun k => k = wb ∨ k = b ∨ some k = go) w w' ∧ (go' = go ∨ ∃ r, go' = some r ∧ w.heap.size ≤ r)

set_option maxHeartbeats 1000000 in
theorem flush_some (wb rb b n : Nat) (go : Option Nat) (row : Array Value) (bs : List Value) (w : World) (h : BW wb rb b n row w) (hb : Buf b go bs w) (hn : 1 ≤ n) (hlim : bs.length + n ≤ 1073741824) (h1 : ∀ v ∈ bs, v.oneCell' = true) (hgw : go ≠ some wb) (hgr : go ≠ some rb) :
    Calls Tryd.prog 14 #[.pointer (some ⟨wb, 0, none⟩)] w (Flushed wb rb b go row (bs ++ row.toList.take n) w) := by
  have hnn := nq53
  have hmw := method_write
  obtain ⟨c0, c1, c2, c3, hf, hblt⟩ := h.cells
  have f2 := hf 2
  clear hf
  have hn0 : ((n : Int) == 0) = false := by simp; omega
  have hn4 := h.nle
  have hn5 : (0 : Int) ≤ (n : Int) := by omega
  have hn6 : (n : Int) ≤ 4096 := by omega
  have hlen : (row.toList.take n).length = n := by rw [List.length_take, Array.length_toList, h.size]; omega
  have HC := hide (write_any b n 4096 go bs (row.toList.take n) ⟨rb, 0, none⟩ w.drew (hb.of_blocks rfl (fun _ _ => rfl)) hlen hn hlim h.ne3 (cells_of_line h.line n) (fun v hv => h.one v (List.mem_of_mem_take hv)) h1)
  have HH := hide h
  have HB := hide hb
  clear h hb h1
  go_enter Tryd.func14, Tryd.ntmps14
  go_wp2_with fail
  go_region_held3 (fun w' => w'.cell? ⟨wb, 1, none⟩ = some (.slice (some ⟨rb, 0, none⟩) 4096 4096) ∧ w'.cell? ⟨wb, 2, none⟩ = some (.int .i64 n) ∧ w'.cell? ⟨wb, 3, none⟩ = some (.iface 25 (.pointer (some ⟨b, 0, none⟩)))) (go_keep)
      ((go_at_call 40; refine HC.out.mono ?_; rintro e w2 ⟨rfl, go', hb2, ht2, hg2⟩; have d0 := ht2.cell (a := ⟨wb, 0, none⟩) (by rintro (e | e); exact HH.out.ne2 e; exact hgw e.symm) c0; have d1 := ht2.cell (a := ⟨wb, 1, none⟩) (by rintro (e | e); exact HH.out.ne2 e; exact hgw e.symm) c1; have d2 := ht2.cell (a := ⟨wb, 2, none⟩) (by rintro (e | e); exact HH.out.ne2 e; exact hgw e.symm) c2; have d3 := ht2.cell (a := ⟨wb, 3, none⟩) (by rintro (e | e); exact HH.out.ne2 e; exact hgw e.symm) c3))
  have hTw : ¬ (wb = b ∨ some wb = go) := by rintro (e | e); exact HH.out.ne2 e; exact hgw e.symm
  have hTr : ¬ (rb = b ∨ some rb = go) := by rintro (e | e); exact HH.out.ne3 e; exact hgr e.symm
  have hhead := (ht2.block wb hblt hTw).trans HH.out.head
  have hline := (ht2.block rb (Lib.lt_of_heap HH.out.line) hTr).trans HH.out.line
  have e2 : w2.frozen? ⟨wb, 2, none⟩ = false := Lib.frozen_of_heap hhead 2
  have HE : Hid (Flushed wb rb b go row (bs ++ row.toList.take n) w (.returned .nilIface) (w2.setCell ⟨wb, 2, none⟩ (.int .i64 0))) := by
    refine ⟨rfl, go', ⟨Lib.heap_setCell_same (i := 2) hhead _, ?_, HH.out.size, HH.out.one, by omega, HH.out.ne1, HH.out.ne2, HH.out.ne3⟩, ?_, ?_, hg2⟩
    · rw [Below.heap_setCell _ _ _ _ (Ne.symm HH.out.ne1)]; exact hline
    · refine hb2.of_blocks (Below.heap_setCell _ _ _ _ (Ne.symm HH.out.ne2)) fun g hg => Below.heap_setCell _ _ _ _ ?_
      rintro rfl
      rcases hg2 with e | ⟨r, e, hr⟩
      · exact hgw (e.symm.trans hg)
      · rw [hg] at e
        simp only [Option.some.injEq] at e
        subst e
        exact absurd hr (Nat.not_le_of_lt hblt)
    · exact (((Turned.refl _ w).drew.trans ht2 (fun i hi => .inl (.inr hi))).setCell (.inl (.inl rfl)) _)
  clear hb2 ht2 hg2 hhead hline HC HB HH
  go_wp2
  go_ret
  exact HE.out

theorem flush_none (wb rb b : Nat) (row : Array Value) (w : World) (h : BW wb rb b 0 row w) :
    Calls Tryd.prog 14 #[.pointer (some ⟨wb, 0, none⟩)] w fun e w' => e = .returned .nilIface ∧ w' = w := by
  have hnn := nq53
  obtain ⟨c0, c1, c2, c3, hf, hblt⟩ := h.cells
  clear hf h
  go_enter Tryd.func14, Tryd.ntmps14
  go_wp2
  go_ret
  exact ⟨rfl, rfl⟩

set_option maxHeartbeats 400000 in
theorem avail_walk (wb rb b n : Nat) (row : Array Value) (w : World) (h : BW wb rb b n row w) :
    Calls Tryd.prog 21 #[.pointer (some ⟨wb, 0, none⟩)] w fun e w' => e = .returned (.int .i64 (4096 - n)) ∧ ∃ q, w' = w.drewN q := by
  obtain ⟨c0, c1, c2, c3, hf, hblt⟩ := h.cells
  have hn4 := h.nle
  have hw : IntKind.i64.wrap (4096 - (n : Int)) = 4096 - n := by rw [IntKind.wrap_i64]; omega
  clear hf h
  go_enter Tryd.func21, Tryd.ntmps21
  go_wp2
  go_quiet (fail)
  go_wp2
  go_ret
  exact ⟨rfl, _, rfl⟩

theorem buffered_walk (wb rb b n : Nat) (row : Array Value) (w : World) (h : BW wb rb b n row w) :
    Calls Tryd.prog 22 #[.pointer (some ⟨wb, 0, none⟩)] w fun e w' => e = .returned (.int .i64 n) ∧ w = w' := by
  obtain ⟨c0, c1, c2, c3, hf, hblt⟩ := h.cells
  clear hf h
  go_enter Tryd.func22, Tryd.ntmps22
  go_wp2
  go_ret
  exact ⟨rfl, rfl⟩
end Go.Proofs.Qxb6614306aDoor
