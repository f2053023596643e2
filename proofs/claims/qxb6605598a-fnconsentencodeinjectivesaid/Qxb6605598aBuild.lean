/-
  A consent as a value: built, stored, loaded whole. The two bounds (14, 17).
-/
import Derived.Test.Qxb6605598aLens
import Derived.Deep.WholeRow
namespace Go.Proofs.Qxb6605598a
open Go.RowKit Go.WideShapes
open Go.Lib (byteCells)
set_option linter.unusedVariables false

theorem uncons {α : Type} {n : Nat} {d : List α} (h : d.length = n + 1) : ∃ x t, d = x :: t ∧ t.length = n := by
  cases d with
  | nil => simp at h
  | cons x t => exact ⟨x, t, rfl, by simpa using h⟩

theorem built38 (d : List UInt8) (hd : d.length = 32) (ver : Nat) (ao : Option Addr) (n c : Nat) (s : ByteArray) (room : Nat) (bo : Option Addr) (m e : Nat) :
    Try.prog.built 38 [(0, .agg (byteCells d).toArray), (1, .int .u64 ver), (2, .agg #[.slice ao n c, .string s]), (3, .int .u64 room), (4, .slice bo m e)] = some (consent d ver (.slice ao n c) s room (.slice bo m e)) := by
  obtain ⟨x0, t0, rfl, h0⟩ := uncons hd
  obtain ⟨x1, t1, rfl, h1⟩ := uncons h0
  obtain ⟨x2, t2, rfl, h2⟩ := uncons h1
  obtain ⟨x3, t3, rfl, h3⟩ := uncons h2
  obtain ⟨x4, t4, rfl, h4⟩ := uncons h3
  obtain ⟨x5, t5, rfl, h5⟩ := uncons h4
  obtain ⟨x6, t6, rfl, h6⟩ := uncons h5
  obtain ⟨x7, t7, rfl, h7⟩ := uncons h6
  obtain ⟨x8, t8, rfl, h8⟩ := uncons h7
  obtain ⟨x9, t9, rfl, h9⟩ := uncons h8
  obtain ⟨x10, t10, rfl, h10⟩ := uncons h9
  obtain ⟨x11, t11, rfl, h11⟩ := uncons h10
  obtain ⟨x12, t12, rfl, h12⟩ := uncons h11
  obtain ⟨x13, t13, rfl, h13⟩ := uncons h12
  obtain ⟨x14, t14, rfl, h14⟩ := uncons h13
  obtain ⟨x15, t15, rfl, h15⟩ := uncons h14
  obtain ⟨x16, t16, rfl, h16⟩ := uncons h15
  obtain ⟨x17, t17, rfl, h17⟩ := uncons h16
  obtain ⟨x18, t18, rfl, h18⟩ := uncons h17
  obtain ⟨x19, t19, rfl, h19⟩ := uncons h18
  obtain ⟨x20, t20, rfl, h20⟩ := uncons h19
  obtain ⟨x21, t21, rfl, h21⟩ := uncons h20
  obtain ⟨x22, t22, rfl, h22⟩ := uncons h21
  obtain ⟨x23, t23, rfl, h23⟩ := uncons h22
  obtain ⟨x24, t24, rfl, h24⟩ := uncons h23
  obtain ⟨x25, t25, rfl, h25⟩ := uncons h24
  obtain ⟨x26, t26, rfl, h26⟩ := uncons h25
  obtain ⟨x27, t27, rfl, h27⟩ := uncons h26
  obtain ⟨x28, t28, rfl, h28⟩ := uncons h27
  obtain ⟨x29, t29, rfl, h29⟩ := uncons h28
  obtain ⟨x30, t30, rfl, h30⟩ := uncons h29
  obtain ⟨x31, t31, rfl, h31⟩ := uncons h30
  obtain rfl := List.eq_nil_of_length_eq_zero h31
  kernel_rfl

theorem built35 (ao : Option Addr) (n c : Nat) (s : ByteArray) : Try.prog.built 35 [(0, .slice ao n c), (1, .string s)] = some #[.slice ao n c, .string s] := by kernel_rfl

theorem load_row {P : Program} {w : World} {b N : Nat} {c : Array Value} {t : TypeId} {fr : Nat × Nat} (h : w.heap[b]? = some (.cells c t fr)) (hn : N = c.size) :
    (loadCellsFrom ⟨b, 0, none⟩ 0 N #[]).run P w = .ok c w := by
  subst hn
  have := run_loadCells_list (P := P) w ⟨b, 0, none⟩ c.toList (fun j v hv => by
    rw [add_plain, Nat.zero_add, cell_of_row _ _ j c t fr h]
    simpa using hv)
  simpa [loadCells] using this

theorem size31 : ∃ N : Nat, Hid (N = 32) ∧ ∀ w, (sizeOf 31).run Try.prog w = .ok N w := ⟨32, rfl, fun w => Try.sizeOf31 w⟩
theorem size38 : ∃ N : Nat, Hid (N = 37) ∧ ∀ w, (sizeOf 38).run Try.prog w = .ok N w := ⟨37, rfl, fun w => Try.sizeOf38 w⟩
theorem info38 : (Try.prog.info? 38).map (·.size) = some 37 := by kernel_rfl
theorem zero38 : ∃ zs : Array Value, Hid (zs.size = 37) ∧ ∀ w, (zeroValue 38).run Try.prog w = .ok (.agg zs) w := by
  refine ⟨_, ?_, fun w => Try.zeroValue38 w⟩
  show _ = _
  rfl

theorem consent_one {d : List UInt8} (ver : Nat) (ao : Option Addr) (n c : Nat) (s : ByteArray) (room : Nat) (bo : Option Addr) (m e : Nat) : (consent d ver (.slice ao n c) s room (.slice bo m e)).all (·.oneCell') = true := by
  rw [Array.all_eq_true']
  intro v hv
  simp only [consent, List.mem_toArray, List.mem_append] at hv
  rcases hv with hv | hv
  · exact Lib.byteCells_one d v hv
  · simp at hv
    rcases hv with rfl | rfl | rfl | rfl | rfl <;> rfl

set_option maxHeartbeats 1000000 in
theorem bound5 (da : Array Value) (v1 v2 : Value) (ao bo : Option Addr) (n c m e : Nat) (s : ByteArray) (hn : n ≤ 9223372036854775807) (hm : m ≤ 9223372036854775807) (hs : s.size ≤ 9223372036854775807) (w : World) :
    Calls Try.prog 14 #[.agg da, v1, .slice ao n c, .string s, v2, .slice bo m e] w fun x w' => (∃ a : Bool, x = .returned (.bool a) ∧ (a = true → n + s.size + m ≤ 1048576)) ∧ w' = w.alloc (.cells da 31) := by
  go_enter Try.func14, Try.ntmps14
  go_wp2
  all_goals go_ret
  all_goals (refine ⟨⟨_, rfl, ?_⟩, rfl⟩)
  all_goals (intro h; first | omega | exact Bool.noConfusion h)
end Go.Proofs.Qxb6605598a
