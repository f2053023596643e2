/-
  FROM A READING TO 'BytesAt': a []byte that came in, whatever it shares.
-/
import Derived.Test.Qxb6614306aBytes
import Derived.ProofKit
import Derived.OpenShut
import Derived.ChangeOld
import Derived.Deep.Slices
import Derived.Deep.SlicePairs
namespace Go.Proofs.Qxb6614306a
open Go.RowKit Go.WideShapes Go.ChangeShapes Go.Deep

theorem Try.own : ownKnob Try.prog.godebug = none := by kernel_rfl
theorem Try.laidOut : laidOutB Try.prog = true := by kernel_rfl
theorem Try.cells5 : Try.prog.cellsOf 5 = 1 := by kernel_rfl
theorem Try.cells24 : Try.prog.cellsOf 24 = 1 := by kernel_rfl

theorem lt_of_cell {w : World} {a : Addr} {v : Value} (h : w.cell? a = some v) : a.block < w.heap.size := by
  cases hb : w.heap[a.block]? with
  | none => simp [World.cell?, hb] at h
  | some o => exact (Array.getElem?_eq_some_iff.1 hb).1

theorem block_add (a : Addr) (i : Nat) : (a.add i).block = a.block := by unfold Addr.add; split <;> rfl

theorem open_bytes {H : Type} {enc : TypeId × Value → H} {w : World} {base : Nat} {fuel : Nat} {cs : List Value} {x : DataW H × List MemPlace}
    (h : DataW.trod enc Try.prog w base (fun _ => true) true fuel 24 cs = some x) :
    ∃ (ao : Option Addr) (n c : Nat) (z : Option (List Int)), cs = [.slice ao n c] ∧ n ≤ maxLen ∧ BytesAt (fun b => b < w.heap.size) w ao n c z := by
  rcases open_ints Try.underlying24 Try.underlying5 Try.cells5 h with ⟨hcs, _⟩ | ⟨a, l, c, zs, hcs, _, hl, hm, hz, _, hcell, hwz⟩
  · exact ⟨none, 0, 0, none, hcs, Nat.zero_le _, rfl, rfl, rfl⟩
  · simp only [if_true] at hz
    have hlen : (zs.take l).length = l := by rw [List.length_take]; omega
    refine ⟨some a, l, c, some (zs.take l), hcs, by omega, hlen.symm, a, rfl, fun i hi => ?_⟩
    rw [hlen] at hi
    have hc := hcell i (by omega)
    refine ⟨by have := lt_of_cell hc; rwa [block_add] at this, ?_⟩
    rw [hc]
    simp [hi]
end Go.Proofs.Qxb6614306a
