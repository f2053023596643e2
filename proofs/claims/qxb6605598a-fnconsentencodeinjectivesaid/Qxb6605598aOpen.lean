/-
  FROM READINGS TO WHAT THE WALKS ASK: an array of 32 bytes, a []byte that came in.
-/
import Derived.Test.Qxb6605598aLaw5
import Derived.ProofKit
import Derived.OpenShut
import Derived.ChangeOld
import Derived.Deep.Slices
namespace Go.Proofs.Qxb6605598a
open Go.RowKit Go.WideShapes Go.ChangeShapes Go.Deep
open Go.Lib (byteCells)

theorem Try.own : ownKnob Try.prog.godebug = none := by kernel_rfl
theorem Try.laidOut : laidOutB Try.prog = true := by kernel_rfl
theorem Try.cells5 : Try.prog.cellsOf 5 = 1 := by kernel_rfl
theorem Try.cells31 : Try.prog.cellsOf 31 = 32 := by kernel_rfl

theorem okWide_array {P : Program} {w : World} {r : Reach} {base : Nat} {t e : TypeId} {n : Nat} {v : Value} (ht : P.underlying t = some (.array n e)) (h : Value.okWide P w r base t v) : ∃ cs, v = .agg cs ∧ cs.size = P.cellsOf t := by
  simp only [Value.okWide, ht] at h
  obtain ⟨cs, h1, h2, _⟩ := h
  exact ⟨cs, h1, h2⟩

/-- a byte that is well formed, as a byte -/
theorem byte_of {n : Int} (h : (Lit.int .u8 n).wf = true) : ((n.toNat.toUInt8).toNat : Int) = n := by
  have hb := bounds_u8 h
  simp only [Nat.toUInt8, UInt8.toNat_ofNat']
  omega

theorem open_array32 {H : Type} {enc : TypeId × Value → H} {w : World} {base : Nat} {r : Reach} {b0 : Nat} {v : Value} {d : DataW H} {ps : List MemPlace}
    (hval : Value.okWide Try.prog w r b0 31 v) (hd : DataW.Trod enc Try.prog w base (fun _ => true) true 31 v d ps) : ∃ l : List UInt8, l.length = 32 ∧ v = .agg (byteCells l).toArray := by
  obtain ⟨cs, rfl, hs⟩ := okWide_array Try.underlying31 hval
  rw [Try.cells31] at hs
  obtain ⟨fuel, hf⟩ := hd
  obtain ⟨xs, m, _, _, _, hl, hel⟩ := DataW.trod_array Try.underlying31 hf
  have each : ∀ i, i < 32 → ∃ x : UInt8, cs[i]? = some (.int .u8 x.toNat) := fun i hi => by
    have h := hel i hi
    rw [Try.cells5, Nat.mul_one, List.getElem?_eq_getElem (by omega)] at h
    obtain ⟨n, hn, _, hw⟩ := DataW.trod_int Try.underlying5 h
    refine ⟨n.toNat.toUInt8, ?_⟩
    rw [byte_of hw]
    have e : (List.take 1 (List.drop i (Value.agg cs).cells.toList))[0]? = some (.int .u8 n) := by rw [hn]; rfl
    simpa [Value.cells, List.getElem?_take, List.getElem?_drop] using e
  obtain ⟨f, hf2⟩ := choose_lt each
  refine ⟨(List.range 32).map f, by simp, ?_⟩
  congr 1
  apply Array.ext_getElem?
  intro i
  by_cases hi : i < 32
  · rw [hf2 i hi]; simp [byteCells, hi]
  · rw [Array.getElem?_eq_none (by omega), List.getElem?_toArray, List.getElem?_eq_none (by simp [byteCells]; omega)]

theorem open_bytes {H : Type} {enc : TypeId × Value → H} {w : World} {base : Nat} {fuel : Nat} {cs : List Value} {x : DataW H × List MemPlace}
    (h : DataW.trod enc Try.prog w base (fun _ => true) true fuel 22 cs = some x) :
    ∃ (v : Value) (l : List UInt8), cs = [v] ∧ l.length ≤ maxLen ∧ AtIn w v l := by
  rcases open_ints Try.underlying22 Try.underlying5 Try.cells5 h with ⟨hcs, _⟩ | ⟨a, l, c, zs, hcs, _, hl, hm, hz, _, hcell, hwz⟩
  · exact ⟨_, [], hcs, Nat.zero_le _, .inl ⟨rfl, rfl⟩⟩
  · simp only [if_true] at hz
    have hlen : ((zs.take l).map fun n => n.toNat.toUInt8).length = l := by rw [List.length_map, List.length_take]; omega
    refine ⟨.slice (some a) l c, (zs.take l).map fun n => n.toNat.toUInt8, hcs, by omega, .inr ⟨a, c, by rw [hlen], fun i hi => ?_⟩⟩
    rw [hlen] at hi
    rw [hcell i (by omega)]
    have hzi : i < zs.length := by omega
    have hw := hwz zs[i] (List.getElem_mem hzi)
    simp only [List.getElem_map, List.getElem_take, byte_of hw]
    simp [hzi]
end Go.Proofs.Qxb6605598a
