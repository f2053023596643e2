/-
  FROM A READING TO 'Laid': a []AddOp that came in, whatever it shares.
-/
import Derived.Test.Qxb6614306aFront
import Derived.Test.Qxb6614306aOpen
namespace Go.Proofs.Qxb6614306a
open Go.RowKit Go.WideShapes Go.ChangeShapes Go.Deep
set_option linter.unusedVariables false

theorem Try.cells40 : Try.prog.cellsOf 40 = 4 := by kernel_rfl
theorem Try.cells2 : Try.prog.cellsOf 2 = 1 := by kernel_rfl
theorem Try.cells33 : Try.prog.cellsOf 33 = 1 := by kernel_rfl
theorem Try.cells4 : Try.prog.cellsOf 4 = 1 := by kernel_rfl

theorem nat_u64 {a : Int} (h : (Lit.int .u64 a).wf = true) : ∃ n : Nat, a = (n : Int) ∧ n < 18446744073709551616 := by
  have := bounds_u64 h
  exact ⟨a.toNat, by omega, by omega⟩

set_option maxRecDepth 100000 in
theorem open_addOps {H : Type} {enc : TypeId × Value → H} {w : World} {base : Nat} {fuel : Nat} {cs : List Value} {x : DataW H × List MemPlace}
    (h : DataW.trod enc Try.prog w base (fun _ => true) true fuel 37 cs = some x) :
    ∃ (ao : Option Addr) (n c : Nat) (I : Nat → Int) (A : Nat → Option Addr) (L C M : Nat → Nat) (R : Nat → Bool) (z : Nat → Option (List Int)), cs = [.slice ao n c] ∧ (ao = none → n = 0 ∧ c = 0) ∧ n ≤ maxLen ∧
      Laid w ao n I A L C M R ∧ (∀ k, k < n → L k ≤ maxLen) ∧ (∀ k, k < n → BytesAt (fun b => b < w.heap.size) w (A k) (L k) (C k) (z k)) ∧ ∀ k, k < n → M k < 18446744073709551616 := by
  rcases open_slice Try.underlying37 h with ⟨hcs, _⟩ | ⟨a, len, cap, m, n, D, Pl, rfl, hb, hl, hm, hmm, rfl, hx⟩
  · exact ⟨none, 0, 0, fun _ => 0, fun _ => none, fun _ => 0, fun _ => 0, fun _ => 0, fun _ => false, fun _ => none, hcs, fun _ => ⟨rfl, rfl⟩, Nat.zero_le _, fun h => absurd h (Nat.not_lt_zero _), fun k hk => absurd hk (Nat.not_lt_zero _), fun k hk => absurd hk (Nat.not_lt_zero _), fun k hk => absurd hk (Nat.not_lt_zero _)⟩
  simp only [if_true] at hmm
  subst hmm
  have each : ∀ i, i < len → ∃ q : Int × Option Addr × Nat × Nat × Option (List Int) × Nat × Bool, w.cell? (a.add (i * 4)) = some (.int .i64 q.1) ∧ w.cell? (a.add (i * 4 + 1)) = some (.slice q.2.1 q.2.2.1 q.2.2.2.1) ∧ w.cell? (a.add (i * 4 + 2)) = some (.int .u64 (q.2.2.2.2.2.1 : Nat)) ∧
      w.cell? (a.add (i * 4 + 3)) = some (.bool q.2.2.2.2.2.2) ∧ q.2.2.1 ≤ maxLen ∧ BytesAt (fun b => b < w.heap.size) w q.2.1 q.2.2.1 q.2.2.2.1 q.2.2.2.2.1 ∧ q.2.2.2.2.2.1 < 18446744073709551616 := by
    intro i hi
    obtain ⟨cs', h1, h2⟩ := hx i (by omega)
    rw [Try.cells40] at h1
    obtain ⟨_, hlen, hcell⟩ := World.cells?_some h1
    obtain ⟨xs, k, hk, hxy, _, hxl, hf⟩ := DataW.trod_struct Try.underlying40 h2
    match xs, hxl, cs', hlen with
    | [y0, y1, y2, y3], _, [v0, v1, v2, v3], _ =>
      have g0 := hf 0 _ rfl
      have g1 := hf 1 _ rfl
      have g2 := hf 2 _ rfl
      have g3 := hf 3 _ rfl
      simp [Try.cells2, Try.cells24, Try.cells33, Try.cells4] at g0 g1 g2 g3
      have e0 := hcell 0 (by omega)
      have e1 := hcell 1 (by omega)
      have e2 := hcell 2 (by omega)
      have e3 := hcell 3 (by omega)
      rw [add_add] at e0 e1 e2 e3
      simp at e0 e1 e2 e3
      obtain ⟨q0, u0, _, _⟩ := DataW.trod_int Try.underlying2 g0
      obtain ⟨ao, n1, c1, z1, u1, hn1, hb1⟩ := open_bytes g1
      obtain ⟨q2, u2, _, w2⟩ := DataW.trod_int Try.underlying33 g2
      obtain ⟨q3, u3, _⟩ := DataW.trod_bool Try.underlying4 g3
      simp only [List.cons.injEq, and_true] at u0 u1 u2 u3
      subst u0 u1 u2 u3
      obtain ⟨mm, rfl, hmm⟩ := nat_u64 w2
      exact ⟨(q0, ao, n1, c1, z1, mm, q3), e0, e1, e2, e3, hn1, hb1, hmm⟩
  obtain ⟨q, hq⟩ := choose_lt each
  refine ⟨some a, len, _, fun i => (q i).1, fun i => (q i).2.1, fun i => (q i).2.2.1, fun i => (q i).2.2.2.1, fun i => (q i).2.2.2.2.2.1, fun i => (q i).2.2.2.2.2.2, fun i => (q i).2.2.2.2.1, rfl, fun h => by simp at h, by omega, fun h0 => ?_, fun k hk => (hq k hk).2.2.2.2.1, fun k hk => (hq k hk).2.2.2.2.2.1, fun k hk => (hq k hk).2.2.2.2.2.2⟩
  obtain ⟨b, off, s⟩ := a
  have e : s = none := by simpa [Addr.add] using World.cell?_spot (hq 0 h0).1
  subst e
  refine ⟨b, off, rfl, lt_of_cell (hq 0 h0).1, fun k hk => ?_⟩
  obtain ⟨c0, c1, c2, c3, _⟩ := hq k hk
  rw [add_plain] at c0 c1 c2 c3
  exact ⟨c0, c1, c2, c3⟩
end Go.Proofs.Qxb6614306a
