/-
  'Rows.FnDeltaWalkSetHeldIsSumOfHeldSaid', PROVED: the row out of the walk.
-/
import Derived.Test.Qxb6614306aDwLaw
import Derived.Test.Qxb6614306aOpen
namespace Go.Proofs.Qxb6614306a
open Go.RowKit Go.WideShapes Go.ChangeShapes Go.ChangeAt Go.Deep
set_option linter.unusedVariables false

theorem Try.cells26 : Try.prog.cellsOf 26 = 2 := by kernel_rfl
theorem Try.cells3 : Try.prog.cellsOf 3 = 1 := by kernel_rfl

theorem open_setOps {H : Type} {enc : TypeId × Value → H} {w : World} {base : Nat} {fuel : Nat} {cs : List Value} {x : DataW H × List MemPlace}
    (h : DataW.trod enc Try.prog w base (fun _ => true) true fuel 22 cs = some x) :
    ∃ (ao : Option Addr) (m c : Nat) (I : Nat → Int) (A : Nat → Option Addr) (L C : Nat → Nat) (z : Nat → Option (List Int)), cs = [.slice ao m c] ∧ (ao = none → m = 0 ∧ c = 0) ∧ m ≤ maxLen ∧
      OpsAt (fun b => b < w.heap.size) w ao m I A L C ∧ (∀ k, k < m → L k ≤ maxLen) ∧ ∀ k, k < m → BytesAt (fun b => b < w.heap.size) w (A k) (L k) (C k) (z k) := by
  rcases open_slice_pairs Try.underlying22 Try.underlying26 Try.cells26 rfl rfl Try.cells3 Try.cells24 h with ⟨hcs, _⟩ | ⟨a, len, cap, m, n, V0, V1, D0, D1, P0, P1, hcs, _, hl, hm, hmm, _, hx⟩
  · exact ⟨none, 0, 0, fun _ => 0, fun _ => none, fun _ => 0, fun _ => 0, fun _ => none, hcs, fun _ => ⟨rfl, rfl⟩, Nat.zero_le _, fun k hk => absurd hk (Nat.not_lt_zero _), fun k hk => absurd hk (Nat.not_lt_zero _), fun k hk => absurd hk (Nat.not_lt_zero _)⟩
  · simp only [if_true] at hmm
    subst hmm
    have each : ∀ i, i < len → ∃ q : Int × Option Addr × Nat × Nat × Option (List Int), w.cell? (a.add (i * 2)) = some (.int .i64 q.1) ∧ w.cell? (a.add (i * 2 + 1)) = some (.slice q.2.1 q.2.2.1 q.2.2.2.1) ∧ q.2.2.1 ≤ maxLen ∧
        BytesAt (fun b => b < w.heap.size) w q.2.1 q.2.2.1 q.2.2.2.1 q.2.2.2.2 := fun i hi => by
      obtain ⟨h0, h1, h2, h3⟩ := hx i (by omega)
      obtain ⟨q0, e0, _, _⟩ := DataW.trod_int Try.underlying3 h2
      obtain ⟨ao, n1, c1, z1, e1, hn1, hb1⟩ := open_bytes h3
      simp only [List.cons.injEq, and_true] at e0 e1
      rw [e0] at h0
      rw [e1] at h1
      exact ⟨(q0, ao, n1, c1, z1), h0, h1, hn1, hb1⟩
    obtain ⟨q, hq⟩ := choose_lt each
    refine ⟨some a, len, _, fun i => (q i).1, fun i => (q i).2.1, fun i => (q i).2.2.1, fun i => (q i).2.2.2.1, fun i => (q i).2.2.2.2, hcs, fun h => by simp at h, by omega, fun k hk => ⟨a, rfl, ?_, (hq k hk).1, (hq k hk).2.1⟩, fun k hk => (hq k hk).2.2.1, fun k hk => (hq k hk).2.2.2⟩
    have := lt_of_cell (hq k hk).1
    rwa [block_add] at this

set_option maxRecDepth 100000 in
theorem dw_lifted (os : Os) (started : os.Started) (H : Type) (enc : TypeId × Value → H) :
    ReturnsInHanded {} Try.checked os 3 .any (Rows.fnDeltaWalkSetHeldIsSumOfHeldSpec.pre6 enc Try.prog Try.f3 Rows.fnDeltaWalkSetHeldIsSumOfHeldRow.domain false) (Rows.fnDeltaWalkSetHeldIsSumOfHeldSpec.post enc Try.prog Try.f3 false true false false) := by
  refine returnsInHanded_of_change (C := Try.checked) Try.own started (by kernel_rfl) Try.func3
    (ChangeSpec.witness6 (enc := enc) (C := Try.checked) false ⟨#[], #[.int .i64 0, .slice none 0 0], []⟩ 8 (by kernel_rfl) (by kernel_rfl) (by kernel_rfl) (by kernel_rfl)) ?_
  intro W base args ds gs before hval0 hW hcnd _
  have hval : ∀ (j : Nat) t v, Try.f3.params[j]? = some t → args[j]? = some v → Value.okWide Try.prog W .any base t v := hval0
  have hW' := hW
  obtain ⟨p, q, hA0, hV, rfl, hfz, hnd⟩ := hW
  have hA : DataW.TrodAll enc Try.prog W 0 (fun _ => true) true Try.f3.params.toList args.toList ds p := hA0
  rw [Try.params3] at hA hval
  obtain ⟨v0, vs0, d0, ds0, p0, q0, hargs, rfl, rfl, h0, r0⟩ := trodAll_cons hA
  obtain ⟨v1, vs1, d1, ds1, p1, q1, rfl, rfl, rfl, h1, r1⟩ := trodAll_cons r0
  obtain ⟨rfl, rfl, rfl⟩ := trodAll_nil r1
  obtain rfl : args = #[v0, v1] := by cases args; simp_all
  obtain ⟨rfl, rfl⟩ := trodVars_none hV
  obtain ⟨a0, rfl, rfl, rfl, w0⟩ := open_int Try.underlying3 (hval 0 3 v0 rfl rfl) h0
  obtain ⟨a1, len1, cap1, rfl⟩ := okWide_slice Try.underlying22 (hval 1 22 v1 rfl rfl)
  have k1 := h1
  have lt1 : ∀ x ∈ p1, x.block < W.heap.size := by obtain ⟨m, hm⟩ := k1; exact DataW.trod_lt m _ _ _ hm
  obtain ⟨fuel, hf⟩ := h1
  obtain ⟨ao, m, c, I, A, L, C, z, hcs, hao, hm, hops, hL, hz⟩ := open_setOps hf
  simp [Value.cells] at hcs
  obtain ⟨rfl, rfl, rfl⟩ := hcs
  clear hA0 hval0
  refine (law_walk (S := fun b => b < W.heap.size) a0 _ _ _ I A L C z W hops hao hm hL (fun _ h => h) hz).mono fun e W' ⟨he, bel⟩ => ?_
  subst he
  exact ⟨_, rfl, _, _, _, [], _, [], hW', trodAll_mk1 (shut_bool Try.underlying4 _), (trodAll_cons_mk (shut_int Try.underlying3 w0) (trodAll_cons_mk (Below.trod Try.laidOut (by kernel_rfl) (of_decide_eq_true (by kernel_rfl)) k1 bel lt1) trodAll_mk0)), rfl, bel.frame _, fun h => by cases h⟩

/-- THE STATEMENT -/
theorem fnDeltaWalkSetHeldIsSumOfHeld_proved : Rows.FnDeltaWalkSetHeldIsSumOfHeldSaid :=
  OpenClaim.holds_of_wide 3 Try.f3 rfl rfl rfl rfl rfl rfl rfl ⟨rfl, rfl, rfl, rfl, rfl⟩ rfl rfl rfl rfl rfl (by kernel_rfl) Try.func3 (by kernel_rfl)
    (of_decide_eq_true (by kernel_rfl)) (by unfold Func.isWrapper; first | (rw [if_pos (by decide +kernel)]; kernel_rfl) | (rw [if_neg (by decide +kernel)]; exact ⟨rfl, rfl⟩))
    (fun os started H enc _ => dw_lifted os started H enc)
end Go.Proofs.Qxb6614306a
