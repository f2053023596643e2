/-
  'Rows.FnIdxWriterPut32PairsAgreeWithPut64CardSaid', PROVED: the row out of the walk; the card out of the row and the given tie.
-/
import Derived.Test.Qxb6614306aDoorL64
import Derived.Test.Qxb6614306aDoorRow32
namespace Go.Proofs.Qxb6614306aDoor
open Go.RowKit Go.WideShapes Go.ChangeShapes Go.ChangeAt
set_option linter.unusedVariables false

theorem Tryd.cells35 : Tryd.prog.cellsOf 35 = 1 := by kernel_rfl

/-- from the reading to what the walk asks -/
theorem open_u64s {H : Type} {enc : TypeId × Value → H} {w : World} {base fuel : Nat} {a0 : Option Addr} {len0 cap0 : Nat} {x : DataW H × List MemPlace}
    (h : DataW.trod enc Tryd.prog w base (fun _ => true) true fuel 33 [.slice a0 len0 cap0] = some x) :
    len0 ≤ maxLen ∧ ∃ V : Nat → Nat, (∀ k, V k < 18446744073709551616) ∧ ∀ k, k < len0 → ∃ x, a0 = some x ∧ x.block < w.heap.size ∧ w.cell? (x.add k) = some (.int .u64 (V k)) := by
  rcases open_ints Tryd.underlying33 Tryd.underlying35 Tryd.cells35 h with ⟨hcs, _⟩ | ⟨a, l, c, zs, hcs, _, hl, hm, hz, _, hcell, hwz⟩
  · simp only [List.cons.injEq, Value.slice.injEq, and_true] at hcs
    obtain ⟨rfl, rfl, rfl⟩ := hcs
    exact ⟨Nat.zero_le _, fun _ => 0, fun _ => Nat.zero_lt_succ _, fun k hk => absurd hk (Nat.not_lt_zero _)⟩
  · simp only [List.cons.injEq, Value.slice.injEq, and_true] at hcs
    obtain ⟨rfl, rfl, rfl⟩ := hcs
    simp only [if_true] at hz
    have hb : ∀ k, k < zs.length → 0 ≤ zs.getD k 0 ∧ zs.getD k 0 < 18446744073709551616 := fun k hk => by
      have hmem : zs.getD k 0 ∈ zs := by simp [List.getD, hk]
      have := hwz _ hmem
      simp [Lit.wf, IntKind.min, IntKind.max, IntKind.signed, IntKind.bits] at this
      rw [List.getD_eq_getElem?_getD]
      omega
    refine ⟨by omega, fun k => if k < zs.length then (zs.getD k 0).toNat else 0, fun k => ?_, fun k hk => ⟨a, rfl, ?_, ?_⟩⟩
    · show (if k < zs.length then (zs.getD k 0).toNat else 0) < 18446744073709551616
      split
      · have := hb k ‹_›; omega
      · omega
    · have hc := hcell k (by omega)
      have : (a.add k).block < w.heap.size := by
        cases hb : w.heap[(a.add k).block]? with
        | none => simp [World.cell?, hb] at hc
        | some o => exact (Array.getElem?_eq_some_iff.1 hb).1
      have e : (a.add k).block = a.block := by unfold Addr.add; split <;> rfl
      rwa [e] at this
    · rw [hcell k (by omega)]
      have := hb k (by omega)
      show _ = some (Value.int .u64 ((if k < zs.length then (zs.getD k 0).toNat else 0 : Nat) : Int))
      rw [if_pos (by omega), Int.toNat_of_nonneg this.1]

set_option maxRecDepth 100000 in
theorem lifted64 (os : Os) (started : os.Started) (H : Type) (enc : TypeId × Value → H) :
    ReturnsInHanded {} Tryd.checked os 4 .any (fun w args => (Rows.fnIdxWriterPut32PairsAgreeWithPut64Spec.pre enc Tryd.prog Tryd.f4 [] false w args ∧ laidMet Tryd.prog [("io.ErrShortWrite", Rows.laid_io_ErrShortWrite)] w) ∧ sizedMet enc Tryd.prog Tryd.f4 (OpenSpec.ofChange Rows.fnIdxWriterPut32PairsAgreeWithPut64Spec) false w args)
      (Rows.fnIdxWriterPut32PairsAgreeWithPut64Spec.post enc Tryd.prog Tryd.f4 false true false false) := by
  refine returnsInHanded_of_change_and (C := Tryd.checked) (X := fun w _ => laidMet Tryd.prog [("io.ErrShortWrite", Rows.laid_io_ErrShortWrite)] w) (fun _ _ _ hh h => h.of_heap hh) Tryd.own started (by kernel_rfl) Tryd.func4
    (ChangeSpec.witness_at (enc := enc) (C := Tryd.checked) (os := os) (X := fun w _ => laidMet Tryd.prog [("io.ErrShortWrite", Rows.laid_io_ErrShortWrite)] w) false _ #[.slice none 0 0] 8 rfl (by kernel_rfl) (by kernel_rfl) (by kernel_rfl) (by kernel_rfl) (by kernel_rfl) (laid_met os _)) ?_
  intro W base args ds gs before hval0 hW _ _ hL _
  have hval : ∀ (j : Nat) t v, Tryd.f4.params[j]? = some t → args[j]? = some v → Value.okWide Tryd.prog W .any base t v := hval0
  have hW' := hW
  obtain ⟨p, q, hA0, hV, rfl, hfz, hnd⟩ := hW
  have hA : DataW.TrodAll enc Tryd.prog W 0 (fun _ => true) true Tryd.f4.params.toList args.toList ds p := hA0
  rw [Tryd.params4] at hA hval
  obtain ⟨v0, vs0, d0, ds0, p0, q0, hargs, rfl, rfl, h0, r0⟩ := trodAll_cons hA
  obtain ⟨rfl, rfl, rfl⟩ := trodAll_nil r0
  obtain rfl : args = #[v0] := by cases args; simp_all
  obtain ⟨rfl, rfl⟩ := trodVars_none hV
  obtain ⟨a0, len0, cap0, rfl⟩ := okWide_slice Tryd.underlying33 (hval 0 33 v0 rfl rfl)
  have k0 := h0
  have lt0 : ∀ x ∈ p0, x.block < W.heap.size := by obtain ⟨m, hm⟩ := k0; exact DataW.trod_lt m _ _ _ hm
  obtain ⟨fuel, hf⟩ := h0
  obtain ⟨hm, V, hV1, hV2⟩ := open_u64s (by simpa [Value.cells] using hf)
  clear hA0 hval0
  refine (law64_walk a0 len0 cap0 V W hm hV1 hV2).mono fun e W' ⟨he, bel⟩ => ?_
  subst he
  exact ⟨_, rfl, _, _, _, [], _, [], hW', trodAll_mk1 (shut_bool Tryd.underlying4 _), (trodAll_cons_mk (Below.trod Tryd.laidOut (by kernel_rfl) (of_decide_eq_true (by kernel_rfl)) k0 bel lt0) trodAll_mk0), rfl, bel.frame _, fun h => by cases h⟩

theorem row64 : Rows.FnIdxWriterPut32PairsAgreeWithPut64Said :=
  OpenClaim.holds_of_wide 4 Tryd.f4 rfl rfl rfl rfl rfl rfl rfl ⟨rfl, rfl, rfl, rfl, rfl⟩ rfl rfl rfl rfl rfl (by kernel_rfl) Tryd.func4 (by kernel_rfl)
    (of_decide_eq_true (by kernel_rfl)) (by unfold Func.isWrapper; rw [if_neg (of_decide_eq_false (by kernel_rfl))]; exact ⟨rfl, rfl⟩)
    (fun os started H enc _ => lifted64 os started H enc)

/-- THE STATEMENT -/
theorem fnIdxWriterPut32PairsAgreeWithPut64_card : Rows.FnIdxWriterPut32PairsAgreeWithPut64CardSaid :=
  Claim7.holds_tied_plain_at .later [] [.sentinel] true (true, "bbe948ab899cd683d75fefe668bfbad9e5a89606a08d49739a5f8ea157627e38") true
    row64 (fun _ h => by cases h) (by kernel_rfl) (fun _ h => by cases h) fnIdxWriterPut32PairsAgreeWithPut64_row_tie rfl ⟨rfl, rfl⟩ (by kernel_rfl) rfl
    (fun f fn hf hfn => by
      obtain rfl : f = 4 := Option.some.inj ((show Tryd.prog.funcNamed Rows.fnIdxWriterPut32PairsAgreeWithPut64Row.func = some 4 by kernel_rfl).symm.trans hf) |>.symm
      obtain rfl : fn = Tryd.f4 := (Option.some.inj (Tryd.func4.symm.trans hfn)).symm
      exact ⟨by kernel_rfl, fun j t ht => by
        rw [Tryd.params4] at ht
        have h3 : t = 33 := by
          rcases j with _ | j
          · simpa using ht.symm
          · simp at ht
        subst h3
        exact (show Tryd.prog.wantsStandIn 33 = false by kernel_rfl)⟩)
    (by kernel_rfl)
end Go.Proofs.Qxb6614306aDoor
