/-
  'Rows.FnConsentEncodeInjectiveSaid', PROVED: the row out of the walk.
-/
import Derived.Test.Qxb6605598aOpen
import Derived.Test.Qxb6605598aLaw6
namespace Go.Proofs.Qxb6605598a
open Go.RowKit Go.WideShapes Go.ChangeShapes Go.ChangeAt Go.Deep
open Go.ChangeMaps (open_string shut_string)
open Go.Lib (byteCells)
set_option linter.unusedVariables false

theorem nat_u64 {a : Int} (h : (Lit.int .u64 a).wf = true) : ∃ n : Nat, a = (n : Int) ∧ n < 18446744073709551616 := by
  have := bounds_u64 h
  exact ⟨a.toNat, by omega, by omega⟩

set_option maxHeartbeats 1000000 in
set_option maxRecDepth 100000 in
theorem inj_lifted (os : Os) (started : os.Started) (H : Type) (enc : TypeId × Value → H) :
    ReturnsInHanded {} Try.checked os 6 .any (Rows.fnConsentEncodeInjectiveSpec.pre6 enc Try.prog Try.f6 Rows.fnConsentEncodeInjectiveRow.domain false) (Rows.fnConsentEncodeInjectiveSpec.post enc Try.prog Try.f6 false true false false) := by
  refine returnsInHanded_of_change (C := Try.checked) Try.own started (by kernel_rfl) Try.func6
    (ChangeSpec.witness6 (enc := enc) (C := Try.checked) false ⟨#[], #[.agg (byteCells (List.replicate 32 0)).toArray, .int .u64 0, .slice none 0 0, .string ByteArray.empty, .int .u64 0, .slice none 0 0, .agg (byteCells (List.replicate 32 0)).toArray, .int .u64 0, .slice none 0 0, .string ByteArray.empty, .int .u64 0, .slice none 0 0], []⟩ 8 (by kernel_rfl) (by kernel_rfl) (by kernel_rfl) (by kernel_rfl)) ?_
  intro W base args ds gs before hval0 hW hcnd _
  have hval : ∀ (j : Nat) t v, Try.f6.params[j]? = some t → args[j]? = some v → Value.okWide Try.prog W .any base t v := hval0
  have hW' := hW
  obtain ⟨p, q, hA0, hV, rfl, hfz, hnd⟩ := hW
  have hA : DataW.TrodAll enc Try.prog W 0 (fun _ => true) true Try.f6.params.toList args.toList ds p := hA0
  rw [Try.params6] at hA hval
  obtain ⟨v0, vs0, d0, ds0, p0, q0, hargs, rfl, rfl, h0, r0⟩ := trodAll_cons hA
  obtain ⟨v1, vs1, d1, ds1, p1, q1, rfl, rfl, rfl, h1, r1⟩ := trodAll_cons r0
  obtain ⟨v2, vs2, d2, ds2, p2, q2, rfl, rfl, rfl, h2, r2⟩ := trodAll_cons r1
  obtain ⟨v3, vs3, d3, ds3, p3, q3, rfl, rfl, rfl, h3, r3⟩ := trodAll_cons r2
  obtain ⟨v4, vs4, d4, ds4, p4, q4, rfl, rfl, rfl, h4, r4⟩ := trodAll_cons r3
  obtain ⟨v5, vs5, d5, ds5, p5, q5, rfl, rfl, rfl, h5, r5⟩ := trodAll_cons r4
  obtain ⟨v6, vs6, d6, ds6, p6, q6, rfl, rfl, rfl, h6, r6⟩ := trodAll_cons r5
  obtain ⟨v7, vs7, d7, ds7, p7, q7, rfl, rfl, rfl, h7, r7⟩ := trodAll_cons r6
  obtain ⟨v8, vs8, d8, ds8, p8, q8, rfl, rfl, rfl, h8, r8⟩ := trodAll_cons r7
  obtain ⟨v9, vs9, d9, ds9, p9, q9, rfl, rfl, rfl, h9, r9⟩ := trodAll_cons r8
  obtain ⟨v10, vs10, d10, ds10, p10, q10, rfl, rfl, rfl, h10, r10⟩ := trodAll_cons r9
  obtain ⟨v11, vs11, d11, ds11, p11, q11, rfl, rfl, rfl, h11, r11⟩ := trodAll_cons r10
  obtain ⟨rfl, rfl, rfl⟩ := trodAll_nil r11
  obtain rfl : args = #[v0, v1, v2, v3, v4, v5, v6, v7, v8, v9, v10, v11] := by cases args; simp_all
  obtain ⟨rfl, rfl⟩ := trodVars_none hV
  have k0 := h0
  have lt0 : ∀ x ∈ p0, x.block < W.heap.size := by obtain ⟨m, hm⟩ := k0; exact DataW.trod_lt m _ _ _ hm
  have k2 := h2
  have lt2 : ∀ x ∈ p2, x.block < W.heap.size := by obtain ⟨m, hm⟩ := k2; exact DataW.trod_lt m _ _ _ hm
  have k5 := h5
  have lt5 : ∀ x ∈ p5, x.block < W.heap.size := by obtain ⟨m, hm⟩ := k5; exact DataW.trod_lt m _ _ _ hm
  have k6 := h6
  have lt6 : ∀ x ∈ p6, x.block < W.heap.size := by obtain ⟨m, hm⟩ := k6; exact DataW.trod_lt m _ _ _ hm
  have k8 := h8
  have lt8 : ∀ x ∈ p8, x.block < W.heap.size := by obtain ⟨m, hm⟩ := k8; exact DataW.trod_lt m _ _ _ hm
  have k11 := h11
  have lt11 : ∀ x ∈ p11, x.block < W.heap.size := by obtain ⟨m, hm⟩ := k11; exact DataW.trod_lt m _ _ _ hm
  obtain ⟨dd0, hd0, rfl⟩ := open_array32 (hval 0 31 v0 rfl rfl) h0
  obtain ⟨a1, rfl, rfl, rfl, w1⟩ := open_int Try.underlying26 (hval 1 26 v1 rfl rfl) h1
  obtain ⟨ao2, n2, c2, rfl⟩ := okWide_slice Try.underlying22 (hval 2 22 v2 rfl rfl)
  obtain ⟨s3, rfl, rfl, rfl, hs3⟩ := open_string Try.underlying9 (hval 3 9 v3 rfl rfl) h3
  obtain ⟨a4, rfl, rfl, rfl, w4⟩ := open_int Try.underlying26 (hval 4 26 v4 rfl rfl) h4
  obtain ⟨ao5, n5, c5, rfl⟩ := okWide_slice Try.underlying22 (hval 5 22 v5 rfl rfl)
  obtain ⟨dd6, hd6, rfl⟩ := open_array32 (hval 6 31 v6 rfl rfl) h6
  obtain ⟨a7, rfl, rfl, rfl, w7⟩ := open_int Try.underlying26 (hval 7 26 v7 rfl rfl) h7
  obtain ⟨ao8, n8, c8, rfl⟩ := okWide_slice Try.underlying22 (hval 8 22 v8 rfl rfl)
  obtain ⟨s9, rfl, rfl, rfl, hs9⟩ := open_string Try.underlying9 (hval 9 9 v9 rfl rfl) h9
  obtain ⟨a10, rfl, rfl, rfl, w10⟩ := open_int Try.underlying26 (hval 10 26 v10 rfl rfl) h10
  obtain ⟨ao11, n11, c11, rfl⟩ := okWide_slice Try.underlying22 (hval 11 22 v11 rfl rfl)
  obtain ⟨x1, rfl, hx1⟩ := nat_u64 w1
  obtain ⟨f2, hf2⟩ := h2
  obtain ⟨u2, l2, e2, hl2, hla2⟩ := open_bytes hf2
  simp only [Value.cells, List.cons.injEq, and_true] at e2
  subst e2
  obtain ⟨x4, rfl, hx4⟩ := nat_u64 w4
  obtain ⟨f5, hf5⟩ := h5
  obtain ⟨u5, l5, e5, hl5, hla5⟩ := open_bytes hf5
  simp only [Value.cells, List.cons.injEq, and_true] at e5
  subst e5
  obtain ⟨x7, rfl, hx7⟩ := nat_u64 w7
  obtain ⟨f8, hf8⟩ := h8
  obtain ⟨u8, l8, e8, hl8, hla8⟩ := open_bytes hf8
  simp only [Value.cells, List.cons.injEq, and_true] at e8
  subst e8
  obtain ⟨x10, rfl, hx10⟩ := nat_u64 w10
  obtain ⟨f11, hf11⟩ := h11
  obtain ⟨u11, l11, e11, hl11, hla11⟩ := open_bytes hf11
  simp only [Value.cells, List.cons.injEq, and_true] at e11
  subst e11
  clear hA0 hval0
  unfold maxLen at hl2 hl5 hl8 hl11 hs3 hs9
  refine (law6 dd0 dd6 hd0 hd6 x1 x7 hx1 hx7 _ _ s3 s9 x4 x10 hx4 hx10 _ _ l2 l5 l8 l11 W hla2 hla5 hla8 hla11 (by omega) (by omega) (by omega) (by omega) (by omega) (by omega)).mono fun e W' ⟨he, bel⟩ => ?_
  subst he
  exact ⟨_, rfl, _, _, _, [], _, [], hW', trodAll_mk1 (shut_bool Try.underlying4 _),
    (trodAll_cons_mk (Below.trod Try.laidOut (by kernel_rfl) (of_decide_eq_true (by kernel_rfl)) k0 bel lt0)
      (trodAll_cons_mk (shut_int Try.underlying26 w1)
      (trodAll_cons_mk (Below.trod Try.laidOut (by kernel_rfl) (of_decide_eq_true (by kernel_rfl)) k2 bel lt2)
      (trodAll_cons_mk (shut_string Try.underlying9 (by unfold maxLen; omega))
      (trodAll_cons_mk (shut_int Try.underlying26 w4)
      (trodAll_cons_mk (Below.trod Try.laidOut (by kernel_rfl) (of_decide_eq_true (by kernel_rfl)) k5 bel lt5)
      (trodAll_cons_mk (Below.trod Try.laidOut (by kernel_rfl) (of_decide_eq_true (by kernel_rfl)) k6 bel lt6)
      (trodAll_cons_mk (shut_int Try.underlying26 w7)
      (trodAll_cons_mk (Below.trod Try.laidOut (by kernel_rfl) (of_decide_eq_true (by kernel_rfl)) k8 bel lt8)
      (trodAll_cons_mk (shut_string Try.underlying9 (by unfold maxLen; omega))
      (trodAll_cons_mk (shut_int Try.underlying26 w10)
      (trodAll_cons_mk (Below.trod Try.laidOut (by kernel_rfl) (of_decide_eq_true (by kernel_rfl)) k11 bel lt11)
      trodAll_mk0)))))))))))), rfl, bel.frame _, fun h => by cases h⟩

/-- THE STATEMENT -/
theorem fnConsentEncodeInjective_proved : Rows.FnConsentEncodeInjectiveSaid :=
  OpenClaim.holds_of_wide 6 Try.f6 rfl rfl rfl rfl rfl rfl rfl ⟨rfl, rfl, rfl, rfl, rfl⟩ rfl rfl rfl rfl rfl (by kernel_rfl) Try.func6 (by kernel_rfl)
    (of_decide_eq_true (by kernel_rfl)) (by unfold Func.isWrapper; first | (rw [if_pos (by decide +kernel)]; kernel_rfl) | (rw [if_neg (by decide +kernel)]; exact ⟨rfl, rfl⟩))
    (fun os started H enc _ => inj_lifted os started H enc)
end Go.Proofs.Qxb6605598a
