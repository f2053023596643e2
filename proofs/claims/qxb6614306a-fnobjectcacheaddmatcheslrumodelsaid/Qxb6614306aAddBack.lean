/-
  objectCache.add (26) where it takes an object in that is not read (last).
-/
import Derived.Test.Qxb6614306aStep
namespace Go.Proofs.Qxb6614306a
open Go.RowKit Go.WideShapes
open Go.MuLone
open Go.ChangeMaps (setBlock)
set_option linter.unusedVariables false

set_option maxHeartbeats 1200000 in
set_option maxRecDepth 100000 in
theorem add_back {Own : Nat → Prop} (cb ob len c lim nc : Nat) (ao : Option Addr) (off : Int) (es : List Ent) (w : World) (h : Kept Own cb 0 es w) (ho : Has w ob 0 (.int .i64 off)) (hc : Has w ob 2 (.slice ao len c)) (hocb : Hid (ob ≠ cb)) (hoe : Hid (ob ∉ es.map (·.e))) (hl : len ≤ 1048576) (hes : Hid (es.length ≤ 1048575)) (ht : Hid (total es ≤ 1099511627776))
    (hOwn : Hid (∀ k, w.heap.size ≤ k → Own k)) (hnc : Hid (nc = len + 128)) (hnc1 : nc ≤ 1048704)
    (hfit : nc ≤ lim) (hlim : lim < 18446744073709551616) (hin : Hid (off ∉ es.map (·.off))) (hroom : Hid (total es + nc ≤ lim)) : Calls Try.prog 26 #[pt cb 0, pt ob 0, .int .u64 lim, .bool false] w (Took Own cb es ob off len lim false w) := by
  have h0 := h.mu.cell
  have f0 := h.mu.frozen 0
  have k := h.lock 1
  have hcc := hc.cell
  obtain ⟨T0, hT0⟩ : ∃ T, Hid (T = total es) := ⟨_, rfl⟩
  have bT0 : T0 ≤ 1099511627776 := by rw [hT0.out]; exact ht.out
  have hrm : ¬ lim < T0 + nc := by have := hroom.out; have := hT0.out; omega
  have h2 := k.bytes.cell
  rw [← hT0.out] at h2
  have ho1 := ho.other (b' := cb) (i' := 0) (.inl (Ne.symm hocb.out)) (.int .i32 1)
  have hc1 := hc.other (b' := cb) (i' := 0) (.inl (Ne.symm hocb.out)) (.int .i32 1)
  have hoo := ho1.cell
  obtain ⟨mo, v, h3, hlk⟩ := k.look off
  have h3c := h3.cell
  have hl1 := hlk (w.setCell ⟨cb, 0, none⟩ (.int .i32 1)).drew rfl
  have hl0 := hlk (w.setCell ⟨cb, 0, none⟩ (.int .i32 1)) rfl
  rw [show decide (off ∈ es.map (·.off)) = false from decide_eq_false hin.out] at hl0 hl1
  have HK := hide k
  have HT : Hid (Turned Own w (w.setCell ⟨cb, 0, none⟩ (.int .i32 1)).drew) := (((Turned.refl _ _).setCell (.inl h.own.1) _).drew)
  have HO := hide ho1
  have HC := hide hc1
  clear h ho hc k h3 hlk ho1 hc1
  go_enter_defers Try.func26, Try.ntmps26
  go_wp2_with (first
    | (go_at_call 29; refine (cost_let ob len c nc ao _ hcc (by omega) hnc).mono ?_; rintro e w' ⟨rfl, rfl⟩)
    | (go_at_call 30; refine (lock_free Try.muLib ⟨cb, 0, none⟩ _ h0 f0).mono ?_; rintro e w' ⟨rfl, rfl⟩))
  go_region
  go_wp2
  clear h0 f0 h2 hoo hcc h3c hl1 hl0
  go_loopg [12] 0 (fun g _ wr => Hid (Kept Own cb 1 es wr) ∧ Hid (Turned Own w wr) ∧ Hid (Has wr ob 0 (.int .i64 off)) ∧ Hid (Has wr ob 2 (.slice ao len c)))
  case atStart => exact ⟨HK.out.drew, HT, HO, HC⟩
  case round =>
    clear HK HT HO HC
    obtain ⟨HK, HT, HO, HC⟩ := hrel
    obtain ⟨T, hT⟩ : ∃ T, Hid (T = total es) := ⟨_, rfl⟩
    have bT : T ≤ 1099511627776 := by rw [hT.out]; exact ht.out
    have hb2 := HK.out.bytes.cell
    rw [← hT.out] at hb2
    have hgt : ¬ lim < T + nc := by have := hroom.out; have := hT.out; omega
    as_aux_lemma =>
        obtain ⟨ks, hks⟩ : ∃ ks, Hid (ks = es) := ⟨_, rfl⟩
        obtain ⟨T2, hT2⟩ : ∃ t, Hid (t = T + (len + 128)) := ⟨_, rfl⟩
        have hadd : (T : Int) + (nc : Int) = (T2 : Int) := by have := hT2.out; have := hnc.out; omega
        have hnl : ¬ lim < T2 := by have := hT2.out; have := hnc.out; omega
        have bT2 : T2 ≤ 2199023255552 := by have := hT2.out; have := hnc.out; omega
        have hCut : Hid (Cut es (lim - (len + 128)) es.length) := by
          refine ⟨Nat.le_refl _, ?_, .inl rfl⟩
          rw [List.take_length]
          have := hroom.out; have := hnc.out; have := hT2.out
          omega
        have HK2 := HK.out
        rw [← hks.out] at HK2
        rw [← hks.out] at hT
        have hoek : Hid (ob ∉ ks.map (·.e)) := fun hm => hoe.out (by
          rw [hks.out] at hm
          exact hm)
        have hink : Hid (off ∉ ks.map (·.off)) := fun hm => hin.out (by
          rw [hks.out] at hm
          exact hm)
        have qnil : ∀ (w : World) (r : Option Nat), (binOp .eql 82 (.map r) (.map none)).run Try.prog w = .ok (.bool r.isNone) w := fun w r => run_eql_map_nil w _ _ _ r Try.underlying82
        obtain ⟨mo2, hm, hm2⟩ := HK2.map
        have hkl : Hid (ks.length ≤ 1048575) := by
          have h1 := hes.out
          show ks.length ≤ 1048575
          rw [hks.out]
          exact h1
        have HK3 := hide HK2
        clear HK2 hm2 HK
        cases mo2 with
        | some mb =>
          have hmc := hm.cell
          go_wp2_with fail
          clear hb2 hmc
          have s3 := hm.cell
          have s0 := HO.out.cell
          have PF := hide (push_back HK3.out.drew.list (by have := hkl.out; simp; omega) 47 (pt ob 0))
          go_region_held3 (fun W => W.cell? ⟨cb, 3, none⟩ = some (.map (some mb)) ∧ W.cell? ⟨ob, 0, none⟩ = some (.int .i64 off)) (first | exact ⟨by assumption, by assumption⟩ | go_keep) ((first
            | (go_at_call 35; refine PF.out.mono ?_; rintro e w1 ⟨x, hx, rfl, hring, hv, hwr⟩; obtain ⟨o, p1, p2, p3, p4, p5, p6, p7, P8, P9⟩ := Kept.pushed (ks' := ks ++ [⟨x, ob, off, len⟩]) HK3.out hm hT.out hT2.out HO.out HC.out hocb.out hoek.out hink.out (fun i hi => hOwn.out i (Nat.le_trans HT.out.size hi)) hx (List.perm_append_singleton _ _) (by rw [List.map_append]; exact hring) hv hwr; clear hring hv hwr)))
          clear p1 p2 p3 p4 p5 s3 s0
          go_wp2
          refine leaves_cons (f := 31) (args := #[.pointer (some ⟨cb, 0, none⟩)]) (by simp) (by simp [go_sem]) ?_
          have kk := P8.out
          refine (unlock_deferred Try.muLib ⟨cb, 0, none⟩ .returning _ kk.mu.cell (kk.mu.frozen 0)).mono ?_
          rintro e u' w'' ⟨rfl, rfl, rfl⟩
          refine ⟨_, results_tmp rfl _ _ _, rfl, es.length, x, hCut.out, ?_, (HT.out.trans P9.out (fun i h => .inl h)).setCell (.inl kk.own.1) _⟩
          rw [if_neg (by decide), List.take_length, ← hks.out]
          exact kk.lock 0
        | none =>
          have hmc := hm.cell
          have hma := (hm.alloc (.map #[] 0)).cell
          have hmf := (hm.alloc (.map #[] 0)).frozen 3
          obtain ⟨k1, k2, k3⟩ := HK3.out.mkmap hm (fun i hi => hOwn.out i (Nat.le_trans HT.out.size hi))
          obtain ⟨wm, hwm⟩ : ∃ wm, Hid (wm = (wr.alloc (.map #[] 0)).setCell ⟨cb, 3, none⟩ (.map (some wr.heap.size))) := ⟨_, rfl⟩
          obtain ⟨mb, hmb⟩ : ∃ mb, Hid (mb = wr.heap.size) := ⟨_, rfl⟩
          rw [← hwm.out] at k1 k2 k3
          rw [← hmb.out] at k2
          have KM := hide k1
          have TM : Hid (Turned Own w wm) := HT.out.trans k3 (fun i h => .inl h)
          have OM : Hid (Has wm ob 0 (.int .i64 off)) := by show Has _ _ _ _; rw [hwm.out]; exact (HO.out.alloc _).other (.inl (Ne.symm hocb.out)) _
          have CM : Hid (Has wm ob 2 (.slice ao len c)) := by show Has _ _ _ _; rw [hwm.out]; exact (HC.out.alloc _).other (.inl (Ne.symm hocb.out)) _
          have MM := hide k2
          clear k1 k2 k3 HT HO HC HK3
          have hmk := @run_makeMap Try.prog
          go_wp2_with fail
          rw [← hwm.out]
          clear hb2 hmc hma hmf hmk
          have s3 := MM.out.cell
          have s0 := OM.out.cell
          have PF := hide (push_back KM.out.drew.list (by have := hkl.out; simp; omega) 47 (pt ob 0))
          go_region_held3 (fun W => W.cell? ⟨cb, 3, none⟩ = some (.map (some mb)) ∧ W.cell? ⟨ob, 0, none⟩ = some (.int .i64 off)) (first | exact ⟨by assumption, by assumption⟩ | go_keep) ((first
            | (go_at_call 35; refine PF.out.mono ?_; rintro e w1 ⟨x, hx, rfl, hring, hv, hwr⟩; obtain ⟨o, p1, p2, p3, p4, p5, p6, p7, P8, P9⟩ := Kept.pushed (ks' := ks ++ [⟨x, ob, off, len⟩]) KM.out MM.out hT.out hT2.out OM.out CM.out hocb.out hoek.out hink.out (fun i hi => hOwn.out i (Nat.le_trans TM.out.size hi)) hx (List.perm_append_singleton _ _) (by rw [List.map_append]; exact hring) hv hwr; clear hring hv hwr)))
          clear p1 p2 p3 p4 p5 s3 s0
          go_wp2
          refine leaves_cons (f := 31) (args := #[.pointer (some ⟨cb, 0, none⟩)]) (by simp) (by simp [go_sem]) ?_
          have kk := P8.out
          refine (unlock_deferred Try.muLib ⟨cb, 0, none⟩ .returning _ kk.mu.cell (kk.mu.frozen 0)).mono ?_
          rintro e u' w'' ⟨rfl, rfl, rfl⟩
          refine ⟨_, results_tmp rfl _ _ _, rfl, es.length, x, hCut.out, ?_, (TM.out.trans P9.out (fun i h => .inl h)).setCell (.inl kk.own.1) _⟩
          rw [if_neg (by decide), List.take_length, ← hks.out]
          exact kk.lock 0
end Go.Proofs.Qxb6614306a
