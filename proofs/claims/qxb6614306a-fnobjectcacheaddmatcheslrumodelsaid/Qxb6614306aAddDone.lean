/-
  objectCache.add (26) where it takes the object in.
-/
import Derived.Test.Qxb6614306aStep
namespace Go.Proofs.Qxb6614306a
open Go.RowKit Go.WideShapes
open Go.MuLone
open Go.ChangeMaps (setBlock)
set_option linter.unusedVariables false

set_option maxHeartbeats 1200000 in
set_option maxRecDepth 100000 in
theorem add_done {Own : Nat → Prop} (cb ob len c lim nc : Nat) (ao : Option Addr) (off : Int) (es : List Ent) (w : World) (h : Kept Own cb 0 es w) (ho : Has w ob 0 (.int .i64 off)) (hc : Has w ob 2 (.slice ao len c)) (hocb : Hid (ob ≠ cb)) (hoe : Hid (ob ∉ es.map (·.e))) (hl : len ≤ 1048576) (hes : Hid (es.length ≤ 1048575)) (ht : Hid (total es ≤ 1099511627776))
    (hOwn : Hid (∀ k, w.heap.size ≤ k → Own k)) (hnc : Hid (nc = len + 128)) (hnc1 : nc ≤ 1048704)
    (hfit : nc ≤ lim) (hlim : lim < 18446744073709551616) (hin : Hid (off ∉ es.map (·.off))) : Calls Try.prog 26 #[pt cb 0, pt ob 0, .int .u64 lim, .bool true] w (Took Own cb es ob off len lim true w) := by
  have h0 := h.mu.cell
  have f0 := h.mu.frozen 0
  have k := h.lock 1
  have hcc := hc.cell
  obtain ⟨T0, hT0⟩ : ∃ T, Hid (T = total es) := ⟨_, rfl⟩
  have bT0 : T0 ≤ 1099511627776 := by rw [hT0.out]; exact ht.out
  have h2 := k.bytes.cell
  rw [← hT0.out] at h2
  have ho1 := ho.other (b' := cb) (i' := 0) (.inl (Ne.symm hocb.out)) (.int .i32 1)
  have hc1 := hc.other (b' := cb) (i' := 0) (.inl (Ne.symm hocb.out)) (.int .i32 1)
  have hoo := ho1.cell
  obtain ⟨mo, v, h3, hlk⟩ := k.look off
  have h3c := h3.cell
  have hl1 := hlk (w.setCell ⟨cb, 0, none⟩ (.int .i32 1)).drew rfl
  have hl0 := hlk (w.setCell ⟨cb, 0, none⟩ (.int .i32 1)) rfl
  rw [show decide (off ∈ es.map (·.off)) = false from decide_eq_false hin.out] at hl0 hl1
  have HK := hide k
  have HT : Hid (Turned Own w (w.setCell ⟨cb, 0, none⟩ (.int .i32 1)).drew) := (((Turned.refl _ _).setCell (.inl h.own.1) _).drew)
  have HO := hide ho1
  have HC := hide hc1
  clear h ho hc k h3 hlk ho1 hc1
  go_enter_defers Try.func26, Try.ntmps26
  go_wp2_with (first
    | (go_at_call 29; refine (cost_let ob len c nc ao _ hcc (by omega) hnc).mono ?_; rintro e w' ⟨rfl, rfl⟩)
    | (go_at_call 30; refine (lock_free Try.muLib ⟨cb, 0, none⟩ _ h0 f0).mono ?_; rintro e w' ⟨rfl, rfl⟩))
  go_region
  go_wp2
  clear h0 f0 h2 hoo hcc h3c hl1 hl0
  obtain ⟨n0, hn0⟩ : ∃ n, Hid (n = es.length) := ⟨_, rfl⟩
  go_loopg [12] n0 (fun g _ wr => g ≤ n0 ∧ Hid (g = es.length ∨ lim - nc < total (es.take (g + 1))) ∧ Hid (Kept Own cb 1 (es.take g) wr) ∧ Hid (Turned Own w wr) ∧ Hid (Has wr ob 0 (.int .i64 off)) ∧ Hid (Has wr ob 2 (.slice ao len c)))
  case atStart =>
    refine ⟨Nat.le_refl _, .inl hn0.out, ?_, HT, HO, HC⟩
    rw [hn0.out, List.take_length]
    exact HK.out.drew
  case round =>
    clear HK HT HO HC
    obtain ⟨hg, HG, HK, HT, HO, HC⟩ := hrel
    obtain ⟨T, hT⟩ : ∃ T, Hid (T = total (es.take gk)) := ⟨_, rfl⟩
    have bT : T ≤ 1099511627776 := by
      have h1 : total (es.take gk) + total (es.drop gk) = total es := by rw [← total_append, List.take_append_drop]
      have := ht.out
      have := hT.out
      omega
    have hb2 := HK.out.bytes.cell
    rw [← hT.out] at hb2
    by_cases hgt : lim < T + nc
    · have hp0 : gk ≠ 0 := by rintro rfl; have := hT.out; simp [total] at this; omega
      obtain ⟨p, rfl⟩ := Nat.exists_eq_succ_of_ne_zero hp0
      obtain ⟨⟨xe, xo, xoff, xl⟩, hx⟩ : ∃ x, es.take (p + 1) = es.take p ++ [x] := take_snoc es p (by have := hn0.out; omega)
      obtain ⟨tp, htp⟩ : ∃ t, Hid (t = total (es.take p)) := ⟨_, rfl⟩
      obtain ⟨cx, hcx⟩ : ∃ t, Hid (t = xl + 128) := ⟨_, rfl⟩
      have htc : T = tp + cx := by
        have h1 := hT.out
        rw [hx, total_append] at h1
        have := htp.out; have := hcx.out
        simp only [total] at h1
        omega
      have hK0 := HK.out
      rw [hx] at hK0
      obtain ⟨mo, hm1, hm2⟩ := hK0.map
      cases mo with
      | none =>
        have : (es.take p ++ [(⟨xe, xo, xoff, xl⟩ : Ent)]).map (·.off) = [] := hm2
        simp at this
      | some mb =>
        have HLAST : Hid (Last Own cb (es.take p) xe xo xoff xl T tp cx mb wr) := ⟨hK0, htc, htp.out, hcx.out, hm1⟩
        have hsubI : (T : Int) - (cx : Int) = (tp : Int) := by omega
        have bxl : xl ≤ 1099511627776 := by have := hcx.out; omega
        have btp : tp ≤ 1099511627776 := by omega
        have HTC := hide htc
        have hr : Ring cb ((es.take p).map (·.e) ++ [xe]) wr.drew := by
          have h1 := hK0.drew.list.ring (by simp)
          rw [List.map_append] at h1
          exact h1
        have hlen : ((es.take p).map (·.e) ++ [xe]).length ≤ 1048576 := by have := hes.out; have := hn0.out; simp; omega
        have hxv : Has wr xe 3 (.iface 47 (pt xo 0)) := hK0.val ⟨xe, xo, xoff, xl⟩ (by simp)
        have hta := assert_made xo
        have HB := hide (Back_last hr hlen)
        have HR := hide (Remove_last hr hlen hxv)
        clear hr hlen hxv hm1 hm2 hK0 htc
        have HX := hide hx
        clear hx
        go_wp2_with fail
        go_region_held3 (fun _ => True) (first | trivial | go_keep) ((first
          | (go_at_call 33; refine HB.out.mono ?_; rintro e w' ⟨rfl, h33⟩; subst h33)
          | (go_at_call 32; refine HR.out.mono ?_; rintro e w1 ⟨rfl, hpop⟩)))
        obtain ⟨o, ao', c', hc3, hco, hdel, hb2', hbf', hcx', hxcb, F1, F2, F3⟩ := HLAST.out.popped hpop
        clear hpop hb2 HB HR hta
        go_wp2_with fail
        go_region
        clear hdel hc3 hco
        obtain ⟨W2, hW2⟩ : ∃ W, Hid (W = setBlock w1.drew mb o) := ⟨_, rfl⟩
        rw [← hW2.out] at hb2' hbf' hcx'
        rw [← hW2.out]
        go_wp2_with fail
        refine with_letter (F := fun Q => Code.wp Try.prog _ Q _ _) _ ?_
        intro Q HQ
        rename_i hfl Kaft haft J Kr hJ hKr hlt hheld
        have Z1 := hide haft
        have Z2 := hide hJ
        have Z3 := hide hKr
        have Z4 := hide hgt
        have Z5 := hide hlim
        have Z6 := hide hfit
        have Z7 := hide hg
        have Z8 := hide hnc1
        have Z9 := hide hl
        clear haft hJ hKr hlt hheld hfl hp0 hgt hlim hfit hg hnc1 hl bT0
        as_aux_lemma =>
          refine wp_region_noPanic ?_
          go_region_with ((go_at_call 29; refine (cost_let xo xl c' cx ao' W2.drew hcx' (by omega) hcx).mono ?_; rintro e w' ⟨rfl, h29⟩; subst h29))
          all_goals
            refine NoPanic.normal ?_
            rw [wrap64 tp btp, HQ.out, hW2.out]
            have haft := Z1.out
            have hJ := Z2.out
            have hKr := Z3.out
            have hg := Z7.out
            clear Z1 Z2 Z3 HQ hb2' hbf' hcx' hsubI
            have R1 : Hid (Kept Own cb 1 (es.take p) ((setBlock w1.drew mb o).setCell ⟨cb, 2, none⟩ (.int .u64 (tp : Int))).drew) := F1
            have R2 : Hid (Turned Own w ((setBlock w1.drew mb o).setCell ⟨cb, 2, none⟩ (.int .u64 (tp : Int))).drew) := HT.out.trans F2.out (fun i h => .inl h)
            have hnot : ob ∉ (es.take p).map (·.e) ++ [xe] := fun hm => hoe.out (by
              have h1 : ob ∈ (es.take (p + 1)).map (·.e) := by rw [HX.out]; simpa using hm
              obtain ⟨z, hz, e⟩ := List.mem_map.1 h1
              exact List.mem_map.2 ⟨z, List.mem_of_mem_take hz, e⟩)
            have R3 : Hid (Has ((setBlock w1.drew mb o).setCell ⟨cb, 2, none⟩ (.int .u64 (tp : Int))).drew ob 0 (.int .i64 off)) := F3.out _ _ _ HO.out hocb.out hnot
            have R4 : Hid (Has ((setBlock w1.drew mb o).setCell ⟨cb, 2, none⟩ (.int .u64 (tp : Int))).drew ob 2 (.slice ao len c)) := F3.out _ _ _ HC.out hocb.out hnot
            have R5 : Hid (p = es.length ∨ lim - nc < total (es.take (p + 1))) := .inr (by have := Z4.out; have := Z6.out; have h1 : T = total (es.take (p + 1)) := hT.out; omega)
            clear F1 F2 F3 HT HO HC hnot HK HG HLAST
            go_wp2
            go_roundg p
            case measure => omega
            case rel => exact ⟨by omega, R5, R1, R2, R3, R4⟩
    · as_aux_lemma =>
        obtain ⟨ks, hks⟩ : ∃ ks, Hid (ks = es.take gk) := ⟨_, rfl⟩
        obtain ⟨T2, hT2⟩ : ∃ t, Hid (t = T + (len + 128)) := ⟨_, rfl⟩
        have hadd : (T : Int) + (nc : Int) = (T2 : Int) := by have := hT2.out; have := hnc.out; omega
        have hnl : ¬ lim < T2 := by have := hT2.out; have := hnc.out; omega
        have bT2 : T2 ≤ 2199023255552 := by have := hT2.out; have := hnc.out; omega
        have hCut : Hid (Cut es (lim - (len + 128)) gk) := by
          refine ⟨by have := hn0.out; omega, by have := hT.out; have := hT2.out; omega, ?_⟩
          rw [← hnc.out]
          exact HG.out
        have HK2 := HK.out
        rw [← hks.out] at HK2
        rw [← hks.out] at hT
        have hoek : Hid (ob ∉ ks.map (·.e)) := fun hm => hoe.out (by
          rw [hks.out] at hm
          obtain ⟨z, hz, e⟩ := List.mem_map.1 hm
          exact List.mem_map.2 ⟨z, List.mem_of_mem_take hz, e⟩)
        have hink : Hid (off ∉ ks.map (·.off)) := fun hm => hin.out (by
          rw [hks.out] at hm
          obtain ⟨z, hz, e⟩ := List.mem_map.1 hm
          exact List.mem_map.2 ⟨z, List.mem_of_mem_take hz, e⟩)
        have qnil : ∀ (w : World) (r : Option Nat), (binOp .eql 82 (.map r) (.map none)).run Try.prog w = .ok (.bool r.isNone) w := fun w r => run_eql_map_nil w _ _ _ r Try.underlying82
        obtain ⟨mo2, hm, hm2⟩ := HK2.map
        have hkl : Hid (ks.length ≤ 1048575) := by
          have h1 := hes.out
          show ks.length ≤ 1048575
          rw [hks.out, List.length_take]
          omega
        have HK3 := hide HK2
        clear HK2 hm2 hg HG HK
        cases mo2 with
        | some mb =>
          have hmc := hm.cell
          go_wp2_with fail
          clear hb2 hmc
          have s3 := hm.cell
          have s0 := HO.out.cell
          have PF := hide (push_front HK3.out.drew.list (by have := hkl.out; simp; omega) 47 (pt ob 0))
          go_region_held3 (fun W => W.cell? ⟨cb, 3, none⟩ = some (.map (some mb)) ∧ W.cell? ⟨ob, 0, none⟩ = some (.int .i64 off)) (first | exact ⟨by assumption, by assumption⟩ | go_keep) ((first
            | (go_at_call 34; refine PF.out.mono ?_; rintro e w1 ⟨x, hx, rfl, hring, hv, hwr⟩; obtain ⟨o, p1, p2, p3, p4, p5, p6, p7, P8, P9⟩ := Kept.pushed (ks' := ⟨x, ob, off, len⟩ :: ks) HK3.out hm hT.out hT2.out HO.out HC.out hocb.out hoek.out hink.out (fun i hi => hOwn.out i (Nat.le_trans HT.out.size hi)) hx (List.Perm.refl _) hring hv hwr; clear hring hv hwr)))
          clear p1 p2 p3 p4 p5 s3 s0
          go_wp2
          refine leaves_cons (f := 31) (args := #[.pointer (some ⟨cb, 0, none⟩)]) (by simp) (by simp [go_sem]) ?_
          have kk := P8.out
          refine (unlock_deferred Try.muLib ⟨cb, 0, none⟩ .returning _ kk.mu.cell (kk.mu.frozen 0)).mono ?_
          rintro e u' w'' ⟨rfl, rfl, rfl⟩
          refine ⟨_, results_tmp rfl _ _ _, rfl, gk, x, hCut.out, ?_, (HT.out.trans P9.out (fun i h => .inl h)).setCell (.inl kk.own.1) _⟩
          rw [if_pos rfl, ← hks.out]
          exact kk.lock 0
        | none =>
          have hmc := hm.cell
          have hma := (hm.alloc (.map #[] 0)).cell
          have hmf := (hm.alloc (.map #[] 0)).frozen 3
          obtain ⟨k1, k2, k3⟩ := HK3.out.mkmap hm (fun i hi => hOwn.out i (Nat.le_trans HT.out.size hi))
          obtain ⟨wm, hwm⟩ : ∃ wm, Hid (wm = (wr.alloc (.map #[] 0)).setCell ⟨cb, 3, none⟩ (.map (some wr.heap.size))) := ⟨_, rfl⟩
          obtain ⟨mb, hmb⟩ : ∃ mb, Hid (mb = wr.heap.size) := ⟨_, rfl⟩
          rw [← hwm.out] at k1 k2 k3
          rw [← hmb.out] at k2
          have KM := hide k1
          have TM : Hid (Turned Own w wm) := HT.out.trans k3 (fun i h => .inl h)
          have OM : Hid (Has wm ob 0 (.int .i64 off)) := by show Has _ _ _ _; rw [hwm.out]; exact (HO.out.alloc _).other (.inl (Ne.symm hocb.out)) _
          have CM : Hid (Has wm ob 2 (.slice ao len c)) := by show Has _ _ _ _; rw [hwm.out]; exact (HC.out.alloc _).other (.inl (Ne.symm hocb.out)) _
          have MM := hide k2
          clear k1 k2 k3 HT HO HC HK3
          have hmk := @run_makeMap Try.prog
          go_wp2_with fail
          rw [← hwm.out]
          clear hb2 hmc hma hmf hmk
          have s3 := MM.out.cell
          have s0 := OM.out.cell
          have PF := hide (push_front KM.out.drew.list (by have := hkl.out; simp; omega) 47 (pt ob 0))
          go_region_held3 (fun W => W.cell? ⟨cb, 3, none⟩ = some (.map (some mb)) ∧ W.cell? ⟨ob, 0, none⟩ = some (.int .i64 off)) (first | exact ⟨by assumption, by assumption⟩ | go_keep) ((first
            | (go_at_call 34; refine PF.out.mono ?_; rintro e w1 ⟨x, hx, rfl, hring, hv, hwr⟩; obtain ⟨o, p1, p2, p3, p4, p5, p6, p7, P8, P9⟩ := Kept.pushed (ks' := ⟨x, ob, off, len⟩ :: ks) KM.out MM.out hT.out hT2.out OM.out CM.out hocb.out hoek.out hink.out (fun i hi => hOwn.out i (Nat.le_trans TM.out.size hi)) hx (List.Perm.refl _) hring hv hwr; clear hring hv hwr)))
          clear p1 p2 p3 p4 p5 s3 s0
          go_wp2
          refine leaves_cons (f := 31) (args := #[.pointer (some ⟨cb, 0, none⟩)]) (by simp) (by simp [go_sem]) ?_
          have kk := P8.out
          refine (unlock_deferred Try.muLib ⟨cb, 0, none⟩ .returning _ kk.mu.cell (kk.mu.frozen 0)).mono ?_
          rintro e u' w'' ⟨rfl, rfl, rfl⟩
          refine ⟨_, results_tmp rfl _ _ _, rfl, gk, x, hCut.out, ?_, (TM.out.trans P9.out (fun i h => .inl h)).setCell (.inl kk.own.1) _⟩
          rw [if_pos rfl, ← hks.out]
          exact kk.lock 0
end Go.Proofs.Qxb6614306a
