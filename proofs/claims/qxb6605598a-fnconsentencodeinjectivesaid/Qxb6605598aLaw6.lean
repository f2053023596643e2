/-
  FnConsentEncodeInjective (6), walked.
-/
import Derived.Test.Qxb6605598aLaw5
import Derived.Stop.BytesEq
namespace Go.Proofs.Qxb6605598a
open Go.RowKit Go.WideShapes
open Go.Lib (byteCells)
set_option linter.unusedVariables false

set_option maxHeartbeats 2000000 in
theorem bound6 (da db : Array Value) (v1 v2 u1 u2 : Value) (ao bo co do_ : Option Addr) (n c m e n' c' m' e' : Nat) (s s' : ByteArray) (hn : n ≤ 9223372036854775807) (hm : m ≤ 9223372036854775807) (hs : s.size ≤ 9223372036854775807)
    (hn' : n' ≤ 9223372036854775807) (hm' : m' ≤ 9223372036854775807) (hs' : s'.size ≤ 9223372036854775807) (w : World) :
    Calls Try.prog 17 #[.agg da, v1, .slice ao n c, .string s, v2, .slice bo m e, .agg db, u1, .slice co n' c', .string s', u2, .slice do_ m' e'] w
      fun x w' => (∃ a : Bool, x = .returned (.bool a) ∧ (a = true → n + s.size + m + n' + s'.size + m' ≤ 1048576)) ∧ w' = (w.alloc (.cells da 31)).alloc (.cells db 31) := by
  go_enter Try.func17, Try.ntmps17
  go_wp2
  all_goals go_ret
  all_goals (refine ⟨⟨_, rfl, ?_⟩, rfl⟩)
  all_goals (intro h; first | omega | exact Bool.noConfusion h)

theorem enc_small {v r k a g : Nat} (hv : v < 18446744073709551616) (hr : r < 18446744073709551616) (hk : k ≤ 1048576) (ha : a ≤ 1048576) (hg : g ≤ 1048576) :
    flen 32 + (1 + ulen v) + flen (flen k + flen a) + (1 + ulen r) + flen g ≤ 100000000 := by
  have := ulen_le hv
  have := ulen_le hr
  have := ulen_le (x := 32) (by omega)
  have := ulen_le (x := k) (by omega)
  have := ulen_le (x := a) (by omega)
  have := ulen_le (x := g) (by omega)
  have h2 : flen k + flen a ≤ 2200000 := by unfold flen; omega
  have h3 : flen (flen k + flen a) ≤ 3000000 := by
    have := ulen_le (x := flen k + flen a) (by omega)
    show 1 + ulen (flen k + flen a) + (flen k + flen a) ≤ 3000000
    omega
  have h4 : flen 32 ≤ 100 := by unfold flen; omega
  have h5 : flen g ≤ 1050000 := by unfold flen; omega
  omega

theorem bytes_inj {a b : ByteArray} (h : a.data.toList = b.data.toList) : a = b := by
  cases a; cases b
  simp only [ByteArray.mk.injEq]
  exact Array.toList_inj.1 h

theorem list_inj {a b : ByteArray} (h : a.toList = b.toList) : a = b := by
  rw [ByteArray.toList_eq, ByteArray.toList_eq] at h
  exact bytes_inj h

/-- '==' on two arrays of 32 bytes -/
theorem eql31 (w : World) (l m : List UInt8) (hl : l.length = 32) (hm : m.length = 32) (a : Bool) (ha : a = true ↔ l = m) :
    (Op.equalIn 10000 31 (.agg (byteCells l).toArray) (.agg (byteCells m).toArray)).run Try.prog w = .ok a w := by
  have h := run_equalIn_bytes (P := Try.prog) w 9998 31 5 32 Try.underlying31 Try.underlying5 (fun w => Try.sizeOf5 w) l m hl hm
  have e : (l == m) = a := by
    rw [Bool.eq_iff_iff, ha]
    simp
  rw [e] at h
  exact h

attribute [-go_sem] Instr.build in
attribute [-simp] Try.sizeOf31 Try.sizeOf38 Try.typeInfo31 Try.typeInfo38 Try.zeroValue38 in
set_option maxHeartbeats 4000000 in
set_option maxRecDepth 100000 in
theorem law6 (d d' : List UInt8) (hd : Hid (d.length = 32)) (hd' : Hid (d'.length = 32)) (ver ver' : Nat) (hver : ver < 18446744073709551616) (hver' : ver' < 18446744073709551616) (kv kv' : Value) (s s' : ByteArray)
    (room room' : Nat) (hroom : room < 18446744073709551616) (hroom' : room' < 18446744073709551616) (gv gv' : Value) (k g k' g' : List UInt8) (w : World)
    (hk : AtIn w kv k) (hg : AtIn w gv g) (hk' : AtIn w kv' k') (hg' : AtIn w gv' g') (hkl : k.length ≤ 9223372036854775807) (hgl : g.length ≤ 9223372036854775807) (hsl : s.size ≤ 9223372036854775807)
    (hkl' : k'.length ≤ 9223372036854775807) (hgl' : g'.length ≤ 9223372036854775807) (hsl' : s'.size ≤ 9223372036854775807) :
    Calls Try.prog 6 #[.agg (byteCells d).toArray, .int .u64 ver, kv, .string s, .int .u64 room, gv, .agg (byteCells d').toArray, .int .u64 ver', kv', .string s', .int .u64 room', gv'] w fun e w' => e = .returned (.bool true) ∧ Below w.heap.size w w' := by
  obtain ⟨da, hda⟩ : ∃ da, Hid (da = (byteCells d).toArray) := ⟨_, rfl⟩
  obtain ⟨db, hdb⟩ : ∃ da, Hid (da = (byteCells d').toArray) := ⟨_, rfl⟩
  rw [← hda.out, ← hdb.out]
  have hdas : Hid (da.size = 32) := by show da.size = 32; rw [hda.out]; simp [byteCells, hd.out]
  have hdbs : Hid (db.size = 32) := by show db.size = 32; rw [hdb.out]; simp [byteCells, hd'.out]
  obtain ⟨N, hN, hsz⟩ := size31
  obtain ⟨M, hM, hsz8⟩ := size38
  obtain ⟨ao, kn, kc, rfl, hkn⟩ := hk.form
  obtain ⟨bo, gn, gc, rfl, hgn⟩ := hg.form
  obtain ⟨ao', kn', kc', rfl, hkn'⟩ := hk'.form
  obtain ⟨bo', gn', gc', rfl, hgn'⟩ := hg'.form
  obtain ⟨w0, hw0⟩ : ∃ w0, Hid (w0 = (w.alloc (.cells da 31)).alloc (.cells db 31)) := ⟨_, rfl⟩
  have z0 : Hid (w0.heap.size = w.heap.size + 2) := by show _ = _; rw [hw0.out]; simp
  have r0 : Hid (w0.heap[w.heap.size]? = some (.cells da 31 (0, 0))) := by
    show _ = _
    rw [hw0.out, Below.heap_alloc _ _ _ (by simp)]
    exact Go.Deep.blk_alloc_new _ _
  have r0' : Hid (w0.heap[w.heap.size + 1]? = some (.cells db 31 (0, 0))) := by
    show _ = _
    rw [hw0.out]
    have := Go.Deep.blk_alloc_new (w.alloc (.cells da 31)) (.cells db 31)
    simpa using this
  have BW : Hid (Below w.heap.size w w0) := by show Below _ _ _; rw [hw0.out]; exact ((Below.refl _ w).alloc (Nat.le_refl _) _).alloc (by simp) _
  have hld : (loadCellsFrom ⟨w.heap.size, 0, none⟩ 0 N #[]).run Try.prog ((w.alloc (.cells da 31)).alloc (.cells db 31)) = .ok da ((w.alloc (.cells da 31)).alloc (.cells db 31)) := load_row (by rw [← hw0.out]; exact r0.out) (by rw [hN.out, hdas.out])
  have hld' : (loadCellsFrom ⟨w.heap.size + 1, 0, none⟩ 0 N #[]).run Try.prog ((w.alloc (.cells da 31)).alloc (.cells db 31)) = .ok db ((w.alloc (.cells da 31)).alloc (.cells db 31)) := load_row (by rw [← hw0.out]; exact r0'.out) (by rw [hN.out, hdbs.out])
  have HK := hide hk
  have HG := hide hg
  have HK' := hide hk'
  have HG' := hide hg'
  clear hk hg hk' hg'
  go_enter Try.func6, Try.ntmps6
  go_wp2_with fail
  rw [← hw0.out]
  refine (bound6 da db _ _ _ _ ao bo ao' bo' kn kc gn gc kn' kc' gn' gc' s s' (by rw [hkn.out]; exact hkl) (by rw [hgn.out]; exact hgl) hsl (by rw [hkn'.out]; exact hkl') (by rw [hgn'.out]; exact hgl') hsl' w0).mono ?_
  rintro e w1 ⟨⟨a, rfl, hb1⟩, hw1⟩
  have B1 : Hid (Below (w.heap.size + 2) w0 w1) := by show Below _ _ _; rw [hw1]; exact ((Below.refl _ w0).alloc (by rw [z0.out]; exact Nat.le_refl _) _).alloc (by simp; have := z0.out; omega) _
  have D1 : Hid (Below w.heap.size w w1) := BW.out.trans (B1.out.mono (by omega))
  clear hw1 hld hld'
  cases a with
  | false =>
    clear hb1
    go_wp2
    go_ret
    exact ⟨rfl, D1.out⟩
  | true =>
    have hsum := hb1 rfl
    clear hb1 hkl hgl hsl hkl' hgl' hsl'
    go_wp2_with fail
    refine (clone _ k w1 (HK.out.below D1.out) (by have := hkn.out; omega)).mono ?_
    rintro e w2 ⟨v2, rfl, a2, b2, n2, l2⟩
    obtain ⟨ao2, kc2, rfl⟩ := a2.form hkn.out
    have A2 := hide a2
    have b1s := B1.out.size
    rw [z0.out] at b1s
    have B2 : Hid (Below (w.heap.size + 2) w0 w2) := B1.out.trans (b2.mono b1s)
    have D2 : Hid (Below w.heap.size w w2) := BW.out.trans (B2.out.mono (by omega))
    clear a2 b2 n2 l2 b1s
    go_wp2_with fail
    refine (clone _ g w2 (HG.out.below D2.out) (by have := hgn.out; omega)).mono ?_
    rintro e w3 ⟨v3, rfl, a3, b3, n3, l3⟩
    obtain ⟨bo3, gc3, rfl⟩ := a3.form hgn.out
    have A3 := hide a3
    have L3 := hide l3
    have K3 : Hid (At w3 (.slice ao2 kn kc2) k) := A2.out.below b3
    have b2s := B2.out.size
    rw [z0.out] at b2s
    have B3 : Hid (Below (w.heap.size + 2) w0 w3) := B2.out.trans (b3.mono b2s)
    have D3 : Hid (Below w.heap.size w w3) := BW.out.trans (B3.out.mono (by omega))
    clear a3 b3 n3 l3 b2s
    go_wp2_with fail
    refine (clone _ k' w3 (HK'.out.below D3.out) (by have := hkn'.out; omega)).mono ?_
    rintro e w4 ⟨v4, rfl, a4, b4, n4, l4⟩
    obtain ⟨ao4, kc4, rfl⟩ := a4.form hkn'.out
    have A4 := hide a4
    have L34 : Hid (∀ b, (Value.slice bo3 gn gc3).ownBlock = some b → b < w4.heap.size) := fun b hb => Nat.lt_of_lt_of_le (L3.out b hb) b4.size
    have K4 : Hid (At w4 (.slice ao2 kn kc2) k) := K3.out.below b4
    have G4 : Hid (At w4 (.slice bo3 gn gc3) g) := A3.out.below b4
    have b3s := B3.out.size
    rw [z0.out] at b3s
    have B4 : Hid (Below (w.heap.size + 2) w0 w4) := B3.out.trans (b4.mono b3s)
    have D4 : Hid (Below w.heap.size w w4) := BW.out.trans (B4.out.mono (by omega))
    clear a4 b4 n4 l4 b3s
    go_wp2_with fail
    refine (clone _ g' w4 (HG'.out.below D4.out) (by have := hgn'.out; omega)).mono ?_
    rintro e w5 ⟨v5, rfl, a5, b5, n5, l5⟩
    obtain ⟨bo5, gc5, rfl⟩ := a5.form hgn'.out
    have A5 := hide a5
    have L5 := hide l5
    have L35 : Hid (∀ b, (Value.slice bo3 gn gc3).ownBlock = some b → b < w5.heap.size) := fun b hb => Nat.lt_of_lt_of_le (L34.out b hb) b5.size
    have K5 : Hid (At w5 (.slice ao2 kn kc2) k) := K4.out.below b5
    have G5 : Hid (At w5 (.slice bo3 gn gc3) g) := G4.out.below b5
    have X5 : Hid (At w5 (.slice ao4 kn' kc4) k') := A4.out.below b5
    have b4s := B4.out.size
    rw [z0.out] at b4s
    have B5 : Hid (Below (w.heap.size + 2) w0 w5) := B4.out.trans (b5.mono b4s)
    have b5s := B5.out.size
    rw [z0.out] at b5s
    have z5 := hide b5s
    clear a5 b5 n5 l5 b4s b5s
    -- the two consents
    have r5 : w5.heap[w.heap.size]? = some (.cells da 31 (0, 0)) := (B5.out.block _ (by omega)).trans r0.out
    have hld5 : (loadCellsFrom ⟨w.heap.size, 0, none⟩ 0 N #[]).run Try.prog w5 = .ok da w5 := load_row r5 (by rw [hN.out, hdas.out])
    obtain ⟨zs, hzs, hz⟩ := zero38
    obtain ⟨cs, hcs⟩ : ∃ cs, Hid (cs = consent d ver (.slice ao2 kn kc2) s room (.slice bo3 gn gc3)) := ⟨_, rfl⟩
    obtain ⟨cs', hcs'⟩ : ∃ cs, Hid (cs = consent d' ver' (.slice ao4 kn' kc4) s' room' (.slice bo5 gn' gc5)) := ⟨_, rfl⟩
    have hcss : Hid (cs.size = 37) := by show cs.size = 37; rw [hcs.out]; exact consent_size hd.out _ _ _ _ _
    have hcss' : Hid (cs'.size = 37) := by show cs'.size = 37; rw [hcs'.out]; exact consent_size hd'.out _ _ _ _ _
    have hbuild : (Instr.build 38 #[(0, .agg da), (1, .int .u64 ver), (2, .agg #[.slice ao2 kn kc2, .string s]), (3, .int .u64 room), (4, .slice bo3 gn gc3)]).run Try.prog w5 = .ok (.agg cs) w5 := by
      rw [hda.out, hcs.out]
      exact run_build w5 38 _ _ (built38 d hd.out ver ao2 kn kc2 s room bo3 gn gc3)
    have hcM : cs.size = M := by rw [hM.out, hcss.out]
    have hcM' : cs'.size = M := by rw [hM.out, hcss'.out]
    have hb35 : (Instr.build 35 #[(0, .slice ao2 kn kc2), (1, .string s)]).run Try.prog w5 = .ok (.agg #[.slice ao2 kn kc2, .string s]) w5 := run_build w5 35 _ _ (built35 ao2 kn kc2 s)
    have hst : (storeCells ⟨w5.heap.size, 0, none⟩ cs.toList 0).run Try.prog (w5.alloc (.cells zs 38)) = .ok () (w5.alloc (.cells cs 38)) := run_storeCells_new w5 38 zs cs (by rw [info38, hcss.out]) (by rw [hzs.out, hcss.out]) (by rw [hcs.out]; exact consent_one _ _ _ _ _ _ _ _ _)
    have z6 : Hid ((w5.alloc (.cells cs 38)).heap.size = w5.heap.size + 1) := by show _ = _; simp
    have hld6 : (loadCellsFrom ⟨w.heap.size + 1, 0, none⟩ 0 N #[]).run Try.prog (w5.alloc (.cells cs 38)) = .ok db (w5.alloc (.cells cs 38)) := load_row (by
      rw [Below.heap_alloc _ _ _ (by have := z5.out; omega)]
      exact (B5.out.block _ (by omega)).trans r0'.out) (by rw [hN.out, hdbs.out])
    have hbuild' : (Instr.build 38 #[(0, .agg db), (1, .int .u64 ver'), (2, .agg #[.slice ao4 kn' kc4, .string s']), (3, .int .u64 room'), (4, .slice bo5 gn' gc5)]).run Try.prog (w5.alloc (.cells cs 38)) = .ok (.agg cs') (w5.alloc (.cells cs 38)) := by
      rw [hdb.out, hcs'.out]
      exact run_build _ 38 _ _ (built38 d' hd'.out ver' ao4 kn' kc4 s' room' bo5 gn' gc5)
    have hb35' : (Instr.build 35 #[(0, .slice ao4 kn' kc4), (1, .string s')]).run Try.prog (w5.alloc (.cells cs 38)) = .ok (.agg #[.slice ao4 kn' kc4, .string s']) (w5.alloc (.cells cs 38)) := run_build _ 35 _ _ (built35 ao4 kn' kc4 s')
    have hst' : (storeCells ⟨w5.heap.size + 1, 0, none⟩ cs'.toList 0).run Try.prog ((w5.alloc (.cells cs 38)).alloc (.cells zs 38)) = .ok () ((w5.alloc (.cells cs 38)).alloc (.cells cs' 38)) := by
      have h := run_storeCells_new (P := Try.prog) (w5.alloc (.cells cs 38)) 38 zs cs' (by rw [info38, hcss'.out]) (by rw [hzs.out, hcss'.out]) (by rw [hcs'.out]; exact consent_one _ _ _ _ _ _ _ _ _)
      rw [z6.out] at h
      exact h
    obtain ⟨w7, hw7⟩ : ∃ w7, Hid (w7 = (w5.alloc (.cells cs 38)).alloc (.cells cs' 38)) := ⟨_, rfl⟩
    have q7 : Hid (w7.heap[w5.heap.size]? = some (.cells cs 38 (0, 0))) := by
      show _ = _
      rw [hw7.out, Below.heap_alloc _ _ _ (by simp)]
      exact Go.Deep.blk_alloc_new _ _
    have q7' : Hid (w7.heap[w5.heap.size + 1]? = some (.cells cs' 38 (0, 0))) := by
      show _ = _
      rw [hw7.out]
      have := Go.Deep.blk_alloc_new (w5.alloc (.cells cs 38)) (.cells cs' 38)
      rwa [z6.out] at this
    have z7 : Hid (w7.heap.size = w5.heap.size + 2) := by show _ = _; rw [hw7.out]; simp
    have B7 : Hid (Below w5.heap.size w5 w7) := by show Below _ _ _; rw [hw7.out]; exact ((Below.refl _ w5).alloc (Nat.le_refl _) _).alloc (by simp) _
    have hld7 : (loadCellsFrom ⟨w5.heap.size, 0, none⟩ 0 M #[]).run Try.prog ((w5.alloc (.cells cs 38)).alloc (.cells cs' 38)) = .ok cs ((w5.alloc (.cells cs 38)).alloc (.cells cs' 38)) := load_row (by rw [← hw7.out]; exact q7.out) (by rw [hM.out, hcss.out])
    have hlim : Hid (k.length + s.size + g.length + k'.length + s'.size + g'.length ≤ 1048576) := by have := hkn.out; have := hgn.out; have := hkn'.out; have := hgn'.out; show _ ≤ _; omega
    go_wp2_with fail
    rw [← hw7.out]
    have ENC := encode d hd.out ver hver (.slice ao2 kn kc2) s room hroom (.slice bo3 gn gc3) k g w7 (K5.out.below B7.out) (G5.out.below B7.out) (fun b hb => by have := L35.out b hb; have := z7.out; omega) (by have := hlim.out; omega)
    rw [← hcs.out] at ENC
    refine ENC.mono ?_
    clear ENC
    rintro e w8 ⟨v8, rfl, o8, b8, n8⟩
    have B8 : Hid (Below w7.heap.size w7 w8) := b8
    have O8 : Hid (Owns w8 v8 (encB d ver k s.data.toList room g)) := o8
    clear o8 b8 n8 hbuild hbuild' hb35 hb35' hst hst' hld5 hld6 hld7 r5 hcM
    have hld8 : (loadCellsFrom ⟨w5.heap.size + 1, 0, none⟩ 0 M #[]).run Try.prog w8 = .ok cs' w8 := load_row ((B8.out.block _ (by have := z7.out; omega)).trans q7'.out) (by rw [hM.out, hcss'.out])
    have C8 : Hid (Below w5.heap.size w5 w8) := B7.out.trans (B8.out.mono (by have := z7.out; omega))
    go_wp2_with fail
    have ENC := encode d' hd'.out ver' hver' (.slice ao4 kn' kc4) s' room' hroom' (.slice bo5 gn' gc5) k' g' w8 (X5.out.below C8.out) (A5.out.below C8.out) (fun b hb => by have := L5.out b hb; have := C8.out.size; omega) (by have := hlim.out; omega)
    rw [← hcs'.out] at ENC
    refine ENC.mono ?_
    clear ENC
    rintro e w9 ⟨v9, rfl, o9, b9, n9⟩
    have O9 : Hid (Owns w9 v9 (encB d' ver' k' s'.data.toList room' g')) := o9
    have P9 : Hid (Owns w9 v8 (encB d ver k s.data.toList room g)) := O8.out.below b9
    have C9 : Hid (Below w5.heap.size w5 w9) := C8.out.trans (b9.mono C8.out.size)
    clear o9 b9 n9 hld8 hcM' hsz8 hz
    have E9 : Hid (Below (w.heap.size + 2) w0 w9) := B5.out.trans (C9.out.mono z5.out)
    have hld9 : (loadCellsFrom ⟨w.heap.size, 0, none⟩ 0 N #[]).run Try.prog w9 = .ok da w9 := load_row ((E9.out.block _ (by omega)).trans r0.out) (by rw [hN.out, hdas.out])
    have hld9' : (loadCellsFrom ⟨w.heap.size + 1, 0, none⟩ 0 N #[]).run Try.prog w9 = .ok db w9 := load_row ((E9.out.block _ (by omega)).trans r0'.out) (by rw [hN.out, hdbs.out])
    have hss : Hid (s.data.toList.length = s.size) := by show _ = _; simp
    have hss' : Hid (s'.data.toList.length = s'.size) := by show _ = _; simp
    obtain ⟨b8, c8, rfl, hc8, hb8, _⟩ := P9.out.form (encB_pos _ _ _ _ _ _)
    obtain ⟨b9, c9, rfl, hc9, hb9, _⟩ := O9.out.form (encB_pos _ _ _ _ _ _)
    have A8 := hide P9.out.at
    have A9 := hide O9.out.at
    clear O8 P9 O9 hc8 hb8 hc9 hb9
    obtain ⟨L1, hL1⟩ : ∃ L, Hid (L = (encB d ver k s.data.toList room g).length) := ⟨_, rfl⟩
    obtain ⟨L2, hL2⟩ : ∃ L, Hid (L = (encB d' ver' k' s'.data.toList room' g').length) := ⟨_, rfl⟩
    rw [← hL1.out, ← hL2.out]
    rw [← hL1.out] at A8
    rw [← hL2.out] at A9
    have T1 : Hid (L1 = flen 32 + (1 + ulen ver) + flen (flen kn + flen s.size) + (1 + ulen room) + flen gn) := by
      show L1 = _
      rw [hL1.out, encB_length, hd.out, hss.out, hkn.out, hgn.out]
    have T2 : Hid (L2 = flen 32 + (1 + ulen ver') + flen (flen kn' + flen s'.size) + (1 + ulen room') + flen gn') := by
      show L2 = _
      rw [hL2.out, encB_length, hd'.out, hss'.out, hkn'.out, hgn'.out]
    have y1 : L1 ≤ 100000000 := by rw [T1.out]; exact enc_small hver hroom (by omega) (by omega) (by omega)
    have y2 : L2 ≤ 100000000 := by rw [T2.out]; exact enc_small hver' hroom' (by omega) (by omega) (by omega)
    have K9 : Hid (At w9 (.slice ao2 kn kc2) k) := K5.out.below C9.out
    have G9 : Hid (At w9 (.slice bo3 gn gc3) g) := G5.out.below C9.out
    have X9 : Hid (At w9 (.slice ao4 kn' kc4) k') := X5.out.below C9.out
    have V9 : Hid (At w9 (.slice bo5 gn' gc5) g') := A5.out.below C9.out
    have F9 : Hid (Below w.heap.size w w9) := BW.out.trans (E9.out.mono (by omega))
    have hkl : Hid (k.length ≤ 1000000000) := by have := hlim.out; show _ ≤ _; omega
    have hkl' : Hid (k'.length ≤ 1000000000) := by have := hlim.out; show _ ≤ _; omega
    have hgl : Hid (g.length ≤ 1000000000) := by have := hlim.out; show _ ≤ _; omega
    have hgl' : Hid (g'.length ≤ 1000000000) := by have := hlim.out; show _ ≤ _; omega
    clear A2 A3 A4 L3 K3 L34 K4 G4 L5 L35 K5 G5 X5 A5 hcs hcs' hcss hcss' hzs q7 q7' z7 B7 B8 hw7 z6
    have S9 : Hid (Below w9.heap.size w9 w9) := Below.refl _ _
    by_cases hD : d = d'
    case neg =>
      have heq : (Op.equalIn 10000 31 (.agg da) (.agg db)).run Try.prog w9 = .ok false w9 := by rw [hda.out, hdb.out]; exact eql31 w9 d d' hd.out hd'.out false ⟨fun h => Bool.noConfusion h, fun h => absurd h hD⟩
      have NE : Hid (¬ encB d ver k s.data.toList room g = encB d' ver' k' s'.data.toList room' g') := fun h => hD (encB_inj h).1
      clear hD
      go_wp2_with fail
      refine (eq_any _ _ _ _ w9 (A8.out.below S9.out) (A9.out.below S9.out) (by rw [← hL1.out]; omega) (by rw [← hL2.out]; omega)).mono ?_
      rintro e wa ⟨⟨a, rfl, ha⟩, r, hwa⟩
      obtain rfl : a = false := (by cases a with | false => rfl | true => exact absurd (ha.1 rfl) NE.out)
      have SA : Hid (Below w9.heap.size w9 wa) := by show Below _ _ _; rw [hwa]; exact below_drewN S9.out _
      clear hwa ha
      go_wp2_with fail
      refine (consentLen ver kn s.size room gn L1 hver hroom (by omega) (by omega) (by omega) T1 wa).mono ?_
      rintro e wb ⟨rfl, hwb⟩
      have SB : Hid (Below w9.heap.size w9 wb) := by show Below _ _ _; rw [hwb]; exact SA.out
      clear hwb
      go_wp2_with fail
      refine (consentLen ver' kn' s'.size room' gn' L2 hver' hroom' (by omega) (by omega) (by omega) T2 wb).mono ?_
      rintro e wc ⟨rfl, hwc⟩
      have SC : Hid (Below w9.heap.size w9 wc) := by show Below _ _ _; rw [hwc]; exact SB.out
      clear hwc
      have FIN : Hid (Below w.heap.size w wc) := F9.out.trans (SC.out.mono F9.out.size)
      go_wp2
      go_ret
      exact ⟨rfl, FIN.out⟩
    have heq : (Op.equalIn 10000 31 (.agg da) (.agg db)).run Try.prog w9 = .ok true w9 := by rw [hda.out, hdb.out]; exact eql31 w9 d d' hd.out hd'.out true ⟨fun _ => hD, fun _ => rfl⟩
    have HD := hide hD
    clear hD
    by_cases hV : ver = ver'
    case neg =>
      have hv : ¬ (ver : Int) = (ver' : Int) := by omega
      have NE : Hid (¬ encB d ver k s.data.toList room g = encB d' ver' k' s'.data.toList room' g') := fun h => hV (encB_inj h).2.1
      go_wp2_with fail
      refine (eq_any _ _ _ _ w9 (A8.out.below S9.out) (A9.out.below S9.out) (by rw [← hL1.out]; omega) (by rw [← hL2.out]; omega)).mono ?_
      rintro e wa ⟨⟨a, rfl, ha⟩, r, hwa⟩
      obtain rfl : a = false := (by cases a with | false => rfl | true => exact absurd (ha.1 rfl) NE.out)
      have SA : Hid (Below w9.heap.size w9 wa) := by show Below _ _ _; rw [hwa]; exact below_drewN S9.out _
      clear hwa ha
      go_wp2_with fail
      refine (consentLen ver kn s.size room gn L1 hver hroom (by omega) (by omega) (by omega) T1 wa).mono ?_
      rintro e wb ⟨rfl, hwb⟩
      have SB : Hid (Below w9.heap.size w9 wb) := by show Below _ _ _; rw [hwb]; exact SA.out
      clear hwb
      go_wp2_with fail
      refine (consentLen ver' kn' s'.size room' gn' L2 hver' hroom' (by omega) (by omega) (by omega) T2 wb).mono ?_
      rintro e wc ⟨rfl, hwc⟩
      have SC : Hid (Below w9.heap.size w9 wc) := by show Below _ _ _; rw [hwc]; exact SB.out
      clear hwc
      have FIN : Hid (Below w.heap.size w wc) := F9.out.trans (SC.out.mono F9.out.size)
      go_wp2
      go_ret
      exact ⟨rfl, FIN.out⟩
    subst hV
    go_wp2_with fail
    refine (eq_any _ _ k k' w9 K9.out X9.out hkl.out hkl'.out).mono ?_
    rintro e w10 ⟨⟨a, rfl, ha⟩, r, hw10⟩
    have S10 : Hid (Below w9.heap.size w9 w10) := by show Below _ _ _; rw [hw10]; exact below_drewN S9.out _
    have HAK := hide ha
    clear hw10 ha hld9 hld9' heq
    cases a with
    | false =>
      have NE : Hid (¬ encB d ver k s.data.toList room g = encB d' ver k' s'.data.toList room' g') := fun h => Bool.noConfusion (HAK.out.2 (encB_inj h).2.2.1)
      go_wp2_with fail
      refine (eq_any _ _ _ _ w10 (A8.out.below S10.out) (A9.out.below S10.out) (by rw [← hL1.out]; omega) (by rw [← hL2.out]; omega)).mono ?_
      rintro e wa ⟨⟨a, rfl, ha⟩, r, hwa⟩
      obtain rfl : a = false := (by cases a with | false => rfl | true => exact absurd (ha.1 rfl) NE.out)
      have SA : Hid (Below w9.heap.size w9 wa) := by show Below _ _ _; rw [hwa]; exact below_drewN S10.out _
      clear hwa ha
      go_wp2_with fail
      refine (consentLen ver kn s.size room gn L1 hver hroom (by omega) (by omega) (by omega) T1 wa).mono ?_
      rintro e wb ⟨rfl, hwb⟩
      have SB : Hid (Below w9.heap.size w9 wb) := by show Below _ _ _; rw [hwb]; exact SA.out
      clear hwb
      go_wp2_with fail
      refine (consentLen ver kn' s'.size room' gn' L2 hver hroom' (by omega) (by omega) (by omega) T2 wb).mono ?_
      rintro e wc ⟨rfl, hwc⟩
      have SC : Hid (Below w9.heap.size w9 wc) := by show Below _ _ _; rw [hwc]; exact SB.out
      clear hwc
      have FIN : Hid (Below w.heap.size w wc) := F9.out.trans (SC.out.mono F9.out.size)
      go_wp2
      go_ret
      exact ⟨rfl, FIN.out⟩
    | true =>
      by_cases hA : s = s'
      case neg =>
        have hAl : ¬ s.toList = s'.toList := fun h => hA (list_inj h)
        have NE : Hid (¬ encB d ver k s.data.toList room g = encB d' ver k' s'.data.toList room' g') := fun h => hA (bytes_inj (encB_inj h).2.2.2.1)
        go_wp2_with fail
        refine (eq_any _ _ _ _ w10 (A8.out.below S10.out) (A9.out.below S10.out) (by rw [← hL1.out]; omega) (by rw [← hL2.out]; omega)).mono ?_
        rintro e wa ⟨⟨a, rfl, ha⟩, r, hwa⟩
        obtain rfl : a = false := (by cases a with | false => rfl | true => exact absurd (ha.1 rfl) NE.out)
        have SA : Hid (Below w9.heap.size w9 wa) := by show Below _ _ _; rw [hwa]; exact below_drewN S10.out _
        clear hwa ha
        go_wp2_with fail
        refine (consentLen ver kn s.size room gn L1 hver hroom (by omega) (by omega) (by omega) T1 wa).mono ?_
        rintro e wb ⟨rfl, hwb⟩
        have SB : Hid (Below w9.heap.size w9 wb) := by show Below _ _ _; rw [hwb]; exact SA.out
        clear hwb
        go_wp2_with fail
        refine (consentLen ver kn' s'.size room' gn' L2 hver hroom' (by omega) (by omega) (by omega) T2 wb).mono ?_
        rintro e wc ⟨rfl, hwc⟩
        have SC : Hid (Below w9.heap.size w9 wc) := by show Below _ _ _; rw [hwc]; exact SB.out
        clear hwc
        have FIN : Hid (Below w.heap.size w wc) := F9.out.trans (SC.out.mono F9.out.size)
        go_wp2
        go_ret
        exact ⟨rfl, FIN.out⟩
      subst hA
      by_cases hR : room = room'
      case neg =>
        have hr : ¬ (room : Int) = (room' : Int) := by omega
        have NE : Hid (¬ encB d ver k s.data.toList room g = encB d' ver k' s.data.toList room' g') := fun h => hR (encB_inj h).2.2.2.2.1
        go_wp2_with fail
        refine (eq_any _ _ _ _ w10 (A8.out.below S10.out) (A9.out.below S10.out) (by rw [← hL1.out]; omega) (by rw [← hL2.out]; omega)).mono ?_
        rintro e wa ⟨⟨a, rfl, ha⟩, r, hwa⟩
        obtain rfl : a = false := (by cases a with | false => rfl | true => exact absurd (ha.1 rfl) NE.out)
        have SA : Hid (Below w9.heap.size w9 wa) := by show Below _ _ _; rw [hwa]; exact below_drewN S10.out _
        clear hwa ha
        go_wp2_with fail
        refine (consentLen ver kn s.size room gn L1 hver hroom (by omega) (by omega) (by omega) T1 wa).mono ?_
        rintro e wb ⟨rfl, hwb⟩
        have SB : Hid (Below w9.heap.size w9 wb) := by show Below _ _ _; rw [hwb]; exact SA.out
        clear hwb
        go_wp2_with fail
        refine (consentLen ver kn' s.size room' gn' L2 hver hroom' (by omega) (by omega) (by omega) T2 wb).mono ?_
        rintro e wc ⟨rfl, hwc⟩
        have SC : Hid (Below w9.heap.size w9 wc) := by show Below _ _ _; rw [hwc]; exact SB.out
        clear hwc
        have FIN : Hid (Below w.heap.size w wc) := F9.out.trans (SC.out.mono F9.out.size)
        go_wp2
        go_ret
        exact ⟨rfl, FIN.out⟩
      subst hR
      go_wp2_with fail
      refine (eq_any _ _ g g' w10 (G9.out.below S10.out) (V9.out.below S10.out) hgl.out hgl'.out).mono ?_
      rintro e w11 ⟨⟨a, rfl, ha⟩, r, hw11⟩
      have S11 : Hid (Below w9.heap.size w9 w11) := by show Below _ _ _; rw [hw11]; exact below_drewN S10.out _
      have HAG := hide ha
      clear hw11 ha
      cases a with
      | false =>
        have NE : Hid (¬ encB d ver k s.data.toList room g = encB d' ver k' s.data.toList room g') := fun h => Bool.noConfusion (HAG.out.2 (encB_inj h).2.2.2.2.2)
        go_wp2_with fail
        refine (eq_any _ _ _ _ w11 (A8.out.below S11.out) (A9.out.below S11.out) (by rw [← hL1.out]; omega) (by rw [← hL2.out]; omega)).mono ?_
        rintro e wa ⟨⟨a, rfl, ha⟩, r, hwa⟩
        obtain rfl : a = false := (by cases a with | false => rfl | true => exact absurd (ha.1 rfl) NE.out)
        have SA : Hid (Below w9.heap.size w9 wa) := by show Below _ _ _; rw [hwa]; exact below_drewN S11.out _
        clear hwa ha
        go_wp2_with fail
        refine (consentLen ver kn s.size room gn L1 hver hroom (by omega) (by omega) (by omega) T1 wa).mono ?_
        rintro e wb ⟨rfl, hwb⟩
        have SB : Hid (Below w9.heap.size w9 wb) := by show Below _ _ _; rw [hwb]; exact SA.out
        clear hwb
        go_wp2_with fail
        refine (consentLen ver kn' s.size room gn' L2 hver hroom (by omega) (by omega) (by omega) T2 wb).mono ?_
        rintro e wc ⟨rfl, hwc⟩
        have SC : Hid (Below w9.heap.size w9 wc) := by show Below _ _ _; rw [hwc]; exact SB.out
        clear hwc
        have FIN : Hid (Below w.heap.size w wc) := F9.out.trans (SC.out.mono F9.out.size)
        go_wp2
        go_ret
        exact ⟨rfl, FIN.out⟩
      | true =>
        have SAME : Hid (encB d ver k s.data.toList room g = encB d' ver k' s.data.toList room g') := by show _ = _; rw [HD.out, (by first | exact HAK.out.1 rfl | exact HAK.out.1 trivial : k = k'), (by first | exact HAG.out.1 rfl | exact HAG.out.1 trivial : g = g')]
        go_wp2_with fail
        refine (eq_any _ _ _ _ w11 (A8.out.below S11.out) (A9.out.below S11.out) (by rw [← hL1.out]; omega) (by rw [← hL2.out]; omega)).mono ?_
        rintro e wa ⟨⟨a, rfl, ha⟩, r, hwa⟩
        obtain rfl : a = true := (ha.2 SAME.out)
        have SA : Hid (Below w9.heap.size w9 wa) := by show Below _ _ _; rw [hwa]; exact below_drewN S11.out _
        clear hwa ha
        go_wp2_with fail
        refine (consentLen ver kn s.size room gn L1 hver hroom (by omega) (by omega) (by omega) T1 wa).mono ?_
        rintro e wb ⟨rfl, hwb⟩
        have SB : Hid (Below w9.heap.size w9 wb) := by show Below _ _ _; rw [hwb]; exact SA.out
        clear hwb
        go_wp2_with fail
        refine (consentLen ver kn' s.size room gn' L2 hver hroom (by omega) (by omega) (by omega) T2 wb).mono ?_
        rintro e wc ⟨rfl, hwc⟩
        have SC : Hid (Below w9.heap.size w9 wc) := by show Below _ _ _; rw [hwc]; exact SB.out
        clear hwc
        have FIN : Hid (Below w.heap.size w wc) := F9.out.trans (SC.out.mono F9.out.size)
        go_wp2
        go_ret
        exact ⟨rfl, FIN.out⟩
end Go.Proofs.Qxb6605598a
