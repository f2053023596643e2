/-
  FnConsentEncodeParsesBack (5), walked.
-/
import Derived.Test.Qxb6605598aBuild
namespace Go.Proofs.Qxb6605598a
open Go.RowKit Go.WideShapes
open Go.Lib (byteCells)
set_option linter.unusedVariables false

theorem At.form {w : World} {v : Value} {l : List UInt8} {n : Nat} (h : At w v l) (hn : n = l.length) : ∃ ao c, v = .slice ao n c := by
  subst hn
  rcases h with ⟨rfl, rfl⟩ | ⟨b, o, c, rfl, hc⟩
  · exact ⟨_, _, rfl⟩
  · exact ⟨_, _, rfl⟩

/-- a slice of one's own that is not empty: where it lies -/
theorem Owns.form {w : World} {v : Value} {l : List UInt8} (h : Owns w v l) (hl : 0 < l.length) : ∃ b c, v = .slice (some ⟨b, 0, none⟩) l.length c ∧ l.length ≤ c ∧ b < w.heap.size ∧ Lies w b 0 0 l := by
  have hat := h.at
  rcases h.2 with ⟨rfl, h0⟩ | ⟨g, cap, cur, rfl, _, hg, hc, _⟩
  · omega
  · refine ⟨g, cap, rfl, hc, (Array.getElem?_eq_some_iff.1 hg).1, ?_⟩
    rcases hat with ⟨e, _⟩ | ⟨b, o, c, e, hx⟩
    · cases e
    · simp only [Value.slice.injEq, Option.some.injEq, Addr.mk.injEq] at e
      obtain ⟨⟨rfl, rfl, _⟩, _, rfl⟩ := e
      intro j u hj
      rw [← add_plain]
      simpa [add_plain] using At.news (c := cap) hx j u hj

theorem Lies.below {w w' : World} {b o i B : Nat} {l : List UInt8} (h : Lies w b o i l) (g : Below B w w') (hb : b < B) : Lies w' b o i l := fun j u hj => (g.cell (p := ⟨b, o + (i + j), none⟩) hb).trans (h j u hj)

theorem encB_pos (d : List UInt8) (v : Nat) (k a : List UInt8) (r : Nat) (s : List UInt8) : 0 < (encB d v k a r s).length := by
  rw [encB_length]; unfold flen; omega

attribute [-go_sem] Instr.build in
attribute [-simp] Try.sizeOf31 Try.sizeOf38 Try.typeInfo31 Try.typeInfo38 Try.zeroValue38 in
set_option maxHeartbeats 1000000 in
set_option maxRecDepth 100000 in
theorem law5 (d : List UInt8) (hd : Hid (d.length = 32)) (ver : Nat) (hver : ver < 18446744073709551616) (kv : Value) (s : ByteArray) (room : Nat) (hroom : room < 18446744073709551616) (gv : Value) (k g : List UInt8) (w : World)
    (hk : AtIn w kv k) (hg : AtIn w gv g) (hkl : k.length ≤ 9223372036854775807) (hgl : g.length ≤ 9223372036854775807) (hsl : s.size ≤ 9223372036854775807) :
    Calls Try.prog 5 #[.agg (byteCells d).toArray, .int .u64 ver, kv, .string s, .int .u64 room, gv] w fun e w' => e = .returned (.bool true) ∧ Below w.heap.size w w' := by
  obtain ⟨da, hda⟩ : ∃ da, Hid (da = (byteCells d).toArray) := ⟨_, rfl⟩
  rw [← hda.out]
  have hdas : Hid (da.size = 32) := by show da.size = 32; rw [hda.out]; simp [byteCells, hd.out]
  obtain ⟨N, hN, hsz⟩ := size31
  obtain ⟨M, hM, hsz8⟩ := size38
  obtain ⟨ao, kn, kc, rfl, hkn⟩ := hk.form
  obtain ⟨bo, gn, gc, rfl, hgn⟩ := hg.form
  obtain ⟨w0, hw0⟩ : ∃ w0, Hid (w0 = w.alloc (.cells da 31)) := ⟨_, rfl⟩
  have z0 : Hid (w0.heap.size = w.heap.size + 1) := by show _ = _; rw [hw0.out]; simp
  have r0 : Hid (w0.heap[w.heap.size]? = some (.cells da 31 (0, 0))) := by show _ = _; rw [hw0.out]; exact Go.Deep.blk_alloc_new _ _
  have BW : Hid (Below w.heap.size w w0) := by show Below _ _ _; rw [hw0.out]; exact (Below.refl _ w).alloc (Nat.le_refl _) _
  have hld : (loadCellsFrom ⟨w.heap.size, 0, none⟩ 0 N #[]).run Try.prog (w.alloc (.cells da 31)) = .ok da (w.alloc (.cells da 31)) := load_row (Go.Deep.blk_alloc_new _ _) (by rw [hN.out, hdas.out])
  have HK := hide hk
  have HG := hide hg
  clear hk hg
  go_enter Try.func5, Try.ntmps5
  go_wp2_with fail
  rw [← hw0.out]
  refine (bound5 da _ _ ao bo kn kc gn gc s (by rw [hkn.out]; exact hkl) (by rw [hgn.out]; exact hgl) hsl w0).mono ?_
  rintro e w1 ⟨⟨a, rfl, hb1⟩, hw1⟩
  have B1 : Hid (Below (w.heap.size + 1) w0 w1) := by show Below _ _ _; rw [hw1]; exact (Below.refl _ w0).alloc (by rw [z0.out]; exact Nat.le_refl _) _
  have D1 : Hid (Below w.heap.size w w1) := BW.out.trans (B1.out.mono (Nat.le_succ _))
  clear hw1 hld
  cases a with
  | false =>
    clear hb1
    go_wp2
    go_ret
    exact ⟨rfl, D1.out⟩
  | true =>
    have hsum := hb1 rfl
    clear hb1 hkl hgl hsl
    go_wp2_with fail
    refine (clone _ k w1 (HK.out.below D1.out) (by have := hkn.out; omega)).mono ?_
    rintro e w2 ⟨v2, rfl, a2, b2, n2, l2⟩
    obtain ⟨ao2, kc2, rfl⟩ := a2.form hkn.out
    have A2 := hide a2
    have L2 := hide l2
    have b1s := B1.out.size
    rw [z0.out] at b1s
    have B2 : Hid (Below (w.heap.size + 1) w0 w2) := B1.out.trans (b2.mono b1s)
    have D2 : Hid (Below w.heap.size w w2) := BW.out.trans (B2.out.mono (Nat.le_succ _))
    clear a2 b2 n2 l2 b1s
    go_wp2_with fail
    refine (clone _ g w2 (HG.out.below D2.out) (by have := hgn.out; omega)).mono ?_
    rintro e w3 ⟨v3, rfl, a3, b3, n3, l3⟩
    obtain ⟨bo3, gc3, rfl⟩ := a3.form hgn.out
    have A3 := hide a3
    have L3 := hide l3
    have K3 : Hid (At w3 (.slice ao2 kn kc2) k) := A2.out.below b3
    have b2s := B2.out.size
    rw [z0.out] at b2s
    have B3 : Hid (Below (w.heap.size + 1) w0 w3) := B2.out.trans (b3.mono b2s)
    clear a3 b3 n3 l3 b2s
    have r3 : w3.heap[w.heap.size]? = some (.cells da 31 (0, 0)) := (B3.out.block _ (Nat.lt_succ_self _)).trans r0.out
    have hld3 : (loadCellsFrom ⟨w.heap.size, 0, none⟩ 0 N #[]).run Try.prog w3 = .ok da w3 := load_row r3 (by rw [hN.out, hdas.out])
    obtain ⟨zs, hzs, hz⟩ := zero38
    obtain ⟨cs, hcs⟩ : ∃ cs, Hid (cs = consent d ver (.slice ao2 kn kc2) s room (.slice bo3 gn gc3)) := ⟨_, rfl⟩
    have hcss : Hid (cs.size = 37) := by show cs.size = 37; rw [hcs.out]; exact consent_size hd.out _ _ _ _ _
    have hbuild : (Instr.build 38 #[(0, .agg da), (1, .int .u64 ver), (2, .agg #[.slice ao2 kn kc2, .string s]), (3, .int .u64 room), (4, .slice bo3 gn gc3)]).run Try.prog w3 = .ok (.agg cs) w3 := by
      rw [hda.out, hcs.out]
      exact run_build w3 38 _ _ (built38 d hd.out ver ao2 kn kc2 s room bo3 gn gc3)
    have hcM : cs.size = M := by rw [hM.out, hcss.out]
    have hb35 : (Instr.build 35 #[(0, .slice ao2 kn kc2), (1, .string s)]).run Try.prog w3 = .ok (.agg #[.slice ao2 kn kc2, .string s]) w3 := run_build w3 35 _ _ (built35 ao2 kn kc2 s)
    have hst : (storeCells ⟨w3.heap.size, 0, none⟩ cs.toList 0).run Try.prog (w3.alloc (.cells zs 38)) = .ok () (w3.alloc (.cells cs 38)) := run_storeCells_new w3 38 zs cs (by rw [info38, hcss.out]) (by rw [hzs.out, hcss.out]) (by rw [hcs.out]; exact consent_one _ _ _ _ _ _ _ _ _)
    have hld4 : (loadCellsFrom ⟨w3.heap.size, 0, none⟩ 0 M #[]).run Try.prog (w3.alloc (.cells cs 38)) = .ok cs (w3.alloc (.cells cs 38)) := load_row (Go.Deep.blk_alloc_new _ _) (by rw [hM.out, hcss.out])
    have b3s := B3.out.size
    rw [z0.out] at b3s
    have B4 : Hid (Below (w.heap.size + 1) w0 (w3.alloc (.cells cs 38))) := B3.out.alloc b3s _
    have hss : Hid (s.data.toList.length = s.size) := by show _ = _; simp
    have hlim : Hid (k.length + s.size + g.length ≤ 1048576) := by have := hkn.out; have := hgn.out; show _ ≤ _; omega
    have ENC := encode d hd.out ver hver (.slice ao2 kn kc2) s room hroom (.slice bo3 gn gc3) k g (w3.alloc (.cells cs 38)) (K3.out.alloc _) (A3.out.alloc _) (fun b hb => by have := L3.out b hb; simp; omega) hlim.out
    rw [← hcs.out] at ENC
    have K4 : Hid (At (w3.alloc (.cells cs 38)) (.slice ao2 kn kc2) k) := K3.out.alloc _
    have G4 : Hid (At (w3.alloc (.cells cs 38)) (.slice bo3 gn gc3) g) := A3.out.alloc _
    have HE := hide ENC
    have S4 : Hid (w.heap.size + 1 ≤ (w3.alloc (.cells cs 38)).heap.size) := by show _ ≤ _; simp; omega
    clear ENC b3s
    go_wp2_with fail
    refine HE.out.mono ?_
    rintro e w5 ⟨v5, rfl, o5, b5, n5⟩
    have B5 : Hid (Below (w.heap.size + 1) w0 w5) := B4.out.trans (b5.mono S4.out)
    have K5 : Hid (At w5 (.slice ao2 kn kc2) k) := K4.out.below b5
    have G5 : Hid (At w5 (.slice bo3 gn gc3) g) := G4.out.below b5
    clear hbuild hb35 hst hld4 hld3 r3 HE b5 n5 hsz8 hz hcM
    obtain ⟨gb, cap, rfl, hcap, hgb, hlies⟩ := o5.form (encB_pos _ _ _ _ _ _)
    have HL := hide hlies
    have D5 : Hid (At w5 (.slice (some ⟨w.heap.size, 0, none⟩) 32 32) d) := .inr ⟨w.heap.size, 0, 32, by rw [hd.out], fun j hj => by
      have r5 : w5.heap[w.heap.size]? = some (.cells da 31 (0, 0)) := (B5.out.block _ (Nat.lt_succ_self _)).trans r0.out
      rw [Nat.zero_add, cell_of_row _ _ j da 31 (0, 0) r5, hda.out]
      simp [byteCells, hj]⟩
    clear o5 hlies
    obtain ⟨L, hL⟩ : ∃ L, Hid (L = (encB d ver k s.data.toList room g).length) := ⟨_, rfl⟩
    rw [← hL.out]
    rw [← hL.out] at hcap
    -- where each field lies
    have hP1 := hide (fieldB_length (num := 1) (by omega) d)
    have hP2 := hide (fieldV_length (num := 2) (by omega) ver)
    have hP3 := hide (fieldB_length (num := 3) (by omega) (repB k s.data.toList))
    have hP4 := hide (fieldV_length (num := 4) (by omega) room)
    have hP5 := hide (fieldB_length (num := 5) (by omega) g)
    have hR1 := hide (fieldB_length (num := 1) (by omega) k)
    have hR2 := hide (fieldB_length (num := 2) (by omega) s.data.toList)
    obtain ⟨i1, hi1⟩ : ∃ i, Hid (i = (fieldB 1 d).length) := ⟨_, rfl⟩
    obtain ⟨i2, hi2⟩ : ∃ i, Hid (i = i1 + (fieldV 2 ver).length) := ⟨_, rfl⟩
    obtain ⟨i3, hi3⟩ : ∃ i, Hid (i = i2 + (fieldB 3 (repB k s.data.toList)).length) := ⟨_, rfl⟩
    obtain ⟨i4, hi4⟩ : ∃ i, Hid (i = i3 + (fieldV 4 room).length) := ⟨_, rfl⟩
    have hL5 : Hid (L = i4 + (fieldB 5 g).length) := by
      show L = _
      rw [hL.out, hi4.out, hi3.out, hi2.out, hi1.out]
      simp only [encB, List.length_append]
      omega
    obtain ⟨rn, hrn⟩ : ∃ i, Hid (i = (repB k s.data.toList).length) := ⟨_, rfl⟩
    obtain ⟨j1, hj1⟩ : ∃ i, Hid (i = (fieldB 1 k).length) := ⟨_, rfl⟩
    have hrn2 : Hid (rn = j1 + (fieldB 2 s.data.toList).length) := by
      show rn = _
      rw [hrn.out, hj1.out]
      simp only [repB, List.length_append]
    have e1 := HL.out
    unfold encB at e1
    have Y1 : Hid (Lies w5 gb 0 0 (fieldB 1 d)) := e1.left
    have e2 := e1.right
    rw [Nat.zero_add, ← hi1.out] at e2
    have Y2 : Hid (Lies w5 gb 0 i1 (fieldV 2 ver)) := e2.left
    have e3 := e2.right
    rw [← hi2.out] at e3
    have Y3 : Hid (Lies w5 gb 0 i2 (fieldB 3 (repB k s.data.toList))) := e3.left
    have e4 := e3.right
    rw [← hi3.out] at e4
    have Y4 : Hid (Lies w5 gb 0 i3 (fieldV 4 room)) := e4.left
    have e5 := e4.right
    rw [← hi4.out] at e5
    have Y5 : Hid (Lies w5 gb 0 i4 (fieldB 5 g)) := e5
    clear e1 e2 e3 e4 e5
    have hll : L ≤ 100000000 := by
      have h1 := hL.out
      rw [encB_length, hd.out, hss.out] at h1
      have := ulen_le hver
      have := ulen_le hroom
      have := hlim.out
      have := ulen_le (x := 32) (by omega)
      have := ulen_le (x := k.length) (by omega)
      have := ulen_le (x := s.size) (by omega)
      have := ulen_le (x := g.length) (by omega)
      have h2 : flen k.length + flen s.size ≤ 2200000 := by unfold flen; omega
      have h3 : flen (flen k.length + flen s.size) ≤ 3000000 := by
        have := ulen_le (x := flen k.length + flen s.size) (by omega)
        show 1 + ulen (flen k.length + flen s.size) + (flen k.length + flen s.size) ≤ 3000000
        omega
      have h4 : flen 32 ≤ 100 := by unfold flen; omega
      have h5 : flen g.length ≤ 1050000 := by unfold flen; omega
      omega
    have o1 : i1 ≤ L := by have := hL5.out; have := hi4.out; have := hi3.out; have := hi2.out; omega
    have o2 : i2 ≤ L := by have := hL5.out; have := hi4.out; have := hi3.out; omega
    have o3 : i3 ≤ L := by have := hL5.out; have := hi4.out; omega
    have o4 : i4 ≤ L := by have := hL5.out; omega
    have orn : rn ≤ L := by have := hi3.out; have h2 := hP3.out; have := hrn.out; unfold flen at h2; omega
    have oj : j1 ≤ rn := by have := hrn2.out; omega
    have S5 : Hid (Below w5.heap.size w5 w5) := Below.refl _ _
    have HG5 := hide hgb
    clear hgb hcs hcss hzs
    -- field 1
    go_wp2_with fail
    refine (read_fieldB 1 (by omega) gb 0 L cap 0 32 (0 + 1 + ulen 32) i1 d hd.out.symm w5 Y1 rfl (by have h1 := hi1.out; have h2 := hP1.out; rw [hd.out] at h2; unfold flen at h2; show _ = _; omega) o1 (by omega) hcap).mono ?_
    rintro e w6 ⟨q1, c1, rfl, hqc1, hq1, hw6⟩
    have S6 : Hid (Below w5.heap.size w5 w6) := by show Below _ _ _; rw [hw6]; exact S5.out.drew
    have T6 : Hid (At w6 (.slice (some ⟨gb, q1, none⟩) 32 c1) d) := by
      have h := (hq1.below S6.out HG5.out).at c1
      rw [hd.out] at h
      exact h
    clear hw6 hq1
    go_wp2_with fail
    refine (eq_any _ _ d d w6 T6.out (D5.out.below S6.out) (by rw [hd.out]; omega) (by rw [hd.out]; omega)).mono ?_
    rintro e w7 ⟨⟨a, rfl, ha⟩, r, hw7⟩
    obtain rfl : a = true := ha.2 rfl
    have S7 : Hid (Below w5.heap.size w5 w7) := by show Below _ _ _; rw [hw7]; exact below_drewN S6.out r
    clear hw7 ha
    -- field 2
    go_wp2_with fail
    refine (read_fieldV 2 (by omega) gb 0 L cap i1 i2 ver hver w7 (Y2.out.below S7.out HG5.out) hi2 o2 (by omega)).mono ?_
    rintro e w8 ⟨rfl, hw8⟩
    have S8 : Hid (Below w5.heap.size w5 w8) := by show Below _ _ _; rw [hw8]; exact S7.out
    clear hw8
    -- field 3
    go_wp2_with fail
    refine (read_fieldB 3 (by omega) gb 0 L cap i2 rn (i2 + 1 + ulen rn) i3 (repB k s.data.toList) hrn w8 (Y3.out.below S8.out HG5.out) rfl (by have h1 := hi3.out; have h2 := hP3.out; rw [← hrn.out] at h2; unfold flen at h2; show _ = _; omega) o3 (by omega) hcap).mono ?_
    rintro e w9 ⟨q3, c3, rfl, hqc3, hq3, hw9⟩
    have S9 : Hid (Below w5.heap.size w5 w9) := by show Below _ _ _; rw [hw9]; exact S8.out.drew
    have e1 : Lies w9 gb q3 0 (repB k s.data.toList) := hq3.below (by rw [hw9]; exact (Below.refl w8.heap.size w8).drew) (Nat.lt_of_lt_of_le HG5.out S8.out.size)
    clear hw9 hq3
    unfold repB at e1
    have Z1 : Hid (Lies w9 gb q3 0 (fieldB 1 k)) := e1.left
    have e2 := e1.right
    rw [Nat.zero_add, ← hj1.out] at e2
    have Z2 : Hid (Lies w9 gb q3 j1 (fieldB 2 s.data.toList)) := e2
    clear e1 e2
    -- the key
    go_wp2_with fail
    refine (read_fieldB 1 (by omega) gb q3 rn c3 0 kn (0 + 1 + ulen kn) j1 k hkn w9 Z1 rfl (by have h1 := hj1.out; have h2 := hR1.out; rw [← hkn.out] at h2; unfold flen at h2; show _ = _; omega) oj (by omega) hqc3).mono ?_
    rintro e w10 ⟨q4, c4, rfl, hqc4, hq4, hw10⟩
    have S10 : Hid (Below w5.heap.size w5 w10) := by show Below _ _ _; rw [hw10]; exact S9.out.drew
    have U10 : Hid (Below w9.heap.size w9 w10) := by show Below _ _ _; rw [hw10]; exact (Below.refl _ w9).drew
    have T10 : Hid (At w10 (.slice (some ⟨gb, q4, none⟩) kn c4) k) := by
      have h := (hq4.below U10.out (Nat.lt_of_lt_of_le HG5.out S9.out.size)).at c4
      rw [← hkn.out] at h
      exact h
    clear hw10 hq4
    go_wp2_with fail
    refine (eq_any _ _ k k w10 T10.out (K5.out.below S10.out) (by have := hlim.out; omega) (by have := hlim.out; omega)).mono ?_
    rintro e w11 ⟨⟨a, rfl, ha⟩, r, hw11⟩
    obtain rfl : a = true := ha.2 rfl
    have S11 : Hid (Below w5.heap.size w5 w11) := by show Below _ _ _; rw [hw11]; exact below_drewN S10.out _
    have U11 : Hid (Below w9.heap.size w9 w11) := by show Below _ _ _; rw [hw11]; exact below_drewN U10.out _
    clear hw11 ha
    -- the address
    go_wp2_with fail
    refine (read_fieldB 2 (by omega) gb q3 rn c3 j1 s.size (j1 + 1 + ulen s.size) rn s.data.toList hss.out.symm w11 (Z2.out.below U11.out (Nat.lt_of_lt_of_le HG5.out S9.out.size)) rfl (by have h1 := hrn2.out; have h2 := hR2.out; rw [hss.out] at h2; unfold flen at h2; show _ = _; omega) (Nat.le_refl _) (by omega) hqc3).mono ?_
    rintro e w12 ⟨q5, c5, rfl, hqc5, hq5, hw12⟩
    have S12 : Hid (Below w5.heap.size w5 w12) := by show Below _ _ _; rw [hw12]; exact S11.out.drew
    have T12 : Hid (At w12 (.slice (some ⟨gb, q5, none⟩) s.size c5) s.data.toList) := by
      have h := (Lies.below (w' := w12) hq5 (by rw [hw12]; exact (Below.refl w11.heap.size w11).drew) (Nat.lt_of_lt_of_le HG5.out S11.out.size)).at c5
      rw [hss.out] at h
      exact h
    clear hw12 hq5
    go_wp2_with fail
    refine (eqStr _ s w12 T12.out (by have := hlim.out; omega)).mono ?_
    rintro e w13 ⟨rfl, r, hw13⟩
    have S13 : Hid (Below w5.heap.size w5 w13) := by show Below _ _ _; rw [hw13]; exact below_drewN S12.out _
    clear hw13
    -- field 4
    go_wp2_with fail
    refine (read_fieldV 4 (by omega) gb 0 L cap i3 i4 room hroom w13 (Y4.out.below S13.out HG5.out) hi4 o4 (by omega)).mono ?_
    rintro e w14 ⟨rfl, hw14⟩
    have S14 : Hid (Below w5.heap.size w5 w14) := by show Below _ _ _; rw [hw14]; exact S13.out
    clear hw14
    -- field 5
    go_wp2_with fail
    refine (read_fieldB 5 (by omega) gb 0 L cap i4 gn (i4 + 1 + ulen gn) L g hgn w14 (Y5.out.below S14.out HG5.out) rfl (by have h1 := hL5.out; have h2 := hP5.out; rw [← hgn.out] at h2; unfold flen at h2; show _ = _; omega) (Nat.le_refl _) (by omega) hcap).mono ?_
    rintro e w15 ⟨q6, c6, rfl, hqc6, hq6, hw15⟩
    have S15 : Hid (Below w5.heap.size w5 w15) := by show Below _ _ _; rw [hw15]; exact S14.out.drew
    have T15 : Hid (At w15 (.slice (some ⟨gb, q6, none⟩) gn c6) g) := by
      have h := (Lies.below (w' := w15) hq6 (by rw [hw15]; exact (Below.refl w14.heap.size w14).drew) (Nat.lt_of_lt_of_le HG5.out S14.out.size)).at c6
      rw [← hgn.out] at h
      exact h
    clear hw15 hq6
    go_wp2_with fail
    refine (eq_any _ _ g g w15 T15.out (G5.out.below S15.out) (by have := hlim.out; omega) (by have := hlim.out; omega)).mono ?_
    rintro e w16 ⟨⟨a, rfl, ha⟩, r, hw16⟩
    obtain rfl : a = true := ha.2 rfl
    have S16 : Hid (Below w5.heap.size w5 w16) := by show Below _ _ _; rw [hw16]; exact below_drewN S15.out _
    clear hw16 ha
    have FIN : Hid (Below w.heap.size w w16) := by
      have h5 : Below w.heap.size w w5 := BW.out.trans (B5.out.mono (Nat.le_succ _))
      exact h5.trans (S16.out.mono h5.size)
    go_wp2
    go_ret
    exact ⟨rfl, FIN.out⟩
end Go.Proofs.Qxb6605598a
