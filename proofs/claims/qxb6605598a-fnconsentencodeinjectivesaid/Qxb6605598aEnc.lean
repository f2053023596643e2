/-
  drive.appendReplicator (24), Consent.Encode (15).
-/
import Derived.Test.Qxb6605598aWire
import Derived.Lib.ConvBytes
namespace Go.Proofs.Qxb6605598a
open Go.RowKit Go.WideShapes
open Go.Lib (byteCells)
set_option linter.unusedVariables false

theorem At.alloc {w : World} {v : Value} {l : List UInt8} (h : At w v l) (o : Obj) : At (w.alloc o) v l := h.keep (World.grownBy_alloc w o none) (fun _ _ e => by cases e)

/-- '[]byte(s)' -/
theorem conv_string (w : World) (s : ByteArray) : ∃ C w', (convert 9 22 (.string s)).run Try.prog w = .ok (.slice (some ⟨w.heap.size, 0, none⟩) s.size C) w' ∧ Hid (w.grownBy w' none) ∧
    Hid (∀ j, (h : j < s.data.toList.length) → w'.cell? ⟨w.heap.size, 0 + j, none⟩ = some (.int .u8 ((s.data.toList)[j]).toNat)) := by
  refine ⟨_, _, Lib.run_convert_string_bytes w 9 22 5 s Try.underlying9 Try.underlying22 Try.underlying5, ⟨rfl, rfl, rfl, ?_, fun k hk _ => Lib.bytesWorld_at_old w 5 s k hk⟩, fun j h => ?_⟩
  · rw [Lib.bytesWorld_size]; omega
  · rw [Nat.zero_add, Lib.bytesWorld_cell w 5 s j (by simpa using h)]
    have h2 : j < s.data.size := by simpa using h
    simp only [List.getD, List.getElem?_eq_getElem h, Option.getD_some]

theorem Grew.after {sv v : Value} {w w1 w2 : World} (h : Below w.heap.size w w1) (g : Grew sv w1 v w2) : Grew sv w v w2 := by
  have hs : w.heap.size ≤ w1.heap.size := h.size
  refine ⟨⟨g.grown.os.trans h.os, g.grown.tape.trans h.tape, g.grown.output.trans h.output, Nat.le_trans hs g.grown.size, fun i hi hne => (g.grown.block i (Nat.lt_of_lt_of_le hi hs) hne).trans (h.block i hi)⟩, ?_⟩
  rcases g.kin with e | ⟨j, e, hj⟩
  · exact .inl e
  · exact .inr ⟨j, e, Nat.le_trans hs hj⟩

theorem Owns.below {w w1 : World} {v : Value} {l : List UInt8} (h : Owns w v l) (b : Below w.heap.size w w1) : Owns w1 v l := by
  refine ⟨h.1, ?_⟩
  rcases h.2 with hn | ⟨g, cap, cur, rfl, hb, hgg, rest⟩
  · exact .inl hn
  · exact .inr ⟨g, cap, cur, rfl, hb, (b.block g (Array.getElem?_eq_some_iff.1 hgg).1).trans hgg, rest⟩

theorem Owns.lt {w : World} {v : Value} {l : List UInt8} (h : Owns w v l) : ∀ b, v.ownBlock = some b → b < w.heap.size := fun b hb => (World.ownsRow.lt h b hb).2

/-- what lies in a block that is new since B -/
def New (B : Nat) (v : Value) : Prop := ∀ b, v.ownBlock = some b → B ≤ b
theorem New.nil (B : Nat) : New B (.slice none 0 0) := fun b h => by cases h
theorem New.grew {B : Nat} {v v' : Value} {w w' : World} (h : New B v) (g : Grew v w v' w') (hB : B ≤ w.heap.size) : New B v' := fun b hb => by
  rcases g.kin with e | ⟨j, e, hj⟩
  · exact h b (e ▸ hb)
  · rw [hb] at e
    simp only [Option.some.injEq] at e
    omega
theorem New.below {B : Nat} {v v' : Value} {w0 w w' : World} (h : New B v) (b : Below B w0 w) (g : Grew v w v' w') (hB : B ≤ w.heap.size) : Below B w0 w' := b.grown g.grown hB (fun k e => h k e)

set_option maxHeartbeats 1000000 in
theorem append_rep (num : Nat) (hnum : num ≤ 5) (sv kv : Value) (s : ByteArray) (xs k : List UInt8) (w : World) (hown : Owns w sv xs) (hk : At w kv k)
    (hlim : xs.length + k.length + s.size + 100 ≤ 140737488355328) :
    Calls Try.prog 24 #[sv, .int .i64 num, .agg #[kv, .string s]] w fun e w' => ∃ v', e = .returned v' ∧ Owns w' v' (xs ++ fieldB num (repB k s.data.toList)) ∧ Grew sv w v' w' := by
  have HS : Hid (s.data.toList.length = s.size) := by show _ = _; simp
  have hl1 := hide (ulen_le (x := k.length) (by omega))
  have hl2 := hide (ulen_le (x := s.size) (by omega))
  have hf1 := hide (fieldB_length (num := 1) (by omega) k)
  have hf2 := hide (repB_length k s.data.toList)
  go_enter Try.func24, Try.ntmps24
  go_wp2_with fail
  refine (append_bytes 1 (by omega) (.slice none 0 0) kv [] k _ (Owns.nil _) (hk.alloc _) (fun b _ e => by cases e) (by simp; omega)).mono ?_
  rintro e w1 ⟨v1, rfl, o1, g1⟩
  have hc1 : w1.cell? ⟨w.heap.size, 1, none⟩ = some (.string s) := g1.grown.cell (by simp) (fun e => by cases e)
  obtain ⟨C, w2, hcv, g2, hc2⟩ := conv_string w1 s
  have B1 : Hid (Below w.heap.size w w1) := (New.nil _).below ((Below.refl _ w).alloc (Nat.le_refl _) _) g1 (by simp)
  have B2 : Hid (Below w.heap.size w w2) := B1.out.grown g2.out B1.out.size (fun k e => by cases e)
  have N1 : Hid (New w.heap.size v1) := (New.nil _).grew g1 (by simp)
  have L1 : Hid (∀ b, v1.ownBlock = some b → b < w1.heap.size) := o1.lt
  have O1 : Hid (Owns w2 v1 ([] ++ fieldB 1 k)) := Owns.below o1 ((Below.refl _ _).grown g2.out (Nat.le_refl _) (fun k e => by cases e))
  clear g1 o1
  go_wp2_with fail
  refine (append_bytes_some 2 (by omega) v1 ([] ++ fieldB 1 k) w1.heap.size 0 C s.size s.data.toList (by have := HS.out; exact this.symm) w2 O1.out hc2 (fun e => by have := L1.out _ e.symm; omega) (by have := hf1.out; have := hl1.out; simp only [List.nil_append, flen] at *; omega)).mono ?_
  rintro e w3 ⟨v3, rfl, o3, g3⟩
  have B3 : Hid (Below w.heap.size w w3) := N1.out.below B2.out g3 B2.out.size
  have N3 : Hid (New w.heap.size v3) := N1.out.grew g3 B2.out.size
  have O3 : Hid (Owns w3 v3 (repB k s.data.toList)) := by show Owns w3 v3 (repB k s.data.toList); simpa [repB] using o3
  clear g3 o3
  go_wp2_with fail
  refine (append_bytes num hnum sv v3 xs (repB k s.data.toList) w3 (hown.below B3.out) O3.out.at (fun b hb e => by have := N3.out b hb; have := hown.lt b e.symm; omega) (by have := hf2.out; have := hl1.out; have := hl2.out; have := HS.out; simp only [flen] at *; rw [HS.out] at *; omega)).mono ?_
  rintro e w4 ⟨v4, rfl, o4, g4⟩
  have O4 := hide o4
  have G4 := hide (g4.after B3.out)
  clear o4 g4
  go_wp2
  go_ret
  exact ⟨v4, rfl, O4.out, G4.out⟩

/-- A consent, its cells: the drive's 32 bytes, the version, the key, the address, the room, the signature -/
def consent (d : List UInt8) (ver : Nat) (kv : Value) (s : ByteArray) (room : Nat) (gv : Value) : Array Value :=
  (byteCells d ++ [.int .u64 ver, kv, .string s, .int .u64 room, gv]).toArray

theorem consent_size {d : List UInt8} (hd : d.length = 32) (ver : Nat) (kv : Value) (s : ByteArray) (room : Nat) (gv : Value) : (consent d ver kv s room gv).size = 37 := by
  simp [consent, byteCells, hd]
theorem consent_tail {d : List UInt8} (hd : d.length = 32) (ver : Nat) (kv : Value) (s : ByteArray) (room : Nat) (gv : Value) (i : Nat) :
    (consent d ver kv s room gv)[32 + i]? = [Value.int .u64 ver, kv, .string s, .int .u64 room, gv][i]? := by
  have h : (byteCells d).length = 32 := by rw [Lib.byteCells_length, hd]
  simp only [consent, List.getElem?_toArray]
  rw [List.getElem?_append_right (by omega), h, Nat.add_sub_cancel_left]
theorem consent_head {d : List UInt8} (hd : d.length = 32) (ver : Nat) (kv : Value) (s : ByteArray) (room : Nat) (gv : Value) (i : Nat) (hi : i < d.length) :
    (consent d ver kv s room gv)[i]? = some (.int .u8 (d[i]).toNat) := by
  have h : (byteCells d).length = d.length := Lib.byteCells_length d
  simp only [consent, List.getElem?_toArray]
  rw [List.getElem?_append_left (by omega)]
  simp [byteCells, hi]

theorem cell_boxed (w : World) (c : Array Value) (t : TypeId) (i : Nat) : (w.alloc (.cells c t)).cell? ⟨w.heap.size, i, none⟩ = c[i]? :=
  cell_of_row _ _ i c t (0, 0) (Go.Deep.blk_alloc_new _ _)

set_option maxHeartbeats 1000000 in
theorem encode (d : List UInt8) (hd : d.length = 32) (ver : Nat) (hver : ver < 18446744073709551616) (kv : Value) (s : ByteArray) (room : Nat) (hroom : room < 18446744073709551616) (gv : Value) (k g : List UInt8) (w : World)
    (hk : At w kv k) (hg : At w gv g) (hgl : Hid (∀ b, gv.ownBlock = some b → b < w.heap.size)) (hlim : k.length + s.size + g.length ≤ 1048576) :
    Calls Try.prog 15 #[.agg (consent d ver kv s room gv)] w fun e w' => ∃ v', e = .returned v' ∧ Owns w' v' (encB d ver k s.data.toList room g) ∧ Below w.heap.size w w' ∧ New w.heap.size v' := by
  obtain ⟨c, hc⟩ : ∃ c, Hid (c = consent d ver kv s room gv) := ⟨_, rfl⟩
  rw [← hc.out]
  have HS : Hid (s.data.toList.length = s.size) := by show _ = _; simp
  have HD := hide hd
  clear hd
  have l0 := hide (ulen_le (x := 32) (by omega))
  have l1 := hide (ulen_le (x := k.length) (by omega))
  have l2 := hide (ulen_le (x := s.size) (by omega))
  have l3 := hide (ulen_le hver)
  have l4 := hide (ulen_le hroom)
  have l5 := hide (ulen_le (x := flen k.length + flen s.size) (by have := l1.out; have := l2.out; unfold flen; omega))
  have f1 := hide (fieldB_length (num := 1) (by omega) d)
  have f2 := hide (fieldV_length (num := 2) (by omega) ver)
  have f3 := hide (fieldB_length (num := 3) (by omega) (repB k s.data.toList))
  have f4 := hide (fieldV_length (num := 4) (by omega) room)
  have f5 := hide (repB_length k s.data.toList)
  obtain ⟨w0, hw0⟩ : ∃ w0, Hid (w0 = w.alloc (.cells c 38)) := ⟨_, rfl⟩
  have z0 : Hid (w0.heap.size = w.heap.size + 1) := by show _ = _; rw [hw0.out]; simp
  have B0 : Hid (Below (w.heap.size + 1) w0 w0) := Below.refl _ _
  have BW : Hid (Below w.heap.size w w0) := by show Below _ _ _; rw [hw0.out]; exact (Below.refl _ w).alloc (Nat.le_refl _) _
  have K0 : Hid (At w0 kv k) := by show At _ _ _; rw [hw0.out]; exact hk.alloc _
  have Q0 : Hid (At w0 gv g) := by show At _ _ _; rw [hw0.out]; exact hg.alloc _
  have cell : Hid (∀ i, w0.cell? ⟨w.heap.size, i, none⟩ = (consent d ver kv s room gv)[i]?) := fun i => by rw [hw0.out, ← hc.out]; exact cell_boxed w c 38 i
  have D0 : Hid (At w0 (.slice (some ⟨w.heap.size, 0, none⟩) 32 32) d) := .inr ⟨w.heap.size, 0, 32, by rw [HD.out], fun j hj => by rw [Nat.zero_add, cell.out, consent_head HD.out _ _ _ _ _ j hj]⟩
  clear hk hg
  go_enter Try.func15, Try.ntmps15
  go_wp2_with fail
  rw [← hw0.out]
  refine (append_bytes 1 (by omega) (.slice none 0 0) _ [] d w0 (Owns.nil _) D0.out (fun b _ e => by cases e) (by have := HD.out; simp; omega)).mono ?_
  rintro e w1 ⟨v1, rfl, o1, g1⟩
  have B1 : Hid (Below (w.heap.size + 1) w0 w1) := (New.nil _).below B0.out g1 (by rw [z0.out]; exact Nat.le_refl _)
  have N1 : Hid (New (w.heap.size + 1) v1) := (New.nil _).grew g1 (by rw [z0.out]; exact Nat.le_refl _)
  have O1 : Hid (Owns w1 v1 (fieldB 1 d)) := o1
  have S1 : Hid (w.heap.size + 1 ≤ w1.heap.size) := by have := B1.out.size; have := z0.out; show _ ≤ _; omega
  have c1 : w1.cell? ⟨w.heap.size, 32, none⟩ = some (.int .u64 ver) := (B1.out.cell (p := ⟨w.heap.size, 32, none⟩) (Nat.lt_succ_self _)).trans ((cell.out 32).trans (consent_tail HD.out _ _ _ _ _ 0))
  clear o1 g1
  go_wp2_with fail
  refine (append_varint 2 (by omega) ver hver v1 _ w1 O1.out (by have := f1.out; have := HD.out; have := l0.out; rw [HD.out] at *; simp only [flen] at *; omega)).mono ?_
  rintro e w2 ⟨v2, rfl, o2, g2⟩
  have B2 : Hid (Below (w.heap.size + 1) w0 w2) := N1.out.below B1.out g2 S1.out
  have N2 : Hid (New (w.heap.size + 1) v2) := N1.out.grew g2 S1.out
  have O2 : Hid (Owns w2 v2 (fieldB 1 d ++ fieldV 2 ver)) := o2
  have S2 : Hid (w.heap.size + 1 ≤ w2.heap.size) := by have := B2.out.size; have := z0.out; show _ ≤ _; omega
  have c2 : w2.cell? ⟨w.heap.size, 33, none⟩ = some kv := (B2.out.cell (p := ⟨w.heap.size, 33, none⟩) (Nat.lt_succ_self _)).trans ((cell.out 33).trans (consent_tail HD.out _ _ _ _ _ 1))
  have c2' : w2.cell? ⟨w.heap.size, 34, none⟩ = some (.string s) := (B2.out.cell (p := ⟨w.heap.size, 34, none⟩) (Nat.lt_succ_self _)).trans ((cell.out 34).trans (consent_tail HD.out _ _ _ _ _ 2))
  have K2 : Hid (At w2 kv k) := K0.out.below (by rw [z0.out]; exact B2.out)
  clear o2 g2 c1
  go_wp2_with fail
  refine (append_rep 3 (by omega) v2 kv s _ k w2 O2.out K2.out (by have := f1.out; have := f2.out; have := l3.out; have := l0.out; rw [List.length_append]; rw [HD.out] at *; simp only [flen] at *; omega)).mono ?_
  rintro e w3 ⟨v3, rfl, o3, g3⟩
  have B3 : Hid (Below (w.heap.size + 1) w0 w3) := N2.out.below B2.out g3 S2.out
  have N3 : Hid (New (w.heap.size + 1) v3) := N2.out.grew g3 S2.out
  have O3 : Hid (Owns w3 v3 (fieldB 1 d ++ fieldV 2 ver ++ fieldB 3 (repB k s.data.toList))) := o3
  have S3 : Hid (w.heap.size + 1 ≤ w3.heap.size) := by have := B3.out.size; have := z0.out; show _ ≤ _; omega
  have c3 : w3.cell? ⟨w.heap.size, 35, none⟩ = some (.int .u64 room) := (B3.out.cell (p := ⟨w.heap.size, 35, none⟩) (Nat.lt_succ_self _)).trans ((cell.out 35).trans (consent_tail HD.out _ _ _ _ _ 3))
  clear o3 g3 c2 c2'
  have L3 : Hid ((fieldB 1 d ++ fieldV 2 ver ++ fieldB 3 (repB k s.data.toList)).length + 100000 ≤ 100000000) := by
    show _ ≤ _
    have := f1.out; have := f2.out; have := f3.out; have := f5.out; have := l0.out; have := l1.out; have := l2.out; have := l3.out; have := l5.out; have := HS.out
    simp only [List.length_append]
    rw [HD.out] at *
    rw [HS.out] at *
    rw [f5.out] at *
    simp only [flen] at *
    omega
  go_wp2_with fail
  refine (append_varint 4 (by omega) room hroom v3 _ w3 O3.out (by have := L3.out; omega)).mono ?_
  rintro e w4 ⟨v4, rfl, o4, g4⟩
  have B4 : Hid (Below (w.heap.size + 1) w0 w4) := N3.out.below B3.out g4 S3.out
  have N4 : Hid (New (w.heap.size + 1) v4) := N3.out.grew g4 S3.out
  have O4 : Hid (Owns w4 v4 (fieldB 1 d ++ fieldV 2 ver ++ fieldB 3 (repB k s.data.toList) ++ fieldV 4 room)) := o4
  have S4 : Hid (w.heap.size + 1 ≤ w4.heap.size) := by have := B4.out.size; have := z0.out; show _ ≤ _; omega
  have c4 : w4.cell? ⟨w.heap.size, 36, none⟩ = some gv := (B4.out.cell (p := ⟨w.heap.size, 36, none⟩) (Nat.lt_succ_self _)).trans ((cell.out 36).trans (consent_tail HD.out _ _ _ _ _ 4))
  have Q4 : Hid (At w4 gv g) := Q0.out.below (by rw [z0.out]; exact B4.out)
  have X4 : Hid (∀ b, gv.ownBlock = some b → some b ≠ v4.ownBlock) := fun b hb e => by have := hgl.out b hb; have := N4.out b e.symm; omega
  clear o4 g4 c3
  go_wp2_with fail
  refine (append_bytes 5 (by omega) v4 gv _ g w4 O4.out Q4.out X4.out (by have := L3.out; have := f4.out; have := l4.out; rw [List.length_append]; omega)).mono ?_
  rintro e w5 ⟨v5, rfl, o5, g5⟩
  have B5 : Hid (Below w.heap.size w w5) := BW.out.trans ((N4.out.below B4.out g5 S4.out).mono (Nat.le_succ _))
  have N5 : Hid (New w.heap.size v5) := fun b hb => Nat.le_of_succ_le (N4.out.grew g5 S4.out b hb)
  have O5 : Hid (Owns w5 v5 (encB d ver k s.data.toList room g)) := by
    show Owns w5 v5 (encB d ver k s.data.toList room g)
    simpa [encB] using o5
  clear o5 g5 c4
  go_wp2
  go_ret
  exact ⟨v5, rfl, O5.out, B5.out, N5.out⟩
end Go.Proofs.Qxb6605598a
