/-
  binary.AppendUvarint (25), pbwire.AppendBytes (22), pbwire.AppendVarint (23): onto a slice of one's own.
-/
import Derived.Test.Qxb6605598aRows
import Derived.Test.Qxb6605598aPure
import Derived.WalkKit
import Derived.ProofKit
import Derived.WalkSpells
import Derived.WalkLawsBesides
import Derived.Deep.OwnRows
import Derived.Deep.LoopGhost
import Derived.Deep.QuietTactic
import Derived.BigQuiet
import Derived.Maps.AppendAt
import Derived.Laws.AppendOwnNone
import Derived.Lib.Walk
import Derived.Lib.VarintMem
import Derived.Lib.VarintBits
import Derived.Lib.Slices
import Derived.Lib.BufferWrite
import Derived.OwnWalk
namespace Go.Proofs.Qxb6605598a
open Go.RowKit Go.WideShapes
open Go.Lib (byteCells)
set_option linter.unusedVariables false

theorem Try.info5 : (Try.prog.info? 5).map (fun i => (i.zero, i.size, i.bytes)) = some (some (.int .u8 0), 1, 1) := by kernel_rfl

theorem hide {p : Prop} (h : p) : Hid p := h

/-- From (sv, w) to (v', w'): of the old blocks sv's own alone may have turned; v' lies in it or in a new one. -/
structure Grew (sv : Value) (w : World) (v' : Value) (w' : World) : Prop where
  grown : w.grownBy w' sv.ownBlock
  kin : v'.ownBlock = sv.ownBlock ∨ ∃ k, v'.ownBlock = some k ∧ w.heap.size ≤ k

theorem Grew.refl (sv : Value) (w : World) : Grew sv w sv w := ⟨⟨rfl, rfl, rfl, Nat.le_refl _, fun _ _ _ => rfl⟩, .inl rfl⟩

theorem Grew.trans {a b c : Value} {w w1 w2 : World} (h : Grew a w b w1) (k : Grew b w1 c w2) : Grew a w c w2 := by
  refine ⟨⟨k.grown.os.trans h.grown.os, k.grown.tape.trans h.grown.tape, k.grown.output.trans h.grown.output, Nat.le_trans h.grown.size k.grown.size, fun i hi hne => ?_⟩, ?_⟩
  · refine (k.grown.block i (Nat.lt_of_lt_of_le hi h.grown.size) ?_).trans (h.grown.block i hi hne)
    rcases h.kin with e | ⟨j, e, hj⟩
    · rw [e]; exact hne
    · rw [e]; intro e2; simp only [Option.some.injEq] at e2; omega
  · rcases k.kin with e | ⟨j, e, hj⟩
    · rw [e]; exact h.kin
    · exact .inr ⟨j, e, Nat.le_trans h.grown.size hj⟩

theorem Grew.drew {a b : Value} {w w1 : World} (h : Grew a w b w1) : Grew a w b w1.drew := ⟨⟨h.grown.os, h.grown.tape, h.grown.output, h.grown.size, h.grown.block⟩, h.kin⟩
theorem Grew.alloc {a b : Value} {w w1 : World} (h : Grew a w b w1) (o : Obj) : Grew a w b (w1.alloc o) := by
  refine ⟨⟨h.grown.os, h.grown.tape, h.grown.output, ?_, fun i hi hne => ?_⟩, h.kin⟩
  · have := h.grown.size; simp; omega
  · exact (Below.heap_alloc w1 o i (Nat.lt_of_lt_of_le hi h.grown.size)).trans (h.grown.block i hi hne)

/-- one append onto what has grown -/
theorem Grew.step {a b c : Value} {w w1 w2 : World} (h : Grew a w b w1) (o : Obj) (hg : (w1.alloc o).grownBy w2 b.ownBlock) (hk : c.ownBlock = b.ownBlock ∨ c.ownBlock = some (w1.heap.size + 1)) : Grew a w c w2 := by
  refine (h.alloc o).trans ⟨hg, ?_⟩
  rcases hk with e | e
  · exact .inl e
  · exact .inr ⟨_, e, by simp⟩

/-- a slice of one's own, and its bytes -/
def Owns (w : World) (v : Value) (l : List UInt8) : Prop := w.ownsRow 0 5 1 v l.length (byteCells l)

theorem Owns.nil (w : World) : Owns w (.slice none 0 0) [] := World.ownsRow_nil _ _ _ _

theorem uv_le {x : Nat} (h : x < 18446744073709551616) : (uv x).length ≤ 10 := Lib.uvarint_length64 h

theorem u8_or2 (n : Nat) (h : n ≤ 5) : ∃ t : Nat, Hid (t = n * 8 + 2) ∧ bits .or .u64 ((n : Int) * 8) 2 = (t : Int) := by
  refine ⟨n * 8 + 2, rfl, ?_⟩
  have : n = 0 ∨ n = 1 ∨ n = 2 ∨ n = 3 ∨ n = 4 ∨ n = 5 := by omega
  rcases this with rfl | rfl | rfl | rfl | rfl | rfl <;> rfl
theorem u8_or0 (n : Nat) (h : n ≤ 5) : ∃ t : Nat, Hid (t = n * 8) ∧ bits .or .u64 ((n : Int) * 8) 0 = (t : Int) := by
  refine ⟨n * 8, rfl, ?_⟩
  have : n = 0 ∨ n = 1 ∨ n = 2 ∨ n = 3 ∨ n = 4 ∨ n = 5 := by omega
  rcases this with rfl | rfl | rfl | rfl | rfl | rfl <;> rfl

set_option maxHeartbeats 8000000 in
set_option maxRecDepth 100000 in
theorem append_uv (x : Nat) (hx : x < 18446744073709551616) (sv : Value) (xs : List UInt8) (w : World) (hown : Owns w sv xs) (hlim : xs.length + 10 ≤ 140737488355328) :
    Calls Try.prog 25 #[sv, .int .u64 x] w fun e w' => ∃ v', e = .returned v' ∧ Owns w' v' (xs ++ uv x) ∧ Grew sv w v' w' := by
  obtain ⟨i0, hi, hz0, hz1, hz2⟩ := info_parts Try.info5
  have hlen := Lib.uvarint_length64 hx
  go_enter Try.func25, Try.ntmps25
  go_wp2
  go_loopw [0, 1] (fun vb vx wr => ∃ (y : Nat) (pre : List UInt8), vx = .int .u64 y ∧ y ≤ x ∧ Lib.uvarint x = pre ++ Lib.uvarint y ∧ Owns wr vb (xs ++ pre) ∧ Grew sv w vb wr)
    (fun _ vx _ => (intOf vx).toNat)
  case atStart => exact ⟨x, [], rfl, Nat.le_refl _, rfl, by simpa using hown, Grew.refl _ _⟩
  case round =>
    obtain ⟨y, pre, rfl, hy, hsplit, hown1, hnx⟩ := hrel
    have hpl : pre.length + (Lib.uvarint y).length ≤ 10 := by
      have h2 := congrArg List.length hsplit
      rw [List.length_append] at h2
      omega
    have hyp := Lib.uvarint_pos y
    have hll : (xs ++ pre).length = xs.length + pre.length := List.length_append
    by_cases h128 : 128 ≤ y
    · have hor : bits .or .u8 ((y : Int) % 256) 128 = ((y % 128 + 128 : Nat) : Int) := by
        rw [Lib.u8_or128_any _ (by omega) (by omega)]
        omega
      go_wp2_with (at_builtin; refine wpList_append_own_at _ rfl _ _ 22 rfl 0 5 i0 (.int .u8 0) 1 1 Try.underlying22 hi hz0 hz1 hz2 rfl (by decide) _ _ _ rfl (World.ownsRow.alloc hown1 _) ⟨wr.heap.size, 0, none⟩ 1 1 [Value.int .u8 ((y % 128 + 128 : Nat) : Int)] rfl rfl ?c1 ?c2 ?c3 ?c4 ?c5 ?_)
      case c1 =>
        intro j u hj
        match j, hj with
        | 0, hj => simp at hj; subst hj; simp [Addr.add]
      case c2 => intro u hu; simp at hu; subst hu; rfl
      case c3 => unfold maxLen; omega
      case c4 => omega
      case c5 => exact Nat.zero_le _
      intro v' w1 hown' hgrow _ hkin
      have G : Hid (Grew sv w v' w1) := hnx.step _ hgrow hkin
      have O : Hid (Owns w1 v' (xs ++ (pre ++ [(y % 128 + 128).toUInt8]))) := by
        show World.ownsRow _ _ _ _ _ _ _
        rw [← List.append_assoc, Lib.byteCells_snoc (xs ++ pre) (by omega), @List.length_append _ (xs ++ pre), List.length_singleton, hll]
        first | exact hown' | (rw [show ((y % 128 + 128 : Nat) : Int) = (y : Int) % 128 + 128 by omega]; exact hown')
      clear hown' hgrow hkin hown1 hnx
      go_wp2
      go_roundw
      case rel => exact ⟨y / 128, pre ++ [(y % 128 + 128).toUInt8], by go_num, by omega, by rw [hsplit, Lib.uvarint_big h128]; simp, O.out, G.out⟩
      case measure => simp [intOf]; omega
    · have hsm : Lib.uvarint y = [y.toUInt8] := Lib.uvarint_small (by omega)
      go_wp2_with (at_builtin; refine wpList_append_own_at _ rfl _ _ 22 rfl 0 5 i0 (.int .u8 0) 1 1 Try.underlying22 hi hz0 hz1 hz2 rfl (by decide) _ _ _ rfl (World.ownsRow.alloc hown1 _) ⟨wr.heap.size, 0, none⟩ 1 1 [Value.int .u8 (y : Int)] rfl rfl ?c1 ?c2 ?c3 ?c4 ?c5 ?_)
      case c1 =>
        intro j u hj
        match j, hj with
        | 0, hj => simp at hj; subst hj; simp [Addr.add]
      case c2 => intro u hu; simp at hu; subst hu; rfl
      case c3 => unfold maxLen; omega
      case c4 => omega
      case c5 => exact Nat.zero_le _
      intro v' w1 hown' hgrow _ hkin
      have G : Hid (Grew sv w v' w1) := hnx.step _ hgrow hkin
      have O : Hid (Owns w1 v' (xs ++ uv x)) := by
        show World.ownsRow _ _ _ _ _ _ _
        rw [uv, hsplit, hsm, ← List.append_assoc, Lib.byteCells_snoc (xs ++ pre) (by omega), @List.length_append _ (xs ++ pre), List.length_singleton, hll]
        first | exact hown' | (rw [show ((y % 128 + 128 : Nat) : Int) = (y : Int) % 128 + 128 by omega]; exact hown')
      clear hown' hgrow hkin hown1 hnx
      go_wp2
      go_ret
      exact ⟨v', rfl, O.out, G.out⟩

/-- a slice, and the bytes that it shows -/
def At (w : World) (v : Value) (l : List UInt8) : Prop :=
  (v = .slice none 0 0 ∧ l = []) ∨ ∃ b o c, v = .slice (some ⟨b, o, none⟩) l.length c ∧ ∀ j, (h : j < l.length) → w.cell? ⟨b, o + j, none⟩ = some (.int .u8 (l[j]).toNat)

theorem At.keep {w w' : World} {v : Value} {l : List UInt8} {ob : Option Nat} (h : At w v l) (g : w.grownBy w' ob) (hne : ∀ b, v.ownBlock = some b → some b ≠ ob) : At w' v l := by
  rcases h with ⟨rfl, rfl⟩ | ⟨b, o, c, rfl, hc⟩
  · exact .inl ⟨rfl, rfl⟩
  · exact .inr ⟨b, o, c, rfl, fun j hj => g.cell (hc j hj) (hne b rfl)⟩

theorem At.below {w w' : World} {v : Value} {l : List UInt8} (h : At w v l) (g : Below w.heap.size w w') : At w' v l := by
  rcases h with ⟨rfl, rfl⟩ | ⟨b, o, c, rfl, hc⟩
  · exact .inl ⟨rfl, rfl⟩
  · exact .inr ⟨b, o, c, rfl, fun j hj => (g.cell (World.block_lt_of_cell? w _ (hc j hj))).trans (hc j hj)⟩

theorem At.drew {w : World} {v : Value} {l : List UInt8} (h : At w v l) : At w.drew v l := h

theorem Owns.at {w : World} {v : Value} {l : List UInt8} (h : Owns w v l) : At w v l := by
  rcases h.2 with ⟨rfl, h0⟩ | ⟨g, cap, cur, rfl, _, hg, _, _, _, ht⟩
  · exact .inl ⟨rfl, List.eq_nil_of_length_eq_zero h0⟩
  · refine .inr ⟨g, 0, cap, rfl, fun j hj => ?_⟩
    rw [Nat.zero_add, cell_of_row _ _ j cur 5 (0, 0) hg]
    have e : (cur.toList.take (l.length * 1))[j]? = (byteCells l)[j]? := by rw [ht]
    rw [List.getElem?_take_of_lt (by omega)] at e
    simpa [byteCells, hj] using e

theorem At.news {w : World} {b o c : Nat} {l : List UInt8} (h : ∀ j, (hj : j < l.length) → w.cell? ⟨b, o + j, none⟩ = some (.int .u8 (l[j]).toNat)) :
    ∀ j u, (byteCells l)[j]? = some u → w.cell? ((⟨b, o, none⟩ : Addr).add j) = some u := by
  intro j u hu
  rw [add_plain]
  simp only [byteCells, List.getElem?_map] at hu
  obtain ⟨x, hx, rfl⟩ := Option.map_eq_some_iff.1 hu
  obtain ⟨hj, rfl⟩ := List.getElem?_eq_some_iff.1 hx
  exact h j hj

theorem owns_more {w : World} {v : Value} {xs l : List UInt8} (h : w.ownsRow 0 5 1 v (xs.length + l.length) (byteCells xs ++ byteCells l)) : Owns w v (xs ++ l) := by
  unfold Owns
  rw [Lib.byteCells_append, List.length_append]
  exact h

set_option maxHeartbeats 1000000 in
theorem append_bytes_nil (num : Nat) (hnum : num ≤ 5) (sv : Value) (xs : List UInt8) (w : World) (hown : Owns w sv xs) (hlim : xs.length + 20 ≤ 140737488355328) :
    Calls Try.prog 22 #[sv, .int .i64 num, .slice none 0 0] w fun e w' => ∃ v', e = .returned v' ∧ Owns w' v' (xs ++ fieldB num []) ∧ Grew sv w v' w' := by
  obtain ⟨i0, hi, hz0, hz1, hz2⟩ := info_parts Try.info5
  obtain ⟨t, ht, hor⟩ := u8_or2 num hnum
  have ht5 : t < 256 := by have := ht.out; omega
  have hl1 := hide (uv_le (x := t) (by omega))
  go_enter Try.func22, Try.ntmps22
  go_wp2_with fail
  refine (append_uv t (by omega) sv xs w hown (by omega)).mono ?_
  rintro e w1 ⟨v1, rfl, o1, g1⟩
  go_wp2_with fail
  refine (append_uv 0 (by omega) v1 (xs ++ uv t) w1 o1 (by have := hl1.out; rw [List.length_append]; omega)).mono ?_
  rintro e w2 ⟨v2, rfl, o2, g2⟩
  go_wp2_with (at_builtin; refine wpList_append_own_none rfl _ _ 22 rfl 0 5 i0 1 Try.underlying22 hi _ _ _ rfl o2 rfl ?_)
  go_wp2
  go_ret
  exact ⟨v2, rfl, by have e := ht.out; subst e; simpa [fieldB] using o2, g1.trans g2⟩

set_option maxHeartbeats 1000000 in
theorem append_bytes_some (num : Nat) (hnum : num ≤ 5) (sv : Value) (xs : List UInt8) (b o c n : Nat) (l : List UInt8) (hn : Hid (n = l.length)) (w : World) (hown : Owns w sv xs)
    (HA : Hid (∀ j, (h : j < l.length) → w.cell? ⟨b, o + j, none⟩ = some (.int .u8 (l[j]).toNat))) (hne : some b ≠ sv.ownBlock) (hlim : xs.length + n + 20 ≤ 140737488355328) :
    Calls Try.prog 22 #[sv, .int .i64 num, .slice (some ⟨b, o, none⟩) n c] w fun e w' => ∃ v', e = .returned v' ∧ Owns w' v' (xs ++ fieldB num l) ∧ Grew sv w v' w' := by
  obtain ⟨i0, hi, hz0, hz1, hz2⟩ := info_parts Try.info5
  obtain ⟨t, ht, hor⟩ := u8_or2 num hnum
  have ht5 : t < 256 := by have := ht.out; omega
  have hl1 := hide (uv_le (x := t) (by omega))
  have hl2 := hide (uv_le (x := n) (by omega))
  have HN := hide hne
  clear hne
  go_enter Try.func22, Try.ntmps22
  go_wp2_with fail
  refine (append_uv t (by omega) sv xs w hown (by omega)).mono ?_
  rintro e w1 ⟨v1, rfl, o1, g1⟩
  go_wp2_with fail
  refine (append_uv n (by omega) v1 (xs ++ uv t) w1 o1 (by have := hl1.out; rw [List.length_append]; omega)).mono ?_
  rintro e w2 ⟨v2, rfl, o2, g2⟩
  have G := g1.trans g2
  have hll : (xs ++ uv t ++ uv n).length = xs.length + (uv t).length + (uv n).length := by simp only [List.length_append]
  have hl3 : (xs ++ uv t ++ uv n).length + n ≤ 140737488355328 := by have := hl1.out; have := hl2.out; omega
  have HL := hide hl3
  clear hll hl3
  go_wp2_with (at_builtin; refine wpList_append_own_at _ rfl _ _ 22 rfl 0 5 i0 (.int .u8 0) 1 1 Try.underlying22 hi hz0 hz1 hz2 rfl (by decide) _ _ _ rfl o2 ⟨b, o, none⟩ n c (byteCells l) rfl (by have := hn.out; simp [byteCells, this]) (At.news (c := c) fun j hj => G.grown.cell (HA.out j hj) HN.out) (Lib.byteCells_one l) (by have := HL.out; unfold maxLen; omega) (by have := HL.out; omega) (Nat.zero_le _) ?_)
  intro v' w3 hown' hgrow _ hkin
  have O : Hid (Owns w3 v' (xs ++ fieldB num l)) := by
    have e := hn.out
    have e2 := ht.out
    subst e e2
    have := owns_more (xs := xs ++ uv (num * 8 + 2) ++ uv l.length) (l := l) (by simpa using hown')
    show Owns w3 v' (xs ++ fieldB num l)
    simpa [fieldB] using this
  have G3 : Hid (Grew sv w v' w3) := G.trans ⟨hgrow, by
    rcases hkin with e | e
    · exact .inl e
    · exact .inr ⟨_, e, Nat.le_refl _⟩⟩
  clear hown' hgrow hkin
  go_wp2
  go_ret
  exact ⟨v', rfl, O.out, G3.out⟩

/-- pbwire.AppendBytes -/
theorem append_bytes (num : Nat) (hnum : num ≤ 5) (sv v : Value) (xs l : List UInt8) (w : World) (hown : Owns w sv xs) (hat : At w v l) (hne : ∀ b, v.ownBlock = some b → some b ≠ sv.ownBlock) (hlim : xs.length + l.length + 20 ≤ 140737488355328) :
    Calls Try.prog 22 #[sv, .int .i64 num, v] w fun e w' => ∃ v', e = .returned v' ∧ Owns w' v' (xs ++ fieldB num l) ∧ Grew sv w v' w' := by
  rcases hat with ⟨rfl, rfl⟩ | ⟨b, o, c, rfl, hc⟩
  · exact append_bytes_nil num hnum sv xs w hown (by simpa using hlim)
  · exact append_bytes_some num hnum sv xs b o c _ l rfl w hown hc (hne b rfl) hlim

set_option maxHeartbeats 1000000 in
/-- pbwire.AppendVarint -/
theorem append_varint (num : Nat) (hnum : num ≤ 5) (x : Nat) (hx : x < 18446744073709551616) (sv : Value) (xs : List UInt8) (w : World) (hown : Owns w sv xs) (hlim : xs.length + 20 ≤ 140737488355328) :
    Calls Try.prog 23 #[sv, .int .i64 num, .int .u64 x] w fun e w' => ∃ v', e = .returned v' ∧ Owns w' v' (xs ++ fieldV num x) ∧ Grew sv w v' w' := by
  obtain ⟨t, ht, hor⟩ := u8_or0 num hnum
  have ht5 : t < 256 := by have := ht.out; omega
  have hl1 := hide (uv_le (x := t) (by omega))
  go_enter Try.func23, Try.ntmps23
  go_wp2_with fail
  refine (append_uv t (by omega) sv xs w hown (by omega)).mono ?_
  rintro e w1 ⟨v1, rfl, o1, g1⟩
  go_wp2_with fail
  refine (append_uv x hx v1 (xs ++ uv t) w1 o1 (by have := hl1.out; rw [List.length_append]; omega)).mono ?_
  rintro e w2 ⟨v2, rfl, o2, g2⟩
  go_wp2
  go_ret
  exact ⟨v2, rfl, by have e := ht.out; subst e; simpa [fieldV] using o2, g1.trans g2⟩
end Go.Proofs.Qxb6605598a
