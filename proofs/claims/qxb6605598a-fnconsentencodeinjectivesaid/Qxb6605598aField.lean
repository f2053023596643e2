/-
  zzReadField (10): at bytes that a field was written to.
-/
import Derived.Test.Qxb6605598aRead
namespace Go.Proofs.Qxb6605598a
open Go.RowKit Go.WideShapes
open Go.Lib (byteCells)
set_option linter.unusedVariables false

theorem and7 (n r : Nat) (hn : n ≤ 5) (hr : r = 0 ∨ r = 2) : bits .and .u64 ((n * 8 + r : Nat) : Int) 7 = (r : Int) := by
  have : n = 0 ∨ n = 1 ∨ n = 2 ∨ n = 3 ∨ n = 4 ∨ n = 5 := by omega
  rcases hr with rfl | rfl <;> rcases this with rfl | rfl | rfl | rfl | rfl | rfl <;> rfl

/-- the bytes l, from place i of the slice on -/
def Lies (w : World) (b o i : Nat) (l : List UInt8) : Prop := ∀ j u, (byteCells l)[j]? = some u → w.cell? ⟨b, o + (i + j), none⟩ = some u

theorem Lies.left {w : World} {b o i : Nat} {l m : List UInt8} (h : Lies w b o i (l ++ m)) : Lies w b o i l := fun j u hj => by
  have hlt : j < (byteCells l).length := by
    rcases List.getElem?_eq_some_iff.1 hj with ⟨h1, _⟩
    exact h1
  refine h j u ?_
  rw [Lib.byteCells_append, List.getElem?_append_left hlt]
  exact hj
theorem Lies.right {w : World} {b o i : Nat} {l m : List UInt8} (h : Lies w b o i (l ++ m)) : Lies w b o (i + l.length) m := fun j u hj => by
  rw [Nat.add_assoc]
  refine h (l.length + j) u ?_
  rw [Lib.byteCells_append, List.getElem?_append_right (by rw [Lib.byteCells_length]; omega), Lib.byteCells_length, Nat.add_sub_cancel_left]
  exact hj

theorem results6 {fn : Func} {a b c d e f : Tmp} (h : fn.results = #[.tmp a, .tmp b, .tmp c, .tmp d, .tmp e, .tmp f]) (tmps : Array Value) (P : Program) (w : World) :
    (results fn tmps).run P w = .ok (.tuple #[tmps.getD a undef, tmps.getD b undef, tmps.getD c undef, tmps.getD d undef, tmps.getD e undef, tmps.getD f undef]) w := by
  simp [results, h]

set_option maxHeartbeats 1000000 in
theorem read_fieldV (num : Nat) (hnum : num ≤ 5) (b o n c i q x : Nat) (hx : x < 18446744073709551616) (w : World) (hc : Hid (Lies w b o i (fieldV num x))) (hq : Hid (q = i + (fieldV num x).length)) (hqn : q ≤ n) (hn : n ≤ 1000000000) :
    Calls Try.prog 10 #[.slice (some ⟨b, o, none⟩) n c, .int .i64 i] w fun e w' => e = .returned (.tuple #[.int .u64 num, .int .u64 0, .int .u64 x, .slice none 0 0, .int .i64 q, .bool true]) ∧ w' = w := by
  obtain ⟨t, ht⟩ : ∃ t, Hid (t = num * 8) := ⟨_, rfl⟩
  obtain ⟨i1, hi1⟩ : ∃ i1, Hid (i1 = i + 1) := ⟨_, rfl⟩
  have t1 : t < 128 := by have := ht.out; omega
  have t2 : (t : Int) / 8 = num := by have := ht.out; omega
  have t3 : bits .and .u64 (t : Int) 7 = 0 := by rw [ht.out]; exact and7 num 0 hnum (.inl rfl)
  have hul : Hid (q = i1 + ulen x) := by have := hq.out; rw [fieldV_length (by omega)] at this; have := hi1.out; show _ = _; omega
  have h1 : Hid (Lies w b o i (uv t)) := by show Lies _ _ _ _ _; rw [ht.out]; exact hc.out.left
  have h2 : Hid (Lies w b o i1 (uv x)) := by
    have := hc.out.right
    rw [uv_tag (by omega)] at this
    show Lies _ _ _ _ _
    rw [hi1.out]
    exact this
  have hup := hide (ulen_pos x)
  have hi : i1 ≤ n := by have := hup.out; have := hul.out; omega
  have e1 : Hid (i1 = i + ulen t) := by show _ = _; rw [ulen_small t1, hi1.out]
  clear hc
  go_enter Try.func10, Try.ntmps10
  go_wp2_with fail
  refine (read_uv b o n c i i1 t (by omega) w h1 e1 hi hn).mono ?_
  rintro e w1 ⟨rfl, rfl⟩
  go_wp2_with fail
  refine (read_uv b o n c i1 q x hx w1 h2 hul hqn hn).mono ?_
  rintro e w2 ⟨rfl, rfl⟩
  go_wp2_with fail
  refine bodyPost_ret (results6 rfl _ _ _) rfl ?_
  exact ⟨rfl, rfl⟩

set_option maxHeartbeats 1000000 in
theorem read_fieldB (num : Nat) (hnum : num ≤ 5) (b o n c i m k q : Nat) (l : List UInt8) (hm : Hid (m = l.length)) (w : World) (hc : Hid (Lies w b o i (fieldB num l))) (hk : Hid (k = i + 1 + ulen m)) (hq : Hid (q = k + m)) (hqn : q ≤ n) (hn : n ≤ 1000000000) (hnc : n ≤ c) :
    Calls Try.prog 10 #[.slice (some ⟨b, o, none⟩) n c, .int .i64 i] w fun e w' => ∃ o' c', e = .returned (.tuple #[.int .u64 num, .int .u64 2, .int .u64 0, .slice (some ⟨b, o', none⟩) m c', .int .i64 q, .bool true]) ∧ m ≤ c' ∧ Lies w b o' 0 l ∧ w' = w.drew := by
  obtain ⟨t, ht⟩ : ∃ t, Hid (t = num * 8 + 2) := ⟨_, rfl⟩
  obtain ⟨i1, hi1⟩ : ∃ i1, Hid (i1 = i + 1) := ⟨_, rfl⟩
  have t1 : t < 128 := by have := ht.out; omega
  have t2 : (t : Int) / 8 = num := by have := ht.out; omega
  have t3 : bits .and .u64 (t : Int) 7 = 2 := by rw [ht.out]; exact and7 num 2 hnum (.inr rfl)
  have hul : Hid (k = i1 + ulen m) := by have := hk.out; have := hi1.out; show _ = _; omega
  have h1 : Hid (Lies w b o i (uv t)) := by show Lies _ _ _ _ _; rw [ht.out]; exact hc.out.left
  have h2 : Hid (Lies w b o i1 (uv m)) := by
    have := hc.out.right.left
    rw [uv_tag (by omega)] at this
    show Lies _ _ _ _ _
    rw [hi1.out, hm.out]
    exact this
  have h3 : Hid (Lies w b o k l) := by
    have := hc.out.right.right
    rw [uv_tag (by omega)] at this
    show Lies _ _ _ _ _
    rw [hul.out, hi1.out, hm.out]
    exact this
  have hup := hide (ulen_pos m)
  have hi : i1 ≤ n := by have := hup.out; have := hul.out; have := hq.out; omega
  have e1 : Hid (i1 = i + ulen t) := by show _ = _; rw [ulen_small t1, hi1.out]
  clear hc
  go_enter Try.func10, Try.ntmps10
  go_wp2_with fail
  refine (read_uv b o n c i i1 t (by omega) w h1 e1 hi hn).mono ?_
  rintro e w1 ⟨rfl, rfl⟩
  go_wp2_with fail
  refine (read_uv b o n c i1 k m (by have := hq.out; omega) w1 h2 hul (by have := hq.out; omega) hn).mono ?_
  rintro e w2 ⟨rfl, rfl⟩
  have hmn : (m : Int) ≤ n - k := by have := hq.out; omega
  have hkq : (k : Int) + m = q := by have := hq.out; omega
  have hkc : k ≤ q := by have := hq.out; omega
  go_wp2_with fail
  go_region
  have hqk : q - k = m := by have := hq.out; omega
  have F1 : Hid (c = k → Lies w2 b o 0 l ∧ m ≤ 0) := fun e => ⟨fun j u hj => by
      exfalso
      obtain ⟨hj2, _⟩ := List.getElem?_eq_some_iff.1 hj
      rw [Lib.byteCells_length] at hj2
      have := hm.out; have := hq.out
      omega, by have := hq.out; omega⟩
  have F2 : Hid (Lies w2 b (o + k) 0 l ∧ m ≤ c - k) := ⟨fun j u hj => by
      have := h3.out j u hj
      rw [Nat.zero_add, Nat.add_assoc]
      exact this, by have := hq.out; omega⟩
  go_wp2
  · refine bodyPost_ret (results6 rfl _ _ _) rfl ?_
    exact ⟨o, _, rfl, (F1.out (by first | rfl | assumption)).2, (F1.out (by first | rfl | assumption)).1, rfl⟩
  · refine bodyPost_ret (results6 rfl _ _ _) rfl ?_
    exact ⟨o + k, _, rfl, F2.out.2, F2.out.1, rfl⟩

theorem Lies.at {w : World} {b o : Nat} {l : List UInt8} (h : Lies w b o 0 l) (c : Nat) : At w (.slice (some ⟨b, o, none⟩) l.length c) l :=
  .inr ⟨b, o, c, rfl, fun j hj => by
    have := h j _ (show (byteCells l)[j]? = some (.int .u8 (l[j]).toNat) by simp [byteCells, hj])
    rwa [Nat.zero_add] at this⟩
end Go.Proofs.Qxb6605598a
