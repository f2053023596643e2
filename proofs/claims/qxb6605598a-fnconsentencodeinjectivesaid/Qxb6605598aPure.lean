/-
  THE PLAIN LAW, no Go in sight: a consent's message as a list of bytes; it is read back one way alone; its length.
-/
import Derived.Lib.Varint
import Derived.Lib.UnsafeStr
namespace Go.Proofs.Qxb6605598a

abbrev uv (x : Nat) : List UInt8 := Lib.uvarint x

/-- a length-delimited field -/
def fieldB (num : Nat) (l : List UInt8) : List UInt8 := uv (num * 8 + 2) ++ (uv l.length ++ l)
/-- a varint field -/
def fieldV (num v : Nat) : List UInt8 := uv (num * 8) ++ uv v
/-- a replicator's message -/
def repB (k a : List UInt8) : List UInt8 := fieldB 1 k ++ fieldB 2 a
/-- a consent's message -/
def encB (d : List UInt8) (v : Nat) (k a : List UInt8) (r : Nat) (s : List UInt8) : List UInt8 :=
  fieldB 1 d ++ (fieldV 2 v ++ (fieldB 3 (repB k a) ++ (fieldV 4 r ++ fieldB 5 s)))

theorem toUInt8_inj {a b : Nat} (ha : a < 256) (hb : b < 256) (h : a.toUInt8 = b.toUInt8) : a = b := by
  have h2 := congrArg UInt8.toNat h
  simp only [Nat.toUInt8, UInt8.toNat_ofNat'] at h2
  omega

theorem uv_inj : ∀ (x y : Nat) (r s : List UInt8), uv x ++ r = uv y ++ s → x = y ∧ r = s := by
  intro x
  induction x using Nat.strongRecOn with
  | ind x ih =>
    intro y r s h
    by_cases hx : x < 128
    · by_cases hy : y < 128
      · rw [uv, uv, Lib.uvarint_small hx, Lib.uvarint_small hy] at h
        simp only [List.singleton_append, List.cons.injEq] at h
        exact ⟨toUInt8_inj (by omega) (by omega) h.1, h.2⟩
      · rw [uv, uv, Lib.uvarint_small hx, Lib.uvarint_big (by omega)] at h
        simp only [List.cons_append, List.nil_append, List.cons.injEq] at h
        have := toUInt8_inj (by omega) (by omega) h.1
        omega
    · by_cases hy : y < 128
      · rw [uv, uv, Lib.uvarint_small hy, Lib.uvarint_big (by omega)] at h
        simp only [List.cons_append, List.nil_append, List.cons.injEq] at h
        have := toUInt8_inj (by omega) (by omega) h.1
        omega
      · rw [uv, uv, Lib.uvarint_big (x := x) (by omega), Lib.uvarint_big (x := y) (by omega)] at h
        simp only [List.cons_append, List.cons.injEq] at h
        have h1 := toUInt8_inj (by omega) (by omega) h.1
        obtain ⟨h2, h3⟩ := ih (x / 128) (by omega) (y / 128) r s h.2
        exact ⟨by omega, h3⟩

theorem fieldB_inj {num : Nat} {l m r s : List UInt8} (h : fieldB num l ++ r = fieldB num m ++ s) : l = m ∧ r = s := by
  simp only [fieldB, List.append_assoc] at h
  obtain ⟨_, h1⟩ := uv_inj _ _ _ _ h
  obtain ⟨h2, h3⟩ := uv_inj _ _ _ _ h1
  exact List.append_inj h3 h2

theorem fieldV_inj {num x y : Nat} {r s : List UInt8} (h : fieldV num x ++ r = fieldV num y ++ s) : x = y ∧ r = s := by
  simp only [fieldV, List.append_assoc] at h
  obtain ⟨_, h1⟩ := uv_inj _ _ _ _ h
  exact uv_inj _ _ _ _ h1

theorem repB_inj {k a k' a' : List UInt8} (h : repB k a = repB k' a') : k = k' ∧ a = a' := by
  unfold repB at h
  obtain ⟨h1, h2⟩ := fieldB_inj h
  have h3 : fieldB 2 a ++ [] = fieldB 2 a' ++ [] := by rw [h2]
  exact ⟨h1, (fieldB_inj h3).1⟩

theorem encB_inj {d k a s d' k' a' s' : List UInt8} {v r v' r' : Nat} (h : encB d v k a r s = encB d' v' k' a' r' s') : d = d' ∧ v = v' ∧ k = k' ∧ a = a' ∧ r = r' ∧ s = s' := by
  unfold encB at h
  obtain ⟨h1, h⟩ := fieldB_inj h
  obtain ⟨h2, h⟩ := fieldV_inj h
  obtain ⟨h3, h⟩ := fieldB_inj h
  obtain ⟨h4, h⟩ := fieldV_inj h
  have h' : fieldB 5 s ++ [] = fieldB 5 s' ++ [] := by rw [h]
  obtain ⟨h5, h6⟩ := repB_inj h3
  exact ⟨h1, h2, h5, h6, h4, (fieldB_inj h').1⟩

theorem uv_tag {x : Nat} (h : x < 128) : uv x = [x.toUInt8] := Lib.uvarint_small h

/-- how many bytes a varint takes -/
def ulen (x : Nat) : Nat := (uv x).length
theorem ulen_small {x : Nat} (h : x < 128) : ulen x = 1 := by unfold ulen; rw [uv_tag h]; rfl
theorem ulen_big {x : Nat} (h : 128 ≤ x) : ulen x = ulen (x / 128) + 1 := by unfold ulen; rw [uv, Lib.uvarint_big h]; rfl
theorem ulen_le {x : Nat} (h : x < 18446744073709551616) : ulen x ≤ 10 := Lib.uvarint_length64 h
theorem ulen_pos (x : Nat) : 1 ≤ ulen x := Lib.uvarint_pos x

def flen (n : Nat) : Nat := 1 + ulen n + n
theorem fieldB_length {num : Nat} (h : num * 8 + 2 < 128) (l : List UInt8) : (fieldB num l).length = flen l.length := by
  simp only [fieldB, List.length_append, flen, uv_tag h, List.length_singleton, ulen, Nat.add_assoc]
theorem fieldV_length {num : Nat} (h : num * 8 < 128) (x : Nat) : (fieldV num x).length = 1 + ulen x := by
  simp only [fieldV, List.length_append, uv_tag h, List.length_singleton, ulen]
theorem repB_length (k a : List UInt8) : (repB k a).length = flen k.length + flen a.length := by
  simp only [repB, List.length_append, fieldB_length (num := 1) (by omega), fieldB_length (num := 2) (by omega)]
theorem encB_length (d : List UInt8) (v : Nat) (k a : List UInt8) (r : Nat) (s : List UInt8) :
    (encB d v k a r s).length = flen d.length + (1 + ulen v) + flen (flen k.length + flen a.length) + (1 + ulen r) + flen s.length := by
  simp only [encB, List.length_append, fieldB_length (num := 1) (by omega), fieldB_length (num := 3) (by omega), fieldB_length (num := 5) (by omega), fieldV_length (num := 2) (by omega), fieldV_length (num := 4) (by omega), repB_length]
  omega
end Go.Proofs.Qxb6605598a
