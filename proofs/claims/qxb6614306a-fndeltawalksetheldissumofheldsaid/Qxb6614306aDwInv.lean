/-
  THE LAW ON deltaWalk.set: WHAT HOLDS BETWEEN TWO ROUNDS of its third loop, and what a round does to it. No walk here.
-/
import Derived.Test.Qxb6614306aDwParts
namespace Go.Proofs.Qxb6614306a
open Go.RowKit Go.WideShapes
set_option linter.unusedVariables false

theorem sumTo_le {L : Nat → Nat} {q : Nat} : ∀ {n : Nat}, (∀ j, j < n → L j ≤ q) → sumTo L n ≤ n * q
  | 0, _ => by simp [sumTo]
  | n + 1, h => by
    have h1 := sumTo_le (n := n) (fun j hj => h j (by omega))
    have h2 := h n (by omega)
    simp only [sumTo, Nat.add_mul, Nat.one_mul]
    omega

theorem sumTo_ge {L : Nat → Nat} {i : Nat} : ∀ {n : Nat}, i < n → L i ≤ sumTo L n
  | 0, h => absurd h (Nat.not_lt_zero _)
  | n + 1, h => by
    simp only [sumTo]
    by_cases e : i = n
    · subst e; omega
    · have := sumTo_ge (L := L) (n := n) (i := i) (by omega); omega

theorem sumTo_congr {L M : Nat → Nat} : ∀ {n : Nat}, (∀ j, j < n → L j = M j) → sumTo L n = sumTo M n
  | 0, _ => rfl
  | n + 1, h => by simp only [sumTo]; rw [sumTo_congr (n := n) (fun j hj => h j (by omega)), h n (by omega)]

theorem sumTo_set {L : Nat → Nat} {i v : Nat} : ∀ {n : Nat}, i < n → sumTo (setFn L i v) n + L i = sumTo L n + v
  | 0, h => absurd h (Nat.not_lt_zero _)
  | n + 1, h => by
    simp only [sumTo]
    by_cases e : i = n
    · subst e
      have : sumTo (setFn L i v) i = sumTo L i := sumTo_congr fun j hj => by simp [setFn, Nat.ne_of_lt hj]
      rw [this]
      simp [setFn]
      omega
    · have := sumTo_set (L := L) (v := v) (n := n) (i := i) (by omega)
      have e2 : setFn L i v n = L n := by simp [setFn, Ne.symm e]
      rw [e2]
      omega

/-- the blocks that the three tables do not lie in -/
def Free (wb : Nat) (w : World) (b : Nat) : Prop := b < w.heap.size ∧ b ≠ wb ∧ b ≠ wb + 1 ∧ b ≠ wb + 2

/-- lengths of what the slots hold -/
def zl (z : Nat → Option (List Int)) : Nat → Nat := fun j => zlen (z j)

structure Inv (wb n : Nat) (z : Nat → Option (List Int)) (Aw : Nat → Option Addr) (Cw : Nat → Nat) (As : Nat → Option Addr) (Cs : Nat → Nat) (w : World) : Prop where
  want : ∃ f, w.rowIs wb 24 n f ∧ ∀ j, j < n → f j = .slice (Aw j) (zl z j) (Cw j)
  stack : ∃ f, w.rowIs (wb + 1) 74 (n * 7) f ∧ ∀ j, j < n → f (j * 7 + 1) = .slice (As j) (zl z j) (Cs j)
  box : ∃ g, w.rowIs (wb + 2) 70 18 g ∧ g 6 = .slice (some ⟨wb + 1, 0, none⟩) n n ∧ g 8 = .int .u64 (sumTo (zl z) n : Nat)
  bw : ∀ j, j < n → BytesAt (Free wb w) w (Aw j) (zl z j) (Cw j) (z j)
  bs : ∀ j, j < n → BytesAt (Free wb w) w (As j) (zl z j) (Cs j) (z j)
  small : ∀ j, j < n → zl z j ≤ 1048576

theorem Inv.cw {wb n : Nat} {z : Nat → Option (List Int)} {Aw As : Nat → Option Addr} {Cw Cs : Nat → Nat} {w : World} (h : Inv wb n z Aw Cw As Cs w) {j : Nat} (hj : j < n) :
    w.cell? ⟨wb, j, none⟩ = some (.slice (Aw j) (zl z j) (Cw j)) ∧ w.frozen? ⟨wb, j, none⟩ = false := by
  obtain ⟨f, h1, h2⟩ := h.want
  exact ⟨by rw [h1.cell hj, h2 j hj], h1.frozen j⟩

theorem Inv.cs {wb n : Nat} {z : Nat → Option (List Int)} {Aw As : Nat → Option Addr} {Cw Cs : Nat → Nat} {w : World} (h : Inv wb n z Aw Cw As Cs w) {j : Nat} (hj : j < n) :
    w.cell? ⟨wb + 1, j * 7 + 1, none⟩ = some (.slice (As j) (zl z j) (Cs j)) ∧ w.frozen? ⟨wb + 1, j * 7 + 1, none⟩ = false := by
  obtain ⟨f, h1, h2⟩ := h.stack
  exact ⟨by rw [h1.cell (by omega), h2 j hj], h1.frozen _⟩

theorem Inv.cb {wb n : Nat} {z : Nat → Option (List Int)} {Aw As : Nat → Option Addr} {Cw Cs : Nat → Nat} {w : World} (h : Inv wb n z Aw Cw As Cs w) :
    w.cell? ⟨wb + 2, 6, none⟩ = some (.slice (some ⟨wb + 1, 0, none⟩) n n) ∧ w.cell? ⟨wb + 2, 8, none⟩ = some (.int .u64 (sumTo (zl z) n : Nat)) ∧ w.frozen? ⟨wb + 2, 8, none⟩ = false := by
  obtain ⟨f, h1, h2, h3⟩ := h.box
  exact ⟨by rw [h1.cell (by omega), h2], by rw [h1.cell (by omega), h3], h1.frozen _⟩

theorem Inv.drew {wb n : Nat} {z : Nat → Option (List Int)} {Aw As : Nat → Option Addr} {Cw Cs : Nat → Nat} {w : World} (h : Inv wb n z Aw Cw As Cs w) : Inv wb n z Aw Cw As Cs w.drew :=
  ⟨h.want, h.stack, h.box, h.bw, h.bs, h.small⟩

theorem zl_none (j : Nat) : zl (fun _ => none) j = 0 := rfl

theorem sumTo_none : ∀ n, sumTo (zl fun _ => none) n = 0
  | 0 => rfl
  | n + 1 => by simp only [sumTo, sumTo_none n, zl_none]

def baseZero : Array Value := #[.int .i64 0, .slice none 0 0, .int .u8 0, .slice none 0 0, .slice none 0 0, .bool false, .int .u64 0]
def boxOf (sb n : Nat) : Array Value := #[.pointer none, .int .u64 0, .int .u64 0, .int .u64 0, .int .u64 0, .pointer none, .slice (some ⟨sb, 0, none⟩) n n, .int .i64 0, .int .u64 0, .int .i64 0, .int .u64 0, .slice none 0 0, .int .u64 0, .nilIface,
  .slice none 0 0, .slice none 0 0, .slice none 0 0, .int .i64 (-1)]

/-- AT THE START: nothing is held -/
theorem Inv.start (n : Nat) (w : World) :
    Inv w.heap.size n (fun _ => none) (fun _ => none) (fun _ => 0) (fun _ => none) (fun _ => 0)
      (((w.alloc (.cells (madeCells #[.slice none 0 0] n) 24)).alloc (.cells (madeCells baseZero (n * 7)) 74)).alloc (.cells (boxOf (w.heap.size + 1) n) 70)) := by
  have h0 := World.rowIs_made w (.slice none 0 0) n 24
  have h1 := rowIs_wide (w.alloc (.cells (madeCells #[.slice none 0 0] n) 24)) baseZero (n * 7) 74
  have h2 := World.rowIs_alloc ((w.alloc (.cells (madeCells #[.slice none 0 0] n) 24)).alloc (.cells (madeCells baseZero (n * 7)) 74)) (boxOf (w.heap.size + 1) n) 70
      (fun i => (boxOf (w.heap.size + 1) n)[i]?.getD .nilIface) (fun i hi => by rw [Array.getElem?_eq_getElem hi]; rfl)
  have s1 : (w.alloc (.cells (madeCells #[.slice none 0 0] n) 24)).heap.size = w.heap.size + 1 := by simp
  have s2 : ((w.alloc (.cells (madeCells #[.slice none 0 0] n) 24)).alloc (.cells (madeCells baseZero (n * 7)) 74)).heap.size = w.heap.size + 2 := by simp
  have s3 : (boxOf (w.heap.size + 1) n).size = 18 := rfl
  rw [s1] at h1
  rw [s2, s3] at h2
  refine ⟨⟨_, (h0.alloc _).alloc _, fun j hj => rfl⟩, ⟨_, h1.alloc _, fun j hj => ?_⟩, ⟨_, h2, rfl, ?_⟩, fun j hj => ⟨rfl, rfl, rfl⟩, fun j hj => ⟨rfl, rfl, rfl⟩, fun j hj => by simp [zl_none]⟩
  · have e : (j * 7 + 1) % 7 = 1 := by omega
    have e2 : baseZero.size = 7 := rfl
    rw [e2, e]
    rfl
  · rw [sumTo_none]; rfl

/-- A ROUND: want's slot i holds new bytes, the stack's slot i the op's own. -/
theorem Inv.step {wb n : Nat} {z : Nat → Option (List Int)} {Aw As : Nat → Option Addr} {Cw Cs : Nat → Nat} {w w1 : World} (h : Inv wb n z Aw Cw As Cs w) {i : Nat} (hi : i < n)
    {zk : Option (List Int)} {ao bo : Option Addr} {l c d : Nat} (hl : l ≤ 1048576) (hw : Below w.heap.size w w1) (hba : BytesAt (fun b => w.heap.size ≤ b ∧ b < w1.heap.size) w1 ao l c zk) (hbb : BytesAt (fun b => b < wb) w bo l d zk) (v1 : Value) :
    Inv wb n (setFn z i zk) (setFn Aw i ao) (setFn Cw i c) (setFn As i bo) (setFn Cs i d)
      ((((w1.setCell ⟨wb, i, none⟩ (.slice ao l c)).setCell ⟨wb + 2, 8, none⟩ v1).setCell ⟨wb + 2, 8, none⟩ (.int .u64 ((sumTo (zl z) n : Nat) - (zl z i : Nat) + (l : Nat)))).setCell ⟨wb + 1, i * 7 + 1, none⟩ (.slice bo l d)) := by
  obtain ⟨f, hf, hf'⟩ := h.want
  obtain ⟨g, hg, hg'⟩ := h.stack
  obtain ⟨x, hx, hx6, hx8⟩ := h.box
  have hlz : l = zlen zk := hbb.len
  have hsz := hw.size
  have hlt := hx.lt
  have hzl : zl (setFn z i zk) = setFn (zl z) i l := by
    funext j
    simp only [zl, setFn]
    split <;> simp [hlz]
  have hsum := sumTo_set (L := zl z) (v := l) hi
  have hge := sumTo_ge (L := zl z) hi
  have F : ∀ (W : World), W = ((((w1.setCell ⟨wb, i, none⟩ (.slice ao l c)).setCell ⟨wb + 2, 8, none⟩ v1).setCell ⟨wb + 2, 8, none⟩ (.int .u64 ((sumTo (zl z) n : Nat) - (zl z i : Nat) + (l : Nat)))).setCell ⟨wb + 1, i * 7 + 1, none⟩ (.slice bo l d)) →
      W.heap.size = w1.heap.size ∧ ∀ b, b ≠ wb → b ≠ wb + 1 → b ≠ wb + 2 → W.heap[b]? = w1.heap[b]? := by
    rintro W rfl
    refine ⟨by simp [World.setCell], fun b h0 h1 h2 => ?_⟩
    rw [Below.heap_setCell _ _ _ _ (by simpa using h1), Below.heap_setCell _ _ _ _ (by simpa using h2), Below.heap_setCell _ _ _ _ (by simpa using h2), Below.heap_setCell _ _ _ _ (by simpa using h0)]
  refine ⟨?_, ?_, ?_, ?_, ?_, ?_⟩
  · refine ⟨_, ((((hf.of_block (hw.block wb (by omega))).set i (.slice ao l c)).setOther (by simp) _).setOther (by simp) _).setOther (by simp) _, fun j hj => ?_⟩
    rw [hzl]
    simp only [setFn]
    split
    · rfl
    · exact hf' j hj
  · refine ⟨_, ((((hg.of_block (hw.block (wb + 1) (by omega))).setOther (by simp) _).setOther (by simp) _).setOther (by simp) _).set (i * 7 + 1) (.slice bo l d), fun j hj => ?_⟩
    rw [hzl]
    simp only [setFn]
    by_cases e : j = i
    · subst e; simp
    · rw [if_neg (by omega), if_neg e, if_neg e, if_neg e]
      exact hg' j hj
  · refine ⟨_, ((((hx.of_block (hw.block (wb + 2) (by omega))).setOther (by simp) _).set 8 v1).set 8 _).setOther (by simp) _, ?_, ?_⟩
    · simpa using hx6
    · simp only [if_true]
      rw [hzl]
      congr 1
      omega
  · obtain ⟨F1, F2⟩ := F _ rfl
    intro j hj
    rw [hzl]
    simp only [setFn]
    by_cases e : j = i
    · simp only [e, if_true]
      exact hba.keep (fun b hb => ⟨by rw [F1]; exact hb.2, by omega, by omega, by omega⟩) (fun b hb => F2 b (by omega) (by omega) (by omega))
    · simp only [e, if_false]
      exact (h.bw j hj).keep (fun b hb => ⟨by rw [F1]; have := hb.1; omega, hb.2⟩) (fun b hb => (F2 b hb.2.1 hb.2.2.1 hb.2.2.2).trans (hw.block b hb.1))
  · obtain ⟨F1, F2⟩ := F _ rfl
    intro j hj
    rw [hzl]
    simp only [setFn]
    by_cases e : j = i
    · simp only [e, if_true]
      exact hbb.keep (fun b hb => ⟨by rw [F1]; omega, by omega, by omega, by omega⟩) (fun b hb => (F2 b (by omega) (by omega) (by omega)).trans (hw.block b (by omega)))
    · simp only [e, if_false]
      exact (h.bs j hj).keep (fun b hb => ⟨by rw [F1]; have := hb.1; omega, hb.2⟩) (fun b hb => (F2 b hb.2.1 hb.2.2.1 hb.2.2.2).trans (hw.block b hb.1))
  · intro j hj
    rw [hzl]
    simp only [setFn]
    split
    · exact hl
    · exact h.small j hj
end Go.Proofs.Qxb6614306a
