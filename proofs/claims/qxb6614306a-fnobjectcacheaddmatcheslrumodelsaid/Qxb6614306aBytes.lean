/-
  THE TWO HELPERS ON []byte THAT ALL THREE LAWS OF THE SEAT GO THROUGH: cloneBytes (function 9), equalBytes (function 12): their contracts.
-/
import Derived.Test.Qxb6614306aRows
import Derived.WalkKit
import Derived.ProofKit
import Derived.WalkSpells
import Derived.WalkLawsBesides
import Derived.Deep.OwnRows
import Derived.Deep.LoopGhost
import Derived.Deep.QuietTactic
import Derived.BigQuiet
namespace Go.Proofs.Qxb6614306a
open Go.RowKit Go.WideShapes

theorem Try.info5 : (Try.prog.info? 5).map (fun i => (i.zero, i.size, i.bytes)) = some (some (.int .u8 0), 1, 1) := by kernel_rfl

theorem hide {p : Prop} (h : p) : Hid p := h

/-- A SLICE OF BYTES: nil ('z = none'), or the numbers l, in a block of which S says yes. -/
def BytesAt (S : Nat → Prop) (w : World) (ao : Option Addr) (n c : Nat) (z : Option (List Int)) : Prop :=
  match z with
  | none => ao = none ∧ n = 0 ∧ c = 0
  | some l => n = l.length ∧ ∃ a, ao = some a ∧ ∀ i, i < l.length → S a.block ∧ w.cell? (a.add i) = some (.int .u8 (l.getD i 0))

theorem clone_nil (w : World) : Calls Try.prog 9 #[.slice none 0 0] w fun e w' => e = .returned (.slice none 0 0) ∧ w' = w := by
  have hq := fun w a l c => Lib.run_eql_slice_nil (P := Try.prog) w 24 5 a l c 0 0 Try.underlying24
  go_enter Try.func9, Try.ntmps9
  go_wp2
  go_ret
  exact ⟨rfl, rfl⟩

set_option maxHeartbeats 400000 in
theorem clone_some (a : Addr) (n c : Nat) (Z : Nat → Int) (w : World) (hn : n ≤ 1048576)
    (hc : ∀ i, i < n → w.cell? (a.add i) = some (.int .u8 (Z i))) (hb : ∀ i, i < n → a.block < w.heap.size) :
    Calls Try.prog 9 #[.slice (some a) n c] w fun e w' => e = .returned (.slice (some ⟨w.heap.size, 0, none⟩) n n) ∧ w'.rowIs w.heap.size 5 n (fun i => .int .u8 (Z i)) ∧ Below w.heap.size w w' ∧ w'.heap.size = w.heap.size + 1 := by
  have hq := fun w a l c => Lib.run_eql_slice_nil (P := Try.prog) w 24 5 a l c 0 0 Try.underlying24
  have hmk := run_make_row' (P := Try.prog) 24 5 (.int .u8 0) 1 Try.underlying24 Try.info5 rfl .i64 .i64 n (by omega) (by omega)
  go_enter Try.func9, Try.ntmps9
  go_wp2
  go_loopw [4] (fun i wr => ∃ k : Nat, k ≤ n ∧ i = .int .i64 k ∧ wr.rowIs w.heap.size 5 n (fun j => if j < k then .int .u8 (Z j) else .int .u8 0) ∧ Below w.heap.size w wr ∧ wr.heap.size = w.heap.size + 1) (fun i _ => n - (intOf i).toNat)
  case atStart => exact ⟨0, Nat.zero_le _, rfl, (World.rowIs_made w (.int .u8 0) n 5).congr (fun i _ => by simp), (Below.refl _ _).alloc (Nat.le_refl _) _, by simp⟩
  case round =>
    obtain ⟨k, hk, rfl, hrow, hbel, hsz⟩ := hrel
    by_cases hlt : k < n
    · obtain ⟨b, off, spot⟩ := a
      have hck := hc k hlt
      have hspot : spot = none := by simpa [Addr.add] using World.cell?_spot (hc 0 (by omega))
      subst hspot
      rw [add_plain] at hck
      have hck' : wr.cell? ⟨b, off + k, none⟩ = some (.int .u8 (Z k)) := (hbel.cell (p := ⟨b, off + k, none⟩) (hb k hlt)).trans hck
      have hcn := hrow.cell hlt
      have hfn := hrow.frozen k
      simp only [Nat.lt_irrefl, if_false] at hcn
      have R : Hid ((wr.setCell ⟨w.heap.size, k, none⟩ (.int .u8 (Z k))).rowIs w.heap.size 5 n (fun j => if j < k + 1 then .int .u8 (Z j) else .int .u8 0)) := by
        refine (hrow.set k _).congr fun j hj => ?_
        by_cases e : j = k
        · subst e; simp
        · simp only [e, if_false]
          by_cases e2 : j < k
          · simp [e2, Nat.lt_succ_of_lt e2]
          · rw [if_neg e2, if_neg (by omega)]
      have B : Hid (Below w.heap.size w (wr.setCell ⟨w.heap.size, k, none⟩ (.int .u8 (Z k)))) := hbel.setCell (Nat.le_refl _) _
      have SZ : Hid ((wr.setCell ⟨w.heap.size, k, none⟩ (.int .u8 (Z k))).heap.size = w.heap.size + 1) := by show _ = _; simpa [World.setCell] using hsz
      clear hrow hbel hck hc hb
      go_wp2
      go_roundw
      case rel => exact ⟨k + 1, by omega, by go_num, R.out, B.out, SZ.out⟩
      case measure => simp [intOf]; omega
    · have : k = n := by omega
      subst this
      go_wp2
      go_ret
      exact ⟨rfl, hrow.congr (fun i hi => by simp [hi]), hbel, hsz⟩

set_option maxHeartbeats 400000 in
theorem equal_same (ao bo : Option Addr) (n c d : Nat) (Z : Nat → Int) (w : World) (hn : n ≤ 1048576)
    (ha : ∀ i, i < n → ∃ x, ao = some x ∧ w.cell? (x.add i) = some (.int .u8 (Z i))) (hb : ∀ i, i < n → ∃ x, bo = some x ∧ w.cell? (x.add i) = some (.int .u8 (Z i))) :
    Calls Try.prog 12 #[.slice ao n c, .slice bo n d] w fun e w' => e = .returned (.bool true) ∧ ∃ m, w' = w.drewN m := by
  by_cases h0 : n = 0
  · subst h0
    clear ha hb
    go_enter Try.func12, Try.ntmps12
    go_wp2
    go_loop [5] (fun i => i = .int .i64 0) (fun _ => 0)
    case atStart => rfl
    case round =>
      subst hrel
      go_wp2
      go_ret
      exact ⟨rfl, 0, rfl⟩
  · obtain ⟨⟨b1, o1, s1⟩, rfl, g1⟩ := ha 0 (by omega)
    obtain ⟨⟨b2, o2, s2⟩, rfl, g2⟩ := hb 0 (by omega)
    have e1 : s1 = none := by simpa [Addr.add] using World.cell?_spot g1
    have e2 : s2 = none := by simpa [Addr.add] using World.cell?_spot g2
    subst e1 e2
    have ca : ∀ i, i < n → w.cell? ⟨b1, o1 + i, none⟩ = some (.int .u8 (Z i)) := fun i hi => by
      obtain ⟨x, hx, h⟩ := ha i hi
      simp only [Option.some.injEq] at hx
      subst hx
      rwa [add_plain] at h
    have cb : ∀ i, i < n → w.cell? ⟨b2, o2 + i, none⟩ = some (.int .u8 (Z i)) := fun i hi => by
      obtain ⟨x, hx, h⟩ := hb i hi
      simp only [Option.some.injEq] at hx
      subst hx
      rwa [add_plain] at h
    clear ha hb g1 g2
    go_enter Try.func12, Try.ntmps12
    go_wp2
    go_loopw [5] (fun i wr => ∃ k m : Nat, k ≤ n ∧ i = .int .i64 k ∧ wr = w.drewN m) (fun i _ => n - (intOf i).toNat)
    case atStart => exact ⟨0, 0, Nat.zero_le _, rfl, rfl⟩
    case round =>
      obtain ⟨k, m, hk, rfl, rfl⟩ := hrel
      by_cases hlt : k < n
      · have c1 := ca k hlt
        have c2 := cb k hlt
        clear ca cb
        go_wp2
        go_quiet (fail)
        go_wp2
        go_roundw
        case rel => exact ⟨k + 1, _, by omega, by go_num, rfl⟩
        case measure => simp [intOf]; omega
      · go_wp2
        go_ret
        exact ⟨rfl, m, rfl⟩

def zlen : Option (List Int) → Nat
  | none => 0
  | some l => l.length

theorem BytesAt.len {S : Nat → Prop} {w : World} {ao : Option Addr} {n c : Nat} {z : Option (List Int)} (h : BytesAt S w ao n c z) : n = zlen z := by
  cases z with
  | none => exact h.2.1
  | some l => exact h.1

theorem BytesAt.isNone {S : Nat → Prop} {w : World} {ao : Option Addr} {n c : Nat} {z : Option (List Int)} (h : BytesAt S w ao n c z) : ao.isNone = z.isNone := by
  cases z with
  | none => rw [h.1]; rfl
  | some l => obtain ⟨_, a, rfl, _⟩ := h; rfl

/-- the same bytes, in a world whose blocks (those that S names) are as they were -/
theorem BytesAt.keep {S T : Nat → Prop} {w w' : World} {ao : Option Addr} {n c : Nat} {z : Option (List Int)} (h : BytesAt S w ao n c z) (hT : ∀ b, S b → T b) (hw : ∀ b, S b → w'.heap[b]? = w.heap[b]?) : BytesAt T w' ao n c z := by
  cases z with
  | none => exact h
  | some l =>
    obtain ⟨hn, a, ha, hc⟩ := h
    refine ⟨hn, a, ha, fun i hi => ?_⟩
    obtain ⟨h1, h2⟩ := hc i hi
    refine ⟨hT _ h1, ?_⟩
    have e : (a.add i).block = a.block := by unfold Addr.add; split <;> rfl
    rw [← h2]
    exact World.cell?_of_block (w := w) (by rw [e]; exact hw _ h1)

/-- cloneBytes at every slice of bytes -/
theorem clone_any {S : Nat → Prop} (ao : Option Addr) (n c : Nat) (z : Option (List Int)) (w : World) (h : BytesAt S w ao n c z) (hn : n ≤ 1048576) (hS : ∀ b, S b → b < w.heap.size) :
    Calls Try.prog 9 #[.slice ao n c] w fun e w' => ∃ ao' c', e = .returned (.slice ao' n c') ∧ BytesAt (fun b => w.heap.size ≤ b ∧ b < w'.heap.size) w' ao' n c' z ∧ Below w.heap.size w w' := by
  cases z with
  | none =>
    obtain ⟨rfl, rfl, rfl⟩ := h
    refine (clone_nil w).mono ?_
    rintro e w' ⟨rfl, rfl⟩
    exact ⟨none, 0, rfl, ⟨rfl, rfl, rfl⟩, Below.refl _ _⟩
  | some l =>
    obtain ⟨rfl, a, rfl, hc⟩ := h
    refine (clone_some a l.length c (fun i => l.getD i 0) w hn (fun i hi => (hc i hi).2) (fun i hi => hS _ (hc i hi).1)).mono ?_
    rintro e w' ⟨rfl, hrow, hb, hsz⟩
    refine ⟨_, _, rfl, ⟨rfl, _, rfl, fun i hi => ⟨⟨Nat.le_refl _, ?_⟩, ?_⟩⟩, hb⟩
    · show w.heap.size < w'.heap.size
      omega
    · rw [add_plain, Nat.zero_add]
      exact hrow.cell hi

/-- equalBytes at two slices of the same bytes -/
theorem equal_any {S T : Nat → Prop} (ao bo : Option Addr) (n m c d : Nat) (z : Option (List Int)) (w : World) (h : BytesAt S w ao n c z) (h' : BytesAt T w bo m d z) (hn : n ≤ 1048576) :
    Calls Try.prog 12 #[.slice ao n c, .slice bo m d] w fun e w' => e = .returned (.bool true) ∧ ∃ q, w' = w.drewN q := by
  have e : n = m := h.len.trans h'.len.symm
  subst e
  cases z with
  | none =>
    obtain ⟨rfl, rfl, rfl⟩ := h
    exact equal_same _ _ 0 _ _ (fun _ => 0) w (by omega) (fun i hi => absurd hi (Nat.not_lt_zero _)) (fun i hi => absurd hi (Nat.not_lt_zero _))
  | some l =>
    obtain ⟨rfl, a, rfl, hc⟩ := h
    obtain ⟨_, b, rfl, hd⟩ := h'
    exact equal_same _ _ _ _ _ (fun i => l.getD i 0) w hn (fun i hi => ⟨a, rfl, (hc i hi).2⟩) (fun i hi => ⟨b, rfl, (hd i hi).2⟩)

/-! ### make, elements of whatever number of cells -/
theorem run_make_wide {P : Program} (t e : TypeId) (zc : Array Value) (size bytes : Nat) (ht : P.underlying t = some (.slice e)) (hinfo : (P.info? e).map (fun i => (i.zero.map Value.cells, i.size, i.bytes)) = some (some zc, size, bytes))
    (n : Nat) (hbytes : bytes * n ≤ 281474976710656) (h63 : n ≤ 9223372036854775807) (w : World) :
    (Instr.makeSlice t (.int .i64 (n : Int)) (.int .i64 (n : Int))).run P w = .ok (.slice (some ⟨w.heap.size, 0, none⟩) n n) (w.alloc (.cells (madeCells zc (n * size)) e)) := by
  obtain ⟨i, hi, hzz⟩ := Option.map_eq_some_iff.1 hinfo
  simp only [Prod.mk.injEq] at hzz
  obtain ⟨hz, hs, hb⟩ := hzz
  obtain ⟨z, hz1, hz2⟩ := Option.map_eq_some_iff.1 hz
  have hb' : (i.bytes : Int) * (n : Int) ≤ 281474976710656 := by
    have h : ((i.bytes * n : Nat) : Int) ≤ 281474976710656 := by rw [hb]; omega
    rwa [Int.natCast_mul] at h
  have hr := run_make (P := P) w t e i z ht hi hz1 .i64 .i64 n n (by omega) (Int.le_refl _) hb' (by omega)
  simp only [Int.toNat_natCast, hs, hz2] at hr
  exact hr

theorem rowIs_wide (w : World) (zc : Array Value) (m : Nat) (t : TypeId) : (w.alloc (.cells (madeCells zc m) t)).rowIs w.heap.size t m (fun i => zc[i % zc.size]!) :=
  ⟨_, Go.Deep.blk_alloc_new _ _, size_madeCells _ _, fun i hi => by simp [madeCells, hi]⟩
end Go.Proofs.Qxb6614306a
