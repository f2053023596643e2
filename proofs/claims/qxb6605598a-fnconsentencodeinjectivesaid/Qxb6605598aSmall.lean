/-
  zzClone (8), zzEq (11), zzEqStr (16), zzUvarintLen (21), zzFieldLen (13).
-/
import Derived.Test.Qxb6605598aField
namespace Go.Proofs.Qxb6605598a
open Go.RowKit Go.WideShapes
open Go.Lib (byteCells)
set_option linter.unusedVariables false

theorem clone_nil (w : World) : Calls Try.prog 8 #[.slice none 0 0] w fun e w' => e = .returned (.slice none 0 0) ∧ w' = w := by
  have hq := fun w a l c => Lib.run_eql_slice_nil (P := Try.prog) w 22 5 a l c 0 0 Try.underlying22
  go_enter Try.func8, Try.ntmps8
  go_wp2
  go_ret
  exact ⟨rfl, rfl⟩

set_option maxHeartbeats 400000 in
theorem clone_some (a : Addr) (n c : Nat) (Z : Nat → Int) (w : World) (hn : n ≤ 1048576)
    (hc : ∀ i, i < n → w.cell? (a.add i) = some (.int .u8 (Z i))) :
    Calls Try.prog 8 #[.slice (some a) n c] w fun e w' => e = .returned (.slice (some ⟨w.heap.size, 0, none⟩) n n) ∧ w'.rowIs w.heap.size 5 n (fun i => .int .u8 (Z i)) ∧ Below w.heap.size w w' ∧ w'.heap.size = w.heap.size + 1 := by
  have hq := fun w a l c => Lib.run_eql_slice_nil (P := Try.prog) w 22 5 a l c 0 0 Try.underlying22
  have hmk := run_make_row' (P := Try.prog) 22 5 (.int .u8 0) 1 Try.underlying22 Try.info5 rfl .i64 .i64 n (by omega) (by omega)
  go_enter Try.func8, Try.ntmps8
  go_wp2
  go_loopw [4] (fun i wr => ∃ k : Nat, k ≤ n ∧ i = .int .i64 k ∧ wr.rowIs w.heap.size 5 n (fun j => if j < k then .int .u8 (Z j) else .int .u8 0) ∧ Below w.heap.size w wr ∧ wr.heap.size = w.heap.size + 1) (fun i _ => n - (intOf i).toNat)
  case atStart => exact ⟨0, Nat.zero_le _, rfl, (World.rowIs_made w (.int .u8 0) n 5).congr (fun i _ => by simp), (Below.refl _ _).alloc (Nat.le_refl _) _, by simp⟩
  case round =>
    obtain ⟨k, hk, rfl, hrow, hbel, hsz⟩ := hrel
    by_cases hlt : k < n
    · obtain ⟨b, off, spot⟩ := a
      have hspot : spot = none := by simpa [Addr.add] using World.cell?_spot (hc 0 (by omega))
      subst hspot
      have hck := hc k hlt
      rw [add_plain] at hck
      have hck' : wr.cell? ⟨b, off + k, none⟩ = some (.int .u8 (Z k)) := (hbel.cell (p := ⟨b, off + k, none⟩) (World.block_lt_of_cell? w _ hck)).trans hck
      have hcn := hrow.cell hlt
      have hfn := hrow.frozen k
      simp only [Nat.lt_irrefl, if_false] at hcn
      have R : Hid ((wr.setCell ⟨w.heap.size, k, none⟩ (.int .u8 (Z k))).rowIs w.heap.size 5 n (fun j => if j < k + 1 then .int .u8 (Z j) else .int .u8 0)) := by
        refine (hrow.set k _).congr fun j hj => ?_
        by_cases e : j = k
        · subst e; simp
        · simp only [e, if_false]
          by_cases e2 : j < k
          · simp [e2, Nat.lt_succ_of_lt e2]
          · rw [if_neg e2, if_neg (by omega)]
      have B : Hid (Below w.heap.size w (wr.setCell ⟨w.heap.size, k, none⟩ (.int .u8 (Z k)))) := hbel.setCell (Nat.le_refl _) _
      have SZ : Hid ((wr.setCell ⟨w.heap.size, k, none⟩ (.int .u8 (Z k))).heap.size = w.heap.size + 1) := by show _ = _; simpa [World.setCell] using hsz
      clear hrow hbel hck hc
      go_wp2
      go_roundw
      case rel => exact ⟨k + 1, by omega, by go_num, R.out, B.out, SZ.out⟩
      case measure => simp [intOf]; omega
    · have : k = n := by omega
      subst this
      go_wp2
      go_ret
      exact ⟨rfl, hrow.congr (fun i hi => by simp [hi]), hbel, hsz⟩

/-- a slice that came in, and the bytes that it shows -/
def AtIn (w : World) (v : Value) (l : List UInt8) : Prop :=
  (v = .slice none 0 0 ∧ l = []) ∨ ∃ a c, v = .slice (some a) l.length c ∧ ∀ j, (h : j < l.length) → w.cell? (a.add j) = some (.int .u8 (l[j]).toNat)

theorem AtIn.below {w w' : World} {v : Value} {l : List UInt8} (h : AtIn w v l) (g : Below w.heap.size w w') : AtIn w' v l := by
  rcases h with ⟨rfl, rfl⟩ | ⟨a, c, rfl, hc⟩
  · exact .inl ⟨rfl, rfl⟩
  · exact .inr ⟨a, c, rfl, fun j hj => (g.cell (World.block_lt_of_cell? w _ (hc j hj))).trans (hc j hj)⟩

theorem AtIn.form {w : World} {v : Value} {l : List UInt8} (h : AtIn w v l) : ∃ ao n c, v = .slice ao n c ∧ Hid (n = l.length) := by
  rcases h with ⟨rfl, rfl⟩ | ⟨a, c, rfl, hc⟩
  · exact ⟨_, _, _, rfl, rfl⟩
  · exact ⟨_, _, _, rfl, rfl⟩

/-- zzClone -/
theorem clone (v : Value) (l : List UInt8) (w : World) (h : AtIn w v l) (hl : l.length ≤ 1048576) :
    Calls Try.prog 8 #[v] w fun e w' => ∃ v', e = .returned v' ∧ At w' v' l ∧ Below w.heap.size w w' ∧ New w.heap.size v' ∧ (∀ b, v'.ownBlock = some b → b < w'.heap.size) := by
  rcases h with ⟨rfl, rfl⟩ | ⟨a, c, rfl, hc⟩
  · refine (clone_nil w).mono ?_
    rintro e w' ⟨rfl, rfl⟩
    exact ⟨_, rfl, .inl ⟨rfl, rfl⟩, Below.refl _ _, New.nil _, fun b hb => by cases hb⟩
  · refine (clone_some a l.length c (fun i => ((l.getD i 0).toNat : Int)) w hl (fun i hi => by rw [hc i hi]; simp [List.getD, hi])).mono ?_
    rintro e w' ⟨rfl, hrow, hb, hsz⟩
    refine ⟨_, rfl, .inr ⟨_, 0, _, rfl, fun j hj => ?_⟩, hb, fun b hb => ?_, fun b hb => ?_⟩
    · rw [Nat.zero_add, hrow.cell hj]; simp [List.getD, hj]
    · simp only [Value.ownBlock, Option.some.injEq] at hb; omega
    · simp only [Value.ownBlock, Option.some.injEq] at hb; omega

set_option maxHeartbeats 400000 in
theorem eq_short (ao bo : Option Addr) (n m c d : Nat) (w : World) (hn : n ≤ 1000000000) (hm : m ≤ 1000000000) (hne : n ≠ m) :
    Calls Try.prog 11 #[.slice ao n c, .slice bo m d] w fun e w' => e = .returned (.bool false) ∧ w' = w := by
  have h2 : ¬ ((n : Int) = (m : Int)) := by omega
  go_enter Try.func11, Try.ntmps11
  go_wp2
  go_ret
  exact ⟨rfl, rfl⟩

theorem eq_none (ao bo : Option Addr) (c d : Nat) (w : World) :
    Calls Try.prog 11 #[.slice ao 0 c, .slice bo 0 d] w fun e w' => e = .returned (.bool true) ∧ w' = w := by
  go_enter Try.func11, Try.ntmps11
  go_wp2
  go_loop [5] (fun i => i = .int .i64 0) (fun _ => 0)
  case atStart => rfl
  case round =>
    subst hrel
    go_wp2
    go_ret
    exact ⟨rfl, rfl⟩

theorem drewN_more (w : World) (m n : Nat) : (w.drewN m).drewN n = w.drewN (m + n) := by simp

def Told (e : Ending) (p : Prop) : Prop := ∃ a : Bool, e = .returned (.bool a) ∧ (a = true ↔ p)

set_option maxHeartbeats 400000 in
theorem eq_raw (b1 o1 b2 o2 n c d : Nat) (X Y : Nat → Int) (w : World) (hn : n ≤ 1000000000)
    (ca : ∀ i, i < n → w.cell? ⟨b1, o1 + i, none⟩ = some (.int .u8 (X i))) (cb : ∀ i, i < n → w.cell? ⟨b2, o2 + i, none⟩ = some (.int .u8 (Y i))) :
    Calls Try.prog 11 #[.slice (some ⟨b1, o1, none⟩) n c, .slice (some ⟨b2, o2, none⟩) n d] w fun e w' => Told e (∀ i, i < n → X i = Y i) ∧ ∃ m, w' = w.drewN m := by
  go_enter Try.func11, Try.ntmps11
  go_wp2
  go_loopw [5] (fun i wr => ∃ k m : Nat, k ≤ n ∧ i = .int .i64 k ∧ wr = w.drewN m ∧ Hid (∀ j, j < k → X j = Y j)) (fun i _ => n - (intOf i).toNat)
  case atStart => exact ⟨0, 0, Nat.zero_le _, rfl, rfl, fun j hj => absurd hj (Nat.not_lt_zero _)⟩
  case round =>
    obtain ⟨k, m, hk, rfl, rfl, hs⟩ := hrel
    by_cases hlt : k < n
    · have c1 := ca k hlt
      have c2 := cb k hlt
      clear ca cb
      by_cases hxy : X k = Y k
      · have hs' : Hid (∀ j, j < k + 1 → X j = Y j) := fun j hj => by
          by_cases e : j = k
          · rw [e]; exact hxy
          · exact hs.out j (by omega)
        rw [← hxy] at c2
        clear hxy
        generalize X k = x at c1 c2
        go_wp2
        go_quiet (fail)
        go_wp2
        go_roundw
        case rel => exact ⟨k + 1, _, by omega, by go_num, rfl, hs'⟩
        case measure => simp [intOf]; omega
      · have hF := hide hxy
        obtain ⟨x, hx⟩ : ∃ x, Hid (x = X k) := ⟨_, rfl⟩
        obtain ⟨y, hy⟩ : ∃ y, Hid (y = Y k) := ⟨_, rfl⟩
        rw [← hx.out] at c1
        rw [← hy.out] at c2
        have hne : ¬ x = y := by rw [hx.out, hy.out]; exact hxy
        clear hxy
        go_wp2
        go_quiet (fail)
        go_wp2
        go_ret
        exact ⟨⟨false, rfl, ⟨fun h => Bool.noConfusion h, fun h => absurd (h k hlt) hF.out⟩⟩, m + nq, drewN_more w m nq⟩
    · go_wp2
      go_ret
      exact ⟨⟨true, rfl, fun _ j hj => hs.out j (by omega), fun _ => rfl⟩, m, rfl⟩

/-- zzEq -/
theorem eq_any (v u : Value) (l m : List UInt8) (w : World) (h : At w v l) (h' : At w u m) (hl : l.length ≤ 1000000000) (hm : m.length ≤ 1000000000) :
    Calls Try.prog 11 #[v, u] w fun e w' => Told e (l = m) ∧ ∃ r, w' = w.drewN r := by
  obtain ⟨ao, c, rfl⟩ : ∃ ao c, v = .slice ao l.length c := by
    rcases h with ⟨rfl, rfl⟩ | ⟨b, o, c, rfl, hc⟩
    · exact ⟨_, _, rfl⟩
    · exact ⟨_, _, rfl⟩
  obtain ⟨bo, d, rfl⟩ : ∃ bo d, u = .slice bo m.length d := by
    rcases h' with ⟨rfl, rfl⟩ | ⟨b, o, c, rfl, hc⟩
    · exact ⟨_, _, rfl⟩
    · exact ⟨_, _, rfl⟩
  by_cases hne : l.length = m.length
  · by_cases h0 : l.length = 0
    · have e1 : l = [] := List.eq_nil_of_length_eq_zero h0
      have e2 : m = [] := List.eq_nil_of_length_eq_zero (by omega)
      subst e1 e2
      refine (eq_none ao bo c d w).mono ?_
      rintro e w' ⟨rfl, rfl⟩
      exact ⟨⟨true, rfl, fun _ => rfl, fun _ => rfl⟩, 0, rfl⟩
    · rcases h with ⟨_, e⟩ | ⟨b, o, c', e, hc⟩
      · exact absurd (by rw [e]; rfl) h0
      rcases h' with ⟨_, e'⟩ | ⟨b', o', c'', e', hc'⟩
      · exact absurd (by rw [hne, e']; rfl) h0
      simp only [Value.slice.injEq] at e e'
      obtain ⟨rfl, _, rfl⟩ := e
      obtain ⟨rfl, _, rfl⟩ := e'
      rw [← hne]
      refine (eq_raw b o b' o' l.length c d (fun i => ((l.getD i 0).toNat : Int)) (fun i => ((m.getD i 0).toNat : Int)) w hl (fun i hi => by rw [hc i hi]; simp [List.getD, hi]) (fun i hi => by rw [hc' i (by omega)]; simp [List.getD, (show i < m.length by omega)])).mono ?_
      rintro e w' ⟨⟨a, rfl, ha⟩, r, rfl⟩
      refine ⟨⟨a, rfl, ha.trans ⟨fun h => ?_, fun h => ?_⟩⟩, r, rfl⟩
      · refine List.ext_getElem hne fun i h1 h2 => ?_
        have := h i h1
        simp only [List.getD, List.getElem?_eq_getElem h1, List.getElem?_eq_getElem h2, Option.getD_some] at this
        exact UInt8.toNat_inj.1 (by omega)
      · subst h; exact fun i _ => rfl
  · refine (eq_short ao bo l.length m.length c d w hl hm hne).mono ?_
    rintro e w' ⟨rfl, rfl⟩
    exact ⟨⟨false, rfl, ⟨fun h => Bool.noConfusion h, fun h => absurd (by rw [h]) hne⟩⟩, 0, rfl⟩
end Go.Proofs.Qxb6605598a
