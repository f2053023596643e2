/-
  TWO idxWriters side by side, one given 32 bits at a time, the other 64: what a put or a read of one leaves of the other. No walk but equalBytes (11), the bound (9).
-/
import Derived.Test.Qxb6614306aDoorL32
namespace Go.Proofs.Qxb6614306aDoor
open Go.RowKit Go.WideShapes
set_option linter.unusedVariables false

theorem bound64 (ao : Option Addr) (n c : Nat) (w : World) (hn : n ≤ maxLen) : Calls Tryd.prog 9 #[.slice ao n c] w (SaysSo (n ≤ 1048576) w) := by
  unfold maxLen at hn
  by_cases h : n ≤ 1048576
  · go_enter Tryd.func9, Tryd.ntmps9
    go_wp2
    go_ret
    exact ⟨true, rfl, fun _ => h, rfl⟩
  · go_enter Tryd.func9, Tryd.ntmps9
    go_wp2
    go_ret
    exact ⟨false, rfl, by simp, rfl⟩

set_option maxHeartbeats 400000 in
theorem equal_same (ao bo : Option Addr) (n c d : Nat) (Z : Nat → Int) (w : World) (hn : n ≤ 1073741824)
    (ha : ∀ i, i < n → ∃ g, ao = some ⟨g, 0, none⟩ ∧ w.cell? ⟨g, i, none⟩ = some (.int .u8 (Z i))) (hb : ∀ i, i < n → ∃ g, bo = some ⟨g, 0, none⟩ ∧ w.cell? ⟨g, i, none⟩ = some (.int .u8 (Z i))) :
    Calls Tryd.prog 11 #[.slice ao n c, .slice bo n d] w fun e w' => e = .returned (.bool true) ∧ ∃ m, w' = w.drewN m := by
  by_cases h0 : n = 0
  · subst h0
    clear ha hb
    go_enter Tryd.func11, Tryd.ntmps11
    go_wp2
    go_loop [5] (fun i => i = .int .i64 0) (fun _ => 0)
    case atStart => rfl
    case round =>
      subst hrel
      go_wp2
      go_ret
      exact ⟨rfl, 0, rfl⟩
  · obtain ⟨b1, rfl, g1⟩ := ha 0 (by omega)
    obtain ⟨b2, rfl, g2⟩ := hb 0 (by omega)
    have ca : ∀ i, i < n → w.cell? ⟨b1, i, none⟩ = some (.int .u8 (Z i)) := fun i hi => by
      obtain ⟨x, hx, h⟩ := ha i hi
      simp only [Option.some.injEq, Addr.mk.injEq] at hx
      rw [hx.1]; exact h
    have cb : ∀ i, i < n → w.cell? ⟨b2, i, none⟩ = some (.int .u8 (Z i)) := fun i hi => by
      obtain ⟨x, hx, h⟩ := hb i hi
      simp only [Option.some.injEq, Addr.mk.injEq] at hx
      rw [hx.1]; exact h
    clear ha hb g1 g2
    go_enter Tryd.func11, Tryd.ntmps11
    go_wp2
    go_loopw [5] (fun i wr => ∃ k m : Nat, k ≤ n ∧ i = .int .i64 k ∧ wr = w.drewN m) (fun i _ => n - (intOf i).toNat)
    case atStart => exact ⟨0, 0, Nat.zero_le _, rfl, rfl⟩
    case round =>
      obtain ⟨k, m, hk, rfl, rfl⟩ := hrel
      by_cases hlt : k < n
      · have c1 := ca k hlt
        have c2 := cb k hlt
        clear ca cb
        go_wp2
        go_quiet (fail)
        go_wp2
        go_roundw
        case rel => exact ⟨k + 1, _, by omega, by go_num, rfl⟩
        case measure => simp [intOf]; omega
      · go_wp2
        go_ret
        exact ⟨rfl, m, rfl⟩

/-- the two halves' bytes are the whole's -/
theorem be8_split (v : Nat) (hv : v < 18446744073709551616) : be4 ((v / 4294967296 : Nat) : Int) ++ be4 ((v % 4294967296 : Nat) : Int) = be8 v := by
  have h (a b : Int) (e : a = b) : Value.int .u8 a = .int .u8 b := by rw [e]
  simp only [be4, be8, List.cons_append, List.nil_append, List.cons.injEq, and_true]
  exact ⟨h _ _ (by omega), h _ _ (by omega), h _ _ (by omega), h _ _ (by omega), h _ _ (by omega), h _ _ (by omega), h _ _ (by omega), h _ _ (by omega)⟩

/-- the bytes of the first k numbers -/
def flat8 (V : Nat → Nat) : Nat → List Value
  | 0 => []
  | k + 1 => flat8 V k ++ be8 (V k)

theorem flat8_len (V : Nat → Nat) : ∀ k, (flat8 V k).length = 8 * k
  | 0 => rfl
  | k + 1 => by rw [flat8, List.length_append, flat8_len V k]; rfl

theorem flat8_get (V : Nat → Nat) : ∀ (n k j : Nat), k < n → j < 8 → (flat8 V n)[8 * k + j]? = (be8 (V k))[j]?
  | 0, k, j, hk, _ => absurd hk (Nat.not_lt_zero _)
  | n + 1, k, j, hk, hj => by
    rw [flat8]
    by_cases e : k = n
    · subst e
      rw [List.getElem?_append_right (by rw [flat8_len]; omega), flat8_len]
      congr 1
      omega
    · rw [List.getElem?_append_left (by rw [flat8_len]; omega)]
      exact flat8_get V n k j (by omega) hj

theorem be8_u8 (v : Int) : ∀ u ∈ be8 v, ∃ z, u = .int .u8 z := by intro u hu; simp [be8] at hu; rcases hu with rfl | rfl | rfl | rfl | rfl | rfl | rfl | rfl <;> exact ⟨_, rfl⟩

theorem flat8_u8 (V : Nat → Nat) : ∀ n, ∀ u ∈ flat8 V n, ∃ z, u = .int .u8 z
  | 0, u, hu => by simp [flat8] at hu
  | n + 1, u, hu => by
    rw [flat8] at hu
    rcases List.mem_append.1 hu with h | h
    · exact flat8_u8 V n u h
    · exact be8_u8 _ u h

def u8Of : Value → Int | .int _ z => z | _ => 0

theorem flat8_at (V : Nat → Nat) (n i : Nat) (hi : i < 8 * n) : (flat8 V n)[i]? = some (.int .u8 (u8Of ((flat8 V n)[i]?.getD .nilIface))) := by
  have hl : i < (flat8 V n).length := by rw [flat8_len]; exact hi
  rw [List.getElem?_eq_getElem hl]
  obtain ⟨z, hz⟩ := flat8_u8 V n _ (List.getElem_mem hl)
  rw [hz]
  rfl

theorem Turned.wr {T : Nat → Prop} {ib wb rb b m : Nat} {go : Option Nat} {all : List Value} {w w' : World} (ht : Turned T w w') (h : Wr ib wb rb b m go all w) (h0 : ¬ T ib) (h1 : ¬ T wb) (h2 : ¬ T rb) (h3 : ¬ T b) (h4 : ∀ g, go = some g → ¬ T g) : Wr ib wb rb b m go all w' := by
  obtain ⟨⟨n, row, bs, hn, hh⟩, ⟨f, hf, hf2⟩, hne⟩ := h
  exact ⟨⟨n, row, bs, hn, ht.holds hh h1 h2 h3 h4⟩, ⟨f, hf.of_block (ht.block ib hf.lt h0), hf2⟩, hne⟩

theorem Wr.goLt {ib wb rb b m : Nat} {go : Option Nat} {all : List Value} {w : World} (h : Wr ib wb rb b m go all w) : ∀ g, go = some g → g < w.heap.size := by
  obtain ⟨⟨n, row, bs, hn, hh⟩, -⟩ := h
  exact hh.lt.2.2.2

/-- TWO WRITERS: A's blocks s .. s + 3, B's N .. N + 3; the Buffers' rows beyond both, and apart -/
structure Two (s N : Nat) (goA goB : Option Nat) (allA allB : List Value) (w0 wr : World) : Prop where
  hN : N = s + 4
  a : Wr (s + 3) (s + 2) (s + 1) s 4 goA allA wr
  b : Wr (N + 3) (N + 2) (N + 1) N 8 goB allB wr
  okA : GoOk (N + 4) goA
  okB : GoOk (N + 4) goB
  ne : ∀ g, goA = some g → goB ≠ some g
  sz : N + 4 ≤ wr.heap.size
  s0 : s ≤ w0.heap.size
  bel : Below s w0 wr

theorem Two.stepA {s N : Nat} {goA goB goA2 : Option Nat} {allA allB allA2 : List Value} {w0 wr w2 : World} (h : Two s N goA goB allA allB w0 wr) (ht : Turned (fun i => i = s + 3 ∨ i = s + 2 ∨ i = s + 1 ∨ i = s ∨ some i = goA) wr w2)
    (hg : goA2 = goA ∨ ∃ r, goA2 = some r ∧ wr.heap.size ≤ r) :
    Wr (N + 3) (N + 2) (N + 1) N 8 goB allB w2 ∧ GoOk (N + 4) goA2 ∧ (∀ g, goA2 = some g → goB ≠ some g) ∧ N + 4 ≤ w2.heap.size ∧ Below s w0 w2 := by
  obtain ⟨rfl, ha, hb, okA, okB, ne, sz, s0, bel⟩ := h
  have hT : ∀ i, s + 4 ≤ i → i < s + 4 + 4 → ¬ (i = s + 3 ∨ i = s + 2 ∨ i = s + 1 ∨ i = s ∨ some i = goA) := by
    rintro i h1 h2 (e | e | e | e | e)
    · omega
    · omega
    · omega
    · omega
    · have := okA i e.symm; omega
  refine ⟨ht.wr hb (hT _ (by omega) (by omega)) (hT _ (by omega) (by omega)) (hT _ (by omega) (by omega)) (hT _ (by omega) (by omega)) ?_, okA.next hg sz, ?_, Nat.le_trans sz ht.size, bel.trans (ht.toBelow (Nat.le_trans s0 bel.size) ?_)⟩
  · rintro g hgB (e | e | e | e | e)
    · have := okB g hgB; omega
    · have := okB g hgB; omega
    · have := okB g hgB; omega
    · have := okB g hgB; omega
    · exact ne g e.symm hgB
  · intro g hg2 hgB
    rcases hg with e | ⟨r, e, hr⟩
    · exact ne g (e ▸ hg2) hgB
    · rw [e] at hg2
      simp only [Option.some.injEq] at hg2
      have := hb.goLt g hgB
      omega
  · rintro i (e | e | e | e | e)
    · omega
    · omega
    · omega
    · omega
    · have := okA i e.symm; omega

theorem Two.putA {s N : Nat} {goA goB : Option Nat} {allA allB allA2 : List Value} {w0 wr w2 : World} {e : Ending} (h : Two s N goA goB allA allB w0 wr) (hp : Put (s + 3) (s + 2) (s + 1) s 4 goA allA2 wr e w2) :
    e = .returned (.tuple #[]) ∧ ∃ goA2, Two s N goA2 goB allA2 allB w0 w2 := by
  obtain ⟨rfl, goA2, hw2, ht, hg⟩ := hp
  obtain ⟨hb, okA, ne, sz, bel⟩ := h.stepA (allA2 := allA2) ht hg
  exact ⟨rfl, goA2, h.hN, hw2, hb, okA, h.okB, ne, sz, h.s0, bel⟩

theorem Two.stepB {s N : Nat} {goA goB goB2 : Option Nat} {allA allB allB2 : List Value} {w0 wr w2 : World} (h : Two s N goA goB allA allB w0 wr) (ht : Turned (fun i => i = N + 3 ∨ i = N + 2 ∨ i = N + 1 ∨ i = N ∨ some i = goB) wr w2)
    (hg : goB2 = goB ∨ ∃ r, goB2 = some r ∧ wr.heap.size ≤ r) :
    Wr (s + 3) (s + 2) (s + 1) s 4 goA allA w2 ∧ GoOk (N + 4) goB2 ∧ (∀ g, goA = some g → goB2 ≠ some g) ∧ N + 4 ≤ w2.heap.size ∧ Below s w0 w2 := by
  obtain ⟨rfl, ha, hb, okA, okB, ne, sz, s0, bel⟩ := h
  have hT : ∀ i, i < s + 4 → ¬ (i = s + 4 + 3 ∨ i = s + 4 + 2 ∨ i = s + 4 + 1 ∨ i = s + 4 ∨ some i = goB) := by
    rintro i h1 (e | e | e | e | e)
    · omega
    · omega
    · omega
    · omega
    · have := okB i e.symm; omega
  refine ⟨ht.wr ha (hT _ (by omega)) (hT _ (by omega)) (hT _ (by omega)) (hT _ (by omega)) ?_, okB.next hg sz, ?_, Nat.le_trans sz ht.size, bel.trans (ht.toBelow (Nat.le_trans s0 bel.size) ?_)⟩
  · rintro g hgA (e | e | e | e | e)
    · have := okA g hgA; omega
    · have := okA g hgA; omega
    · have := okA g hgA; omega
    · have := okA g hgA; omega
    · exact ne g hgA e.symm
  · intro g hgA hg2
    rcases hg with e | ⟨r, e, hr⟩
    · exact ne g hgA (e ▸ hg2)
    · rw [e] at hg2
      simp only [Option.some.injEq] at hg2
      have := ha.goLt g hgA
      omega
  · rintro i (e | e | e | e | e)
    · omega
    · omega
    · omega
    · omega
    · have := okB i e.symm; omega

theorem Two.putB {s N : Nat} {goA goB : Option Nat} {allA allB allB2 : List Value} {w0 wr w2 : World} {e : Ending} (h : Two s N goA goB allA allB w0 wr) (hp : Put (N + 3) (N + 2) (N + 1) N 8 goB allB2 wr e w2) :
    e = .returned (.tuple #[]) ∧ ∃ goB2, Two s N goA goB2 allA allB2 w0 w2 := by
  obtain ⟨rfl, goB2, hw2, ht, hg⟩ := hp
  obtain ⟨ha, okB, ne, sz, bel⟩ := h.stepB (allB2 := allB2) ht hg
  exact ⟨rfl, goB2, h.hN, ha, hw2, h.okA, okB, ne, sz, h.s0, bel⟩

/-- two new writers -/
theorem Two.start (w : World) : Two w.heap.size (newBlocks w).heap.size none none [] [] w (newBlocks (newBlocks w)) := by
  obtain ⟨a1, a2, a3⟩ := newBlocks_wr w 4
  obtain ⟨b1, b2, b3⟩ := newBlocks_wr (newBlocks w) 8
  have hT : Turned (fun _ => False) (newBlocks w) (newBlocks (newBlocks w)) := ⟨b2.os, b2.tape, b2.output, b2.size, fun k hk _ => b2.block k hk⟩
  refine ⟨a3, hT.wr a1 id id id id (fun g hg => by cases hg), b1, fun g hg => (by cases hg), fun g hg => (by cases hg), fun g hg => (by cases hg), by omega, Nat.le_refl _, a2.trans (b2.mono (by omega))⟩
end Go.Proofs.Qxb6614306aDoor
