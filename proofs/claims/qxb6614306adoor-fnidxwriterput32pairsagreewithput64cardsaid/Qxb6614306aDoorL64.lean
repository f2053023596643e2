/-
  THE WALK OF THE LAW ON put32 AGAINST put64 (function 4): it returns true; nothing that was there has turned.
-/
import Derived.Test.Qxb6614306aDoorTwo
namespace Go.Proofs.Qxb6614306aDoor
open Go.RowKit Go.WideShapes
set_option linter.unusedVariables false

theorem or64 (x y : Int) (hx0 : 0 ≤ x) (hx : x % 256 = 0) (hx1 : x < 18446744073709551616) (hy0 : 0 ≤ y) (hy : y < 256) : bits .or .u64 x y = x + y := bits_join .u64 64 (by decide) wraps_u64 8 x y hx0 hx hx1 hy0 hy (by omega)
theorem val64 {a b : Int} (h : a = b) : Value.int .u64 a = .int .u64 b := by rw [h]
/-- after r bytes -/
def pre8 (z r : Nat) : Nat := z / 256 ^ (8 - r)
theorem pre8_0 (z : Nat) : pre8 z 0 = z / 18446744073709551616 := rfl
theorem pre8_1 (z : Nat) : pre8 z 1 = z / 72057594037927936 := rfl
theorem pre8_2 (z : Nat) : pre8 z 2 = z / 281474976710656 := rfl
theorem pre8_3 (z : Nat) : pre8 z 3 = z / 1099511627776 := rfl
theorem pre8_4 (z : Nat) : pre8 z 4 = z / 4294967296 := rfl
theorem pre8_5 (z : Nat) : pre8 z 5 = z / 16777216 := rfl
theorem pre8_6 (z : Nat) : pre8 z 6 = z / 65536 := rfl
theorem pre8_7 (z : Nat) : pre8 z 7 = z / 256 := rfl
theorem pre8_8 (z : Nat) : pre8 z 8 = z / 1 := rfl
theorem t0 (z : Nat) (hz : z < 18446744073709551616) : bits .or .u64 ((z : Int) / 18446744073709551616 * 256) ((z : Int) / 72057594037927936) = ((pre8 z 1 : Nat) : Int) := by
  rw [or64 _ _ (by omega) (by omega) (by omega) (by omega) (by omega), pre8_1]; omega
theorem t1 (z : Nat) (hz : z < 18446744073709551616) : bits .or .u64 ((z : Int) / 72057594037927936 * 256) ((z : Int) / 281474976710656 % 256) = ((pre8 z 2 : Nat) : Int) := by
  rw [or64 _ _ (by omega) (by omega) (by omega) (by omega) (by omega), pre8_2]; omega
theorem t2 (z : Nat) (hz : z < 18446744073709551616) : bits .or .u64 ((z : Int) / 281474976710656 * 256) ((z : Int) / 1099511627776 % 256) = ((pre8 z 3 : Nat) : Int) := by
  rw [or64 _ _ (by omega) (by omega) (by omega) (by omega) (by omega), pre8_3]; omega
theorem t3 (z : Nat) (hz : z < 18446744073709551616) : bits .or .u64 ((z : Int) / 1099511627776 * 256) ((z : Int) / 4294967296 % 256) = ((pre8 z 4 : Nat) : Int) := by
  rw [or64 _ _ (by omega) (by omega) (by omega) (by omega) (by omega), pre8_4]; omega
theorem t4 (z : Nat) (hz : z < 18446744073709551616) : bits .or .u64 ((z : Int) / 4294967296 * 256) ((z : Int) / 16777216 % 256) = ((pre8 z 5 : Nat) : Int) := by
  rw [or64 _ _ (by omega) (by omega) (by omega) (by omega) (by omega), pre8_5]; omega
theorem t5 (z : Nat) (hz : z < 18446744073709551616) : bits .or .u64 ((z : Int) / 16777216 * 256) ((z : Int) / 65536 % 256) = ((pre8 z 6 : Nat) : Int) := by
  rw [or64 _ _ (by omega) (by omega) (by omega) (by omega) (by omega), pre8_6]; omega
theorem t6 (z : Nat) (hz : z < 18446744073709551616) : bits .or .u64 ((z : Int) / 65536 * 256) ((z : Int) / 256 % 256) = ((pre8 z 7 : Nat) : Int) := by
  rw [or64 _ _ (by omega) (by omega) (by omega) (by omega) (by omega), pre8_7]; omega
theorem t7 (z : Nat) (hz : z < 18446744073709551616) : bits .or .u64 ((z : Int) / 256 * 256) ((z : Int) % 256) = ((pre8 z 8 : Nat) : Int) := by
  rw [or64 _ _ (by omega) (by omega) (by omega) (by omega) (by omega), pre8_8]; omega

/-- both outputs, read in the last world -/
def Outs (ao bo : Option Addr) (all : List Value) (w : World) : Prop :=
  (∀ j v, all[j]? = some v → ∃ g, ao = some ⟨g, 0, none⟩ ∧ w.cell? ⟨g, j, none⟩ = some v) ∧ (∀ j v, all[j]? = some v → ∃ g, bo = some ⟨g, 0, none⟩ ∧ w.cell? ⟨g, j, none⟩ = some v)

/-- behind Written of A and then of B -/
theorem two_outs {s N : Nat} {goA goB goA2 goB2 : Option Nat} {all : List Value} {w0 wr w2 w3 : World} (h : Two s N goA goB all all w0 wr) (hcA : ∀ j v, all[j]? = some v → ∃ g, goA2 = some g ∧ w2.cell? ⟨g, j, none⟩ = some v)
    (htA : Turned (fun i => i = s + 3 ∨ i = s + 2 ∨ i = s + 1 ∨ i = s ∨ some i = goA) wr w2) (hgA : goA2 = goA ∨ ∃ r, goA2 = some r ∧ wr.heap.size ≤ r)
    (hcB : ∀ j v, all[j]? = some v → ∃ g, goB2 = some g ∧ w3.cell? ⟨g, j, none⟩ = some v) (htB : Turned (fun i => i = N + 3 ∨ i = N + 2 ∨ i = N + 1 ∨ i = N ∨ some i = goB) w2 w3) :
    Outs (goA2.map fun g => ⟨g, 0, none⟩) (goB2.map fun g => ⟨g, 0, none⟩) all w3 ∧ Below s w0 w3 := by
  obtain ⟨hb2, okA2, ne2, sz2, bel2⟩ := h.stepA (allA2 := all) htA hgA
  refine ⟨⟨fun j v hj => ?_, fun j v hj => ?_⟩, ?_⟩
  · obtain ⟨g, e, hc⟩ := hcA j v hj
    refine ⟨g, by rw [e]; rfl, htB.cell (a := ⟨g, j, none⟩) ?_ hc⟩
    have hge := okA2 g e
    rintro (x | x | x | x | x)
    · simp at x; omega
    · simp at x; omega
    · simp at x; omega
    · simp at x; omega
    · exact ne2 g e x.symm
  · obtain ⟨g, e, hc⟩ := hcB j v hj
    exact ⟨g, by rw [e]; rfl, hc⟩
  · have hN := h.hN
    refine bel2.trans (htB.toBelow (by have := h.s0; have := bel2.size; omega) ?_)
    rintro i (x | x | x | x | x)
    · omega
    · omega
    · omega
    · omega
    · have := h.okB i x.symm; omega

set_option maxHeartbeats 2000000 in
theorem law64_walk (ao : Option Addr) (n c : Nat) (V : Nat → Nat) (w : World) (hn : n ≤ maxLen) (hV : ∀ k, V k < 18446744073709551616) (hc : ∀ k, k < n → ∃ x, ao = some x ∧ x.block < w.heap.size ∧ w.cell? (x.add k) = some (.int .u64 (V k))) :
    Calls Tryd.prog 4 #[.slice ao n c] w (SaysYes w) := by
  have HB := hide (bound64 ao n c w hn)
  have HC := hide hc
  have HV := hide hV
  clear hc hV
  go_enter Tryd.func4, Tryd.ntmps4
  go_wp2_with fail
  refine HB.out.mono ?_
  rintro e w' ⟨b, rfl, hb, rfl⟩
  cases b with
  | false =>
    go_wp2
    go_ret
    exact ⟨rfl, Below.refl _ _⟩
  | true =>
    have hn1 : n ≤ 1048576 := hb rfl
    clear hb HB
    by_cases hn2 : n ≤ 131072
    · have HT := hide (Two.start w)
      go_wp2_with fail
      refine (newIdx_walk w).mono ?_
      rintro e W1 ⟨rfl, hW1⟩
      rw [← hW1] at HT
      generalize hNs : W1.heap.size = N at HT
      have HN := hide hNs
      have HW1 := hide hW1
      clear hW1 hNs
      go_wp2_with fail
      refine (newIdx_walk W1).mono ?_
      rintro e W2 ⟨rfl, hW2⟩
      rw [← hW2] at HT
      rw [HN.out]
      clear hW2 HW1
      go_wp2_with fail
      go_loopw [7] (fun i wr => ∃ (k : Nat) (goA goB : Option Nat), k ≤ n ∧ i = .int .i64 k ∧ Hid (Two w.heap.size N goA goB (flat8 V k) (flat8 V k) w wr)) (fun i _ => n - (intOf i).toNat)
      case atStart => exact ⟨0, none, none, Nat.zero_le _, rfl, HT⟩
      case round =>
        obtain ⟨k, goA, goB, hk, rfl, HK⟩ := hrel
        by_cases hlt : k < n
        · obtain ⟨⟨xb, xo, xs⟩, rfl, hxb, hx0⟩ := HC.out 0 (by omega)
          have es : xs = none := by simpa [Addr.add] using World.cell?_spot hx0
          subst es
          obtain ⟨x, ex, -, hxk⟩ := HC.out k hlt
          simp only [Option.some.injEq] at ex
          subst ex
          rw [add_plain] at hxk
          have hck : wr.cell? ⟨xb, xo + k, none⟩ = some (.int .u64 (V k)) := (HK.out.bel.cell (p := ⟨xb, xo + k, none⟩) hxb).trans hxk
          have HX := hide hxk
          clear hxk hx0
          have hz := HV.out k
          have hlen : (flat8 V k).length ≤ 1048576 := by rw [flat8_len]; omega
          go_wp2_with fail
          rw [show ((V k : Int) / 4294967296) = ((V k / 4294967296 : Nat) : Int) from by omega]
          refine (zzput32_walk _ _ _ _ goA (flat8 V k) (V k / 4294967296) wr (by omega) HK.out.a (by omega)).mono ?_
          intro e w2 hp2
          obtain ⟨rfl, goA2, htwo2⟩ := HK.out.putA hp2
          have HK2 := hide htwo2
          clear hp2 htwo2
          have hck2 : w2.cell? ⟨xb, xo + k, none⟩ = some (.int .u64 (V k)) := (HK2.out.bel.cell (p := ⟨xb, xo + k, none⟩) hxb).trans HX.out
          clear hck
          go_wp2_with fail
          rw [show ((V k : Int) % 4294967296) = ((V k % 4294967296 : Nat) : Int) from by omega]
          refine (zzput32_walk _ _ _ _ goA2 _ (V k % 4294967296) w2 (by omega) HK2.out.a (by rw [List.length_append]; show _ + 4 ≤ _; omega)).mono ?_
          intro e w3 hp3
          obtain ⟨rfl, goA3, htwo3⟩ := HK2.out.putA hp3
          rw [List.append_assoc, be8_split _ hz] at htwo3
          have HK3 := hide htwo3
          clear hp3 htwo3
          have hck3 : w3.cell? ⟨xb, xo + k, none⟩ = some (.int .u64 (V k)) := (HK3.out.bel.cell (p := ⟨xb, xo + k, none⟩) hxb).trans HX.out
          clear hck2
          go_wp2_with fail
          refine (zzput64_walk _ _ _ _ goB (flat8 V k) (V k) w3 hz HK3.out.b (by omega)).mono ?_
          intro e w4 hp4
          obtain ⟨rfl, goB4, htwo4⟩ := HK3.out.putB hp4
          have HK4 := hide htwo4
          clear hp4 htwo4 hck3
          go_wp2
          go_roundw
          case rel => exact ⟨k + 1, goA3, goB4, by omega, by go_num, HK4⟩
          case measure => simp [intOf]; omega
        · have e1 : k = n := by omega
          subst e1
          go_wp2_with fail
          refine (written_walk _ _ _ _ 4 goA (flat8 V k) wr HK.out.a (by rw [flat8_len]; omega)).mono ?_
          rintro e w2 ⟨goA2, capA, he, hcA, htA, hgA⟩
          obtain ⟨hb2, -⟩ := HK.out.stepA (allA2 := flat8 V k) htA hgA
          rw [flat8_len] at he
          have HHb := hide hb2
          have HcA := hide hcA
          have HtA := hide htA
          have HgA := hide hgA
          clear hcA htA hgA hb2
          generalize haoA : (goA2.map fun g => (⟨g, 0, none⟩ : Addr)) = aoA at he
          have HaoA := hide haoA
          clear haoA
          subst he
          go_wp2_with fail
          refine (written_walk _ _ _ _ 8 goB (flat8 V k) w2 HHb.out (by rw [flat8_len]; omega)).mono ?_
          rintro e w3 ⟨goB2, capB, he, hcB, htB, hgB⟩
          rw [flat8_len] at he
          generalize haoB : (goB2.map fun g => (⟨g, 0, none⟩ : Addr)) = aoB at he
          subst he
          have houts := two_outs HK.out HcA.out HtA.out HgA.out hcB htB
          rw [HaoA.out, haoB] at houts
          have HO := hide houts
          clear houts hcB htB hgB haoB HcA HtA HgA HHb HaoA
          have HEq := hide (equal_same aoA aoB (8 * k) capA capB (fun i => u8Of ((flat8 V k)[i]?.getD .nilIface)) w3 (by omega) (fun i hi => HO.out.1.1 i _ (flat8_at V k i hi)) (fun i hi => HO.out.1.2 i _ (flat8_at V k i hi)))
          go_wp2_with fail
          refine HEq.out.mono ?_
          rintro e w4 ⟨rfl, d4, rfl⟩
          have HFin : Hid (Below w.heap.size w (w3.drewN d4)) := by
            have hb := HO.out.2
            exact ⟨hb.os, hb.tape, hb.output, hb.size, hb.block⟩
          clear HEq
          go_wp2_with fail
          go_loop [10, 11, 12] (fun kv _ _ => ∃ q : Nat, q ≤ k ∧ kv = .int .i64 q) (fun kv _ _ => k - (intOf kv).toNat)
          case atStart => exact ⟨0, Nat.zero_le _, rfl⟩
          case round =>
            obtain ⟨q, hq, rfl⟩ := hrel
            by_cases hlt2 : q < k
            · have hget := flat8_get V k q
              obtain ⟨g, hg, hcell0⟩ := HO.out.1.1 (8 * q) _ (hget 0 hlt2 (by omega))
              subst hg
              have hcell : ∀ j v, j < 8 → (be8 (V q))[j]? = some v → w3.cell? ⟨g, 8 * q + j, none⟩ = some v := fun j v hj hv => by
                obtain ⟨g', e', hc'⟩ := HO.out.1.1 (8 * q + j) v (by rw [hget j hlt2 hj]; exact hv)
                simp only [Option.some.injEq, Addr.mk.injEq] at e'
                obtain ⟨rfl, -⟩ := e'
                exact hc'
              have x1 := hcell 1 _ (by omega) rfl
              have x2 := hcell 2 _ (by omega) rfl
              have x3 := hcell 3 _ (by omega) rfl
              have x4 := hcell 4 _ (by omega) rfl
              have x5 := hcell 5 _ (by omega) rfl
              have x6 := hcell 6 _ (by omega) rfl
              have x7 := hcell 7 _ (by omega) rfl
              have hz := HV.out q
              clear hcell hget
              go_wp2_with fail
              go_loop [11, 12] (fun v j => ∃ r : Nat, r ≤ 8 ∧ j = .int .i64 r ∧ v = .int .u64 ((pre8 (V q) r : Nat) : Int)) (fun _ j => 8 - (intOf j).toNat)
              case atStart => exact ⟨0, by omega, rfl, val64 (by rw [pre8_0]; omega)⟩
              case round =>
                obtain ⟨r, hr, rfl, rfl⟩ := hrel
                by_cases h8 : r = 8
                · subst h8
                  rw [pre8_8, Nat.div_one]
                  obtain ⟨⟨xb, xo, xs⟩, rfl, hxb, hx0⟩ := HC.out 0 (by omega)
                  have es : xs = none := by simpa [Addr.add] using World.cell?_spot hx0
                  subst es
                  obtain ⟨x, ex, -, hxk⟩ := HC.out q hlt2
                  simp only [Option.some.injEq] at ex
                  subst ex
                  rw [add_plain] at hxk
                  have hck : w3.cell? ⟨xb, xo + q, none⟩ = some (.int .u64 (V q)) := (HO.out.2.cell (p := ⟨xb, xo + q, none⟩) hxb).trans hxk
                  clear hxk hx0 hcell0 x1 x2 x3 x4 x5 x6 x7
                  go_wp2
                  go_round
                  case rel => exact ⟨q + 1, by omega, by go_num⟩
                  case measure => simp [intOf]; omega
                · have h07 : r = 0 ∨ r = 1 ∨ r = 2 ∨ r = 3 ∨ r = 4 ∨ r = 5 ∨ r = 6 ∨ r = 7 := by omega
                  rcases h07 with rfl | rfl | rfl | rfl | rfl | rfl | rfl | rfl
                  · rw [pre8_0]
                    go_wp2
                    go_round
                    case rel => exact ⟨1, by omega, by go_num, val64 (t0 _ hz)⟩
                    case measure => simp [intOf]
                  · rw [pre8_1]
                    go_wp2
                    go_round
                    case rel => exact ⟨2, by omega, by go_num, val64 (t1 _ hz)⟩
                    case measure => simp [intOf]
                  · rw [pre8_2]
                    go_wp2
                    go_round
                    case rel => exact ⟨3, by omega, by go_num, val64 (t2 _ hz)⟩
                    case measure => simp [intOf]
                  · rw [pre8_3]
                    go_wp2
                    go_round
                    case rel => exact ⟨4, by omega, by go_num, val64 (t3 _ hz)⟩
                    case measure => simp [intOf]
                  · rw [pre8_4]
                    go_wp2
                    go_round
                    case rel => exact ⟨5, by omega, by go_num, val64 (t4 _ hz)⟩
                    case measure => simp [intOf]
                  · rw [pre8_5]
                    go_wp2
                    go_round
                    case rel => exact ⟨6, by omega, by go_num, val64 (t5 _ hz)⟩
                    case measure => simp [intOf]
                  · rw [pre8_6]
                    go_wp2
                    go_round
                    case rel => exact ⟨7, by omega, by go_num, val64 (t6 _ hz)⟩
                    case measure => simp [intOf]
                  · rw [pre8_7]
                    go_wp2
                    go_round
                    case rel => exact ⟨8, by omega, by go_num, val64 (t7 _ hz)⟩
                    case measure => simp [intOf]
            · go_wp2
              go_ret
              exact ⟨rfl, HFin.out⟩
    · go_wp2
      go_ret
      exact ⟨rfl, Below.refl _ _⟩
end Go.Proofs.Qxb6614306aDoor
