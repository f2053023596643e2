/-
  THE WALK OF THE LAW ON put32 (function 3): it returns true; nothing that was there has turned.
-/
import Derived.Test.Qxb6614306aDoorNew
import Derived.Lib.EndianBits
namespace Go.Proofs.Qxb6614306aDoor
open Go.RowKit Go.WideShapes
set_option linter.unusedVariables false

/-- what a test of sizes hands back -/
def SaysSo (q : Prop) (w : World) (e : Ending) (w' : World) : Prop := ∃ b : Bool, e = .returned (.bool b) ∧ (b = true → q) ∧ w = w'
/-- true; the world has grown -/
def SaysYes (w : World) (e : Ending) (w' : World) : Prop := e = .returned (.bool true) ∧ Below w.heap.size w w'

theorem bound32 (ao : Option Addr) (n c : Nat) (w : World) (hn : n ≤ maxLen) : Calls Tryd.prog 5 #[.slice ao n c] w (SaysSo (n ≤ 1048576) w) := by
  unfold maxLen at hn
  by_cases h : n ≤ 1048576
  · go_enter Tryd.func5, Tryd.ntmps5
    go_wp2
    go_ret
    exact ⟨true, rfl, fun _ => h, rfl⟩
  · go_enter Tryd.func5, Tryd.ntmps5
    go_wp2
    go_ret
    exact ⟨false, rfl, by simp, rfl⟩

/-- the bytes of the first k numbers -/
def flat4 (V : Nat → Nat) : Nat → List Value
  | 0 => []
  | k + 1 => flat4 V k ++ be4 (V k)

theorem flat4_len (V : Nat → Nat) : ∀ k, (flat4 V k).length = 4 * k
  | 0 => rfl
  | k + 1 => by rw [flat4, List.length_append, flat4_len V k]; rfl

theorem flat4_get (V : Nat → Nat) : ∀ (n k j : Nat), k < n → j < 4 → (flat4 V n)[4 * k + j]? = (be4 (V k))[j]?
  | 0, k, j, hk, _ => absurd hk (Nat.not_lt_zero _)
  | n + 1, k, j, hk, hj => by
    rw [flat4]
    by_cases e : k = n
    · subst e
      rw [List.getElem?_append_right (by rw [flat4_len]; omega), flat4_len]
      congr 1
      omega
    · rw [List.getElem?_append_left (by rw [flat4_len]; omega)]
      exact flat4_get V n k j (by omega) hj

theorem or32 (x y : Int) (hx0 : 0 ≤ x) (hx : x % 256 = 0) (hx1 : x < 4294967296) (hy0 : 0 ≤ y) (hy : y < 256) : bits .or .u32 x y = x + y := bits_join .u32 32 (by decide) wraps_u32 8 x y hx0 hx hx1 hy0 hy (by omega)
theorem val32 {a b : Int} (h : a = b) : Value.int .u32 a = .int .u32 b := by rw [h]
theorem s0 (z : Nat) (hz : z < 4294967296) : bits .or .u32 ((z : Int) / 4294967296 * 256) ((z : Int) / 16777216) = ((z / 256 ^ (4 - 1) : Nat) : Int) := by
  rw [or32 _ _ (by omega) (by omega) (by omega) (by omega) (by omega)]; show _ = ((z / 16777216 : Nat) : Int); omega
theorem s1 (z : Nat) (hz : z < 4294967296) : bits .or .u32 ((z : Int) / 16777216 * 256) ((z : Int) / 65536 % 256) = ((z / 256 ^ (4 - 2) : Nat) : Int) := by
  rw [or32 _ _ (by omega) (by omega) (by omega) (by omega) (by omega)]; show _ = ((z / 65536 : Nat) : Int); omega
theorem s2 (z : Nat) (hz : z < 4294967296) : bits .or .u32 ((z : Int) / 65536 * 256) ((z : Int) / 256 % 256) = ((z / 256 ^ (4 - 3) : Nat) : Int) := by
  rw [or32 _ _ (by omega) (by omega) (by omega) (by omega) (by omega)]; show _ = ((z / 256 : Nat) : Int); omega
theorem s3 (z : Nat) (hz : z < 4294967296) : bits .or .u32 ((z : Int) / 256 * 256) ((z : Int) % 256) = ((z / 256 ^ (4 - 4) : Nat) : Int) := by
  rw [or32 _ _ (by omega) (by omega) (by omega) (by omega) (by omega)]; show _ = ((z / 1 : Nat) : Int); omega

def GoOk (B : Nat) (go : Option Nat) : Prop := ∀ g, go = some g → B ≤ g

theorem GoOk.next {B : Nat} {go go2 : Option Nat} {w : World} (h : GoOk B go) (hg : go2 = go ∨ ∃ r, go2 = some r ∧ w.heap.size ≤ r) (hB : B ≤ w.heap.size) : GoOk B go2 := by
  intro g hg2
  rcases hg with e | ⟨r, e, hr⟩
  · exact h g (e ▸ hg2)
  · rw [e] at hg2
    simp only [Option.some.injEq] at hg2
    omega

set_option maxHeartbeats 1000000 in
theorem law32_walk (ao : Option Addr) (n c : Nat) (V : Nat → Nat) (w : World) (hn : n ≤ maxLen) (hV : ∀ k, V k < 4294967296) (hc : ∀ k, k < n → ∃ x, ao = some x ∧ x.block < w.heap.size ∧ w.cell? (x.add k) = some (.int .u32 (V k))) :
    Calls Tryd.prog 3 #[.slice ao n c] w (SaysYes w) := by
  have HB := hide (bound32 ao n c w hn)
  have HC := hide hc
  have HV := hide hV
  clear hc hV
  go_enter Tryd.func3, Tryd.ntmps3
  go_wp2_with fail
  refine HB.out.mono ?_
  rintro e w' ⟨b, rfl, hb, rfl⟩
  cases b with
  | false =>
    go_wp2
    go_ret
    exact ⟨rfl, Below.refl _ _⟩
  | true =>
    have hn1 : n ≤ 1048576 := hb rfl
    clear hb HB
    by_cases hn2 : n ≤ 131072
    · go_wp2_with fail
      refine (newIdx_walk w).mono ?_
      rintro e W1 ⟨rfl, hW1⟩
      obtain ⟨hwr, hbel, hsz⟩ := newBlocks_wr w 4
      rw [← hW1] at hwr hbel hsz
      have HW := hide hwr
      have HBe := hide hbel
      clear hwr hbel hW1
      go_wp2_with fail
      go_loopw [5] (fun i wr => ∃ (k : Nat) (go : Option Nat), k ≤ n ∧ i = .int .i64 k ∧ Hid (Wr (w.heap.size + 3) (w.heap.size + 2) (w.heap.size + 1) w.heap.size 4 go (flat4 V k) wr) ∧ Hid (GoOk w.heap.size go) ∧ Hid (Below w.heap.size w wr)) (fun i _ => n - (intOf i).toNat)
      case atStart => exact ⟨0, none, Nat.zero_le _, rfl, HW, hide (fun g hg => by cases hg), HBe⟩
      case round =>
        obtain ⟨k, go, hk, rfl, HK, HG, HL⟩ := hrel
        by_cases hlt : k < n
        · obtain ⟨⟨xb, xo, xs⟩, rfl, hxb, hx0⟩ := HC.out 0 (by omega)
          have es : xs = none := by simpa [Addr.add] using World.cell?_spot hx0
          subst es
          obtain ⟨x, ex, -, hxk⟩ := HC.out k hlt
          simp only [Option.some.injEq] at ex
          subst ex
          rw [add_plain] at hxk
          have hck : wr.cell? ⟨xb, xo + k, none⟩ = some (.int .u32 (V k)) := (HL.out.cell (p := ⟨xb, xo + k, none⟩) hxb).trans hxk
          clear hxk hx0
          have HP := hide (zzput32_walk _ _ _ _ go (flat4 V k) (V k) wr (HV.out k) HK.out (by rw [flat4_len]; omega))
          go_wp2_with fail
          refine HP.out.mono ?_
          rintro e w2 ⟨rfl, go2, hw2, ht2, hg2⟩
          have HK2 := hide hw2
          have HG2 : Hid (GoOk w.heap.size go2) := HG.out.next hg2 HL.out.size
          have HL2 : Hid (Below w.heap.size w w2) := HL.out.trans (ht2.toBelow HL.out.size (by rintro i (e | e | e | e | e); omega; omega; omega; omega; exact HG.out i e.symm))
          clear hw2 ht2 hg2 HP
          go_wp2
          go_roundw
          case rel => exact ⟨k + 1, go2, by omega, by go_num, HK2, HG2, HL2⟩
          case measure => simp [intOf]; omega
        · have e1 : k = n := by omega
          subst e1
          have HO := hide (written_walk _ _ _ _ 4 go (flat4 V k) wr HK.out (by rw [flat4_len]; omega))
          go_wp2_with fail
          refine HO.out.mono ?_
          rintro e w2 ⟨go2, cap, he, hcells, ht2, hg2⟩
          rw [flat4_len] at he
          generalize hao2 : (go2.map fun g => (⟨g, 0, none⟩ : Addr)) = ao2 at he
          subst he
          have HL2 : Hid (Below w.heap.size w w2) := HL.out.trans (ht2.toBelow HL.out.size (by rintro i (e | e | e | e | e); omega; omega; omega; omega; exact HG.out i e.symm))
          have HCe : Hid (∀ j v, (flat4 V k)[j]? = some v → ∃ g, ao2 = some ⟨g, 0, none⟩ ∧ w2.cell? ⟨g, j, none⟩ = some v) := fun j v hj => by
            obtain ⟨g, hg, hv⟩ := hcells j v hj
            exact ⟨g, by rw [← hao2, hg]; rfl, hv⟩
          clear hcells ht2 hg2 HO hao2
          go_wp2_with fail
          go_loop [7, 8, 9] (fun kv _ _ => ∃ q : Nat, q ≤ k ∧ kv = .int .i64 q) (fun kv _ _ => k - (intOf kv).toNat)
          case atStart => exact ⟨0, Nat.zero_le _, rfl⟩
          case round =>
            obtain ⟨q, hq, rfl⟩ := hrel
            by_cases hlt2 : q < k
            · have hget := flat4_get V k q
              obtain ⟨g, hg, hcell0⟩ := HCe.out (4 * q) _ (hget 0 hlt2 (by omega))
              subst hg
              have hcell : ∀ j v, j < 4 → (be4 (V q))[j]? = some v → w2.cell? ⟨g, 4 * q + j, none⟩ = some v := fun j v hj hv => by
                obtain ⟨g', e', hc'⟩ := HCe.out (4 * q + j) v (by rw [hget j hlt2 hj]; exact hv)
                simp only [Option.some.injEq, Addr.mk.injEq] at e'
                obtain ⟨rfl, -⟩ := e'
                exact hc'
              have x1 := hcell 1 _ (by omega) rfl
              have x2 := hcell 2 _ (by omega) rfl
              have x3 := hcell 3 _ (by omega) rfl
              have hz := HV.out q
              clear hcell hget
              go_wp2_with fail
              go_loop [8, 9] (fun v j => ∃ r : Nat, r ≤ 4 ∧ j = .int .i64 r ∧ v = .int .u32 ((V q / 256 ^ (4 - r) : Nat) : Int)) (fun _ j => 4 - (intOf j).toNat)
              case atStart => exact ⟨0, by omega, rfl, by simp; omega⟩
              case round =>
                obtain ⟨r, hr, rfl, rfl⟩ := hrel
                by_cases h4 : r = 4
                · subst h4
                  have hd : V q / 256 ^ (4 - 4) = V q := by simp
                  rw [hd]
                  obtain ⟨⟨xb, xo, xs⟩, rfl, hxb, hx0⟩ := HC.out 0 (by omega)
                  have es : xs = none := by simpa [Addr.add] using World.cell?_spot hx0
                  subst es
                  obtain ⟨x, ex, -, hxk⟩ := HC.out q hlt2
                  simp only [Option.some.injEq] at ex
                  subst ex
                  rw [add_plain] at hxk
                  have hck : w2.cell? ⟨xb, xo + q, none⟩ = some (.int .u32 (V q)) := (HL2.out.cell (p := ⟨xb, xo + q, none⟩) hxb).trans hxk
                  clear hxk hx0 hcell0 x1 x2 x3 hd
                  go_wp2
                  go_round
                  case rel => exact ⟨q + 1, by omega, by go_num⟩
                  case measure => simp [intOf]; omega
                · have h03 : r = 0 ∨ r = 1 ∨ r = 2 ∨ r = 3 := by omega
                  rcases h03 with rfl | rfl | rfl | rfl
                  · go_wp2
                    go_round
                    case rel => exact ⟨1, by omega, by go_num, val32 (s0 _ hz)⟩
                    case measure => simp [intOf]
                  · go_wp2
                    go_round
                    case rel => exact ⟨2, by omega, by go_num, val32 (s1 _ hz)⟩
                    case measure => simp [intOf]
                  · go_wp2
                    go_round
                    case rel => exact ⟨3, by omega, by go_num, val32 (s2 _ hz)⟩
                    case measure => simp [intOf]
                  · go_wp2
                    go_round
                    case rel => exact ⟨4, by omega, by go_num, val32 (s3 _ hz)⟩
                    case measure => simp [intOf]
            · go_wp2
              go_ret
              exact ⟨rfl, HL2.out⟩
    · go_wp2
      go_ret
      exact ⟨rfl, Below.refl _ _⟩
end Go.Proofs.Qxb6614306aDoor
