/-
  zzEqStr (16), zzUvarintLen (21), zzFieldLen (13), zzConsentLen (18), the two bounds (14, 17).
-/
import Derived.Test.Qxb6605598aSmall
namespace Go.Proofs.Qxb6605598a
open Go.RowKit Go.WideShapes
open Go.Lib (byteCells)
set_option linter.unusedVariables false

theorem eqStr_none (ao : Option Addr) (c : Nat) (s : ByteArray) (hs : s.size = 0) (w : World) :
    Calls Try.prog 16 #[.slice ao 0 c, .string s] w fun e w' => e = .returned (.bool true) ∧ w' = w := by
  go_enter Try.func16, Try.ntmps16
  go_wp2
  go_loop [5] (fun i => i = .int .i64 0) (fun _ => 0)
  case atStart => rfl
  case round =>
    subst hrel
    go_wp2
    go_ret
    exact ⟨rfl, rfl⟩

set_option maxHeartbeats 400000 in
theorem eqStr_raw (b o n c : Nat) (s : ByteArray) (hs : s.size = n) (hn : n ≤ 1000000000) (w : World) (ca : ∀ i, (h : i < s.size) → w.cell? ⟨b, o + i, none⟩ = some (.int .u8 (s[i]).toNat)) :
    Calls Try.prog 16 #[.slice (some ⟨b, o, none⟩) n c, .string s] w fun e w' => e = .returned (.bool true) ∧ ∃ m, w' = w.drewN m := by
  go_enter Try.func16, Try.ntmps16
  go_wp2
  go_loopw [5] (fun i wr => ∃ k m : Nat, k ≤ n ∧ i = .int .i64 k ∧ wr = w.drewN m) (fun i _ => n - (intOf i).toNat)
  case atStart => exact ⟨0, 0, Nat.zero_le _, rfl, rfl⟩
  case round =>
    obtain ⟨k, m, hk, rfl, rfl⟩ := hrel
    by_cases hlt : k < n
    · have hks : k < s.size := by omega
      have c1 := ca k hks
      have hix : ∀ W : World, (Instr.index 9 (.string s) (.int .i64 (k : Int))).run Try.prog W = .ok (.int .u8 (s[k]).toNat) W := fun W => by
        rw [run_index_string W 9 s .i64 k Try.underlying9, dif_pos (by omega)]
        rfl
      clear ca
      generalize s[k].toNat = x at c1 hix
      go_wp2
      go_quiet (fail)
      go_wp2
      go_roundw
      case rel => exact ⟨k + 1, _, by omega, by go_num, rfl⟩
      case measure => simp [intOf]; omega
    · go_wp2
      go_ret
      exact ⟨rfl, m, rfl⟩

/-- zzEqStr, at the string's own bytes -/
theorem eqStr (v : Value) (s : ByteArray) (w : World) (h : At w v s.data.toList) (hs : s.size ≤ 1000000000) :
    Calls Try.prog 16 #[v, .string s] w fun e w' => e = .returned (.bool true) ∧ ∃ m, w' = w.drewN m := by
  have hl : s.data.toList.length = s.size := by simp
  rcases h with ⟨rfl, e⟩ | ⟨b, o, c, rfl, hc⟩
  · refine (eqStr_none none 0 s (by rw [← hl, e]; rfl) w).mono ?_
    rintro e w' ⟨rfl, rfl⟩
    exact ⟨rfl, 0, rfl⟩
  · refine eqStr_raw b o _ c s hl.symm (by omega) w fun i hi => ?_
    rw [hc i (by omega)]
    rfl

set_option maxHeartbeats 400000 in
set_option maxRecDepth 100000 in
theorem uvLen (x q : Nat) (hx : x < 18446744073709551616) (hq : Hid (q = ulen x)) (w : World) : Calls Try.prog 21 #[.int .u64 x] w fun e w' => e = .returned (.int .i64 q) ∧ w' = w := by
  have hq10 : q ≤ 10 := by rw [hq.out]; exact ulen_le hx
  go_enter Try.func21, Try.ntmps21
  go_wp2
  go_loop [0, 3] (fun vy vn => ∃ y n : Nat, vy = .int .u64 y ∧ vn = .int .i64 n ∧ y ≤ x ∧ Hid (n + ulen y = q + 1)) (fun vy _ => (intOf vy).toNat)
  case atStart => exact ⟨x, 1, rfl, rfl, Nat.le_refl _, by have := hq.out; show _ = _; omega⟩
  case round =>
    obtain ⟨y, n, rfl, rfl, hy, hn⟩ := hrel
    have hn10 : n ≤ 10 := by have := hn.out; have := ulen_pos y; omega
    by_cases h : y < 128
    · have hnq : n = q := by have := hn.out; have := ulen_small h; omega
      subst hnq
      go_wp2
      go_ret
      exact ⟨rfl, rfl⟩
    · have hb := hide (ulen_big (x := y) (by omega))
      go_wp2
      go_round
      case rel => exact ⟨y / 128, n + 1, by go_num, by go_num, by omega, by have := hn.out; have := hb.out; show _ = _; omega⟩
      case measure => simp [intOf]; omega

set_option maxHeartbeats 400000 in
theorem fieldLen (n q : Nat) (hn : n ≤ 1000000000) (hq : Hid (q = flen n)) (w : World) : Calls Try.prog 13 #[.int .i64 n] w fun e w' => e = .returned (.int .i64 q) ∧ w' = w := by
  obtain ⟨u, hu⟩ : ∃ u, Hid (u = ulen n) := ⟨_, rfl⟩
  have hu10 : u ≤ 10 := by rw [hu.out]; exact ulen_le (by omega)
  have hqe : (1 : Int) + u + n = q := by have h1 := hq.out; unfold flen at h1; rw [← hu.out] at h1; omega
  go_enter Try.func13, Try.ntmps13
  go_wp2_with fail
  refine (uvLen n u (by omega) hu w).mono ?_
  rintro e w1 ⟨rfl, rfl⟩
  go_wp2
  go_ret
  exact ⟨rfl, rfl⟩

set_option maxHeartbeats 1000000 in
theorem consentLen (v k a r s q : Nat) (hv : v < 18446744073709551616) (hr : r < 18446744073709551616) (hk : k ≤ 1048576) (ha : a ≤ 1048576) (hs : s ≤ 1048576) (hq : Hid (q = flen 32 + (1 + ulen v) + flen (flen k + flen a) + (1 + ulen r) + flen s)) (w : World) :
    Calls Try.prog 18 #[.int .u64 v, .int .i64 k, .int .i64 a, .int .u64 r, .int .i64 s] w fun e w' => e = .returned (.int .i64 q) ∧ w' = w := by
  obtain ⟨fk, hfk⟩ : ∃ u, Hid (u = flen k) := ⟨_, rfl⟩
  obtain ⟨fa, hfa⟩ : ∃ u, Hid (u = flen a) := ⟨_, rfl⟩
  obtain ⟨fi, hfi⟩ : ∃ u, Hid (u = flen (flen k + flen a)) := ⟨_, rfl⟩
  obtain ⟨f32, h32⟩ : ∃ u, Hid (u = flen 32) := ⟨_, rfl⟩
  obtain ⟨uv', huv⟩ : ∃ u, Hid (u = ulen v) := ⟨_, rfl⟩
  obtain ⟨ur, hur⟩ : ∃ u, Hid (u = ulen r) := ⟨_, rfl⟩
  obtain ⟨fs, hfs⟩ : ∃ u, Hid (u = flen s) := ⟨_, rfl⟩
  have b1 : fk ≤ 1048600 := by have := ulen_le (x := k) (by omega); rw [hfk.out]; unfold flen; omega
  have b2 : fa ≤ 1048600 := by have := ulen_le (x := a) (by omega); rw [hfa.out]; unfold flen; omega
  obtain ⟨ka, hka⟩ : ∃ u : Nat, Hid (u = fk + fa) := ⟨_, rfl⟩
  have b3 : fi ≤ 2097300 := by have := ulen_le (x := flen k + flen a) (by have := hfk.out; have := hfa.out; omega); have := hfk.out; have := hfa.out; rw [hfi.out]; unfold flen at *; omega
  have b4 : f32 ≤ 100 := by rw [h32.out]; have := ulen_le (x := 32) (by omega); unfold flen; omega
  have b5 : uv' ≤ 10 := by rw [huv.out]; exact ulen_le hv
  have b6 : ur ≤ 10 := by rw [hur.out]; exact ulen_le hr
  have b7 : fs ≤ 1048600 := by have := ulen_le (x := s) (by omega); rw [hfs.out]; unfold flen; omega
  have e1 : (fk : Int) + fa = ka := by have := hka.out; omega
  have bka : ka ≤ 2097200 := by have := hka.out; omega
  have HKA : Hid (fi = flen ka) := by show _ = _; rw [hfi.out, hka.out, hfk.out, hfa.out]
  have e2 : (f32 : Int) + 1 + uv' + fi + 1 + ur + fs = q := by
    have := hq.out
    rw [← h32.out, ← huv.out, ← hfi.out, ← hur.out, ← hfs.out] at this
    omega
  go_enter Try.func18, Try.ntmps18
  go_wp2_with fail
  refine (fieldLen k fk (by omega) hfk w).mono ?_
  rintro e w1 ⟨rfl, rfl⟩
  go_wp2_with fail
  refine (fieldLen a fa (by omega) hfa w1).mono ?_
  rintro e w2 ⟨rfl, rfl⟩
  go_wp2_with fail
  refine (fieldLen 32 f32 (by omega) h32 w2).mono ?_
  rintro e w3 ⟨rfl, rfl⟩
  go_wp2_with fail
  refine (uvLen v uv' hv huv w3).mono ?_
  rintro e w4 ⟨rfl, rfl⟩
  go_wp2_with fail
  refine (fieldLen ka fi (by omega) HKA w4).mono ?_
  rintro e w5 ⟨rfl, rfl⟩
  go_wp2_with fail
  refine (uvLen r ur hr hur w5).mono ?_
  rintro e w6 ⟨rfl, rfl⟩
  go_wp2_with fail
  refine (fieldLen s fs (by omega) hfs w6).mono ?_
  rintro e w7 ⟨rfl, rfl⟩
  go_wp2
  go_ret
  exact ⟨rfl, rfl⟩
end Go.Proofs.Qxb6605598a
