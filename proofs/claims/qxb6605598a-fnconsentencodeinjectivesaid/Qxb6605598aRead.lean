/-
  zzReadUvarint (20): at bytes that a varint was written to.
-/
import Derived.Test.Qxb6605598aEnc
import Derived.Laws.Closers25b
namespace Go.Proofs.Qxb6605598a
open Go.RowKit Go.WideShapes
open Go.Lib (byteCells)
set_option linter.unusedVariables false

theorem head_small (y : Nat) (h : y < 128) : (byteCells (uv y))[0]? = some (.int .u8 y) := by
  rw [uv_tag h]; simp [byteCells, Nat.mod_eq_of_lt (show y < 256 by omega)]
theorem head_big (y : Nat) (h : 128 ≤ y) : (byteCells (uv y))[0]? = some (.int .u8 ((y % 128 + 128 : Nat) : Int)) := by
  rw [uv, Lib.uvarint_big h]; simp [byteCells, Nat.mod_eq_of_lt (show y % 128 + 128 < 256 by omega)]

set_option maxHeartbeats 4000000 in
set_option maxRecDepth 100000 in
theorem read_uv (b o n c i q x : Nat) (hx : x < 18446744073709551616) (w : World) (hc : Hid (∀ j u, (byteCells (uv x))[j]? = some u → w.cell? ⟨b, o + (i + j), none⟩ = some u)) (hq : Hid (q = i + ulen x)) (hqn : q ≤ n) (hn : n ≤ 1000000000) :
    Calls Try.prog 20 #[.slice (some ⟨b, o, none⟩) n c, .int .i64 i] w fun e w' => e = .returned (.tuple #[.int .u64 x, .int .i64 q, .bool true]) ∧ w' = w := by
  go_enter Try.func20, Try.ntmps20
  go_wp2
  go_loop [1, 7, 8, 9] (fun vi vv vs vk => ∃ k acc y p : Nat, vi = .int .i64 p ∧ vv = .int .u64 acc ∧ vs = .int .u64 ((7 * k : Nat) : Int) ∧ vk = .int .i64 k ∧ k ≤ 9 ∧ Hid (acc < 128 ^ k) ∧ Hid (x = acc + y * 128 ^ k) ∧ Hid (p = i + k) ∧ ∃ pre, Hid (pre.length = k) ∧ Hid (Lib.uvarint x = pre ++ Lib.uvarint y))
    (fun _ _ _ vk => 10 - (intOf vk).toNat)
  case atStart => exact ⟨0, 0, x, i, rfl, rfl, rfl, rfl, by omega, by show _ < _; simp, by show _ = _; simp, rfl, [], rfl, rfl⟩
  case round =>
    obtain ⟨k, acc, y, p, rfl, rfl, rfl, rfl, hk, HA, HX, HP, pre, HPL, HSP⟩ := hrel
    have hat : ∀ u, (byteCells (uv y))[0]? = some u → w.cell? ⟨b, o + p, none⟩ = some u := fun u hu => by
      rw [HP.out]
      refine hc.out k u ?_
      rw [uv, HSP.out, Lib.byteCells_append, List.getElem?_append_right (by rw [Lib.byteCells_length, HPL.out]; exact Nat.le_refl _), Lib.byteCells_length, HPL.out, Nat.sub_self]
      exact hu
    have hul : ulen x = k + ulen y := by unfold ulen uv; rw [HSP.out, List.length_append, HPL.out]
    have hup := ulen_pos y
    have hpn : p < n := by have := HP.out; have := hq.out; omega
    have hks : k = 0 ∨ k = 1 ∨ k = 2 ∨ k = 3 ∨ k = 4 ∨ k = 5 ∨ k = 6 ∨ k = 7 ∨ k = 8 ∨ k = 9 := by omega
    by_cases hy : y < 128
    · have c1 := hat _ (head_small y hy)
      have hpq : (p : Int) + 1 = (q : Int) := by
        have := HP.out; have := hq.out; have := ulen_small hy
        omega
      clear hat hul hup
      rcases hks with rfl | rfl | rfl | rfl | rfl | rfl | rfl | rfl | rfl | rfl
      · have hacc' : acc < 1 := by simpa using HA.out
        have hxe' : x = acc + y * 1 := by simpa using HX.out
        have hv : bits .or .u64 (acc : Int) (IntKind.u64.wrap (IntKind.u64.wrap (bits .and .u8 (y : Int) 127))) = (x : Int) := by
          simp (disch := omega) only [u8_and127, u64_wrap_id, u64_orv0]
          omega
        have HXE := hide hxe'
        clear hxe'
        go_wp2
        go_ret3
        exact ⟨rfl, rfl⟩
      · have hacc' : acc < 128 := by simpa using HA.out
        have hxe' : x = acc + y * 128 := by simpa using HX.out
        have hv : bits .or .u64 (acc : Int) (IntKind.u64.wrap (IntKind.u64.wrap (bits .and .u8 (y : Int) 127) * 128)) = (x : Int) := by
          simp (disch := omega) only [u8_and127, u64_wrap_id, u64_orv7]
          omega
        have HXE := hide hxe'
        clear hxe'
        go_wp2
        go_ret3
        exact ⟨rfl, rfl⟩
      · have hacc' : acc < 16384 := by simpa using HA.out
        have hxe' : x = acc + y * 16384 := by simpa using HX.out
        have hv : bits .or .u64 (acc : Int) (IntKind.u64.wrap (IntKind.u64.wrap (bits .and .u8 (y : Int) 127) * 16384)) = (x : Int) := by
          simp (disch := omega) only [u8_and127, u64_wrap_id, u64_orv14]
          omega
        have HXE := hide hxe'
        clear hxe'
        go_wp2
        go_ret3
        exact ⟨rfl, rfl⟩
      · have hacc' : acc < 2097152 := by simpa using HA.out
        have hxe' : x = acc + y * 2097152 := by simpa using HX.out
        have hv : bits .or .u64 (acc : Int) (IntKind.u64.wrap (IntKind.u64.wrap (bits .and .u8 (y : Int) 127) * 2097152)) = (x : Int) := by
          simp (disch := omega) only [u8_and127, u64_wrap_id, u64_orv21]
          omega
        have HXE := hide hxe'
        clear hxe'
        go_wp2
        go_ret3
        exact ⟨rfl, rfl⟩
      · have hacc' : acc < 268435456 := by simpa using HA.out
        have hxe' : x = acc + y * 268435456 := by simpa using HX.out
        have hv : bits .or .u64 (acc : Int) (IntKind.u64.wrap (IntKind.u64.wrap (bits .and .u8 (y : Int) 127) * 268435456)) = (x : Int) := by
          simp (disch := omega) only [u8_and127, u64_wrap_id, u64_orv28]
          omega
        have HXE := hide hxe'
        clear hxe'
        go_wp2
        go_ret3
        exact ⟨rfl, rfl⟩
      · have hacc' : acc < 34359738368 := by simpa using HA.out
        have hxe' : x = acc + y * 34359738368 := by simpa using HX.out
        have hv : bits .or .u64 (acc : Int) (IntKind.u64.wrap (IntKind.u64.wrap (bits .and .u8 (y : Int) 127) * 34359738368)) = (x : Int) := by
          simp (disch := omega) only [u8_and127, u64_wrap_id, u64_orv35]
          omega
        have HXE := hide hxe'
        clear hxe'
        go_wp2
        go_ret3
        exact ⟨rfl, rfl⟩
      · have hacc' : acc < 4398046511104 := by simpa using HA.out
        have hxe' : x = acc + y * 4398046511104 := by simpa using HX.out
        have hv : bits .or .u64 (acc : Int) (IntKind.u64.wrap (IntKind.u64.wrap (bits .and .u8 (y : Int) 127) * 4398046511104)) = (x : Int) := by
          simp (disch := omega) only [u8_and127, u64_wrap_id, u64_orv42]
          omega
        have HXE := hide hxe'
        clear hxe'
        go_wp2
        go_ret3
        exact ⟨rfl, rfl⟩
      · have hacc' : acc < 562949953421312 := by simpa using HA.out
        have hxe' : x = acc + y * 562949953421312 := by simpa using HX.out
        have hv : bits .or .u64 (acc : Int) (IntKind.u64.wrap (IntKind.u64.wrap (bits .and .u8 (y : Int) 127) * 562949953421312)) = (x : Int) := by
          simp (disch := omega) only [u8_and127, u64_wrap_id, u64_orv49]
          omega
        have HXE := hide hxe'
        clear hxe'
        go_wp2
        go_ret3
        exact ⟨rfl, rfl⟩
      · have hacc' : acc < 72057594037927936 := by simpa using HA.out
        have hxe' : x = acc + y * 72057594037927936 := by simpa using HX.out
        have hv : bits .or .u64 (acc : Int) (IntKind.u64.wrap (IntKind.u64.wrap (bits .and .u8 (y : Int) 127) * 72057594037927936)) = (x : Int) := by
          simp (disch := omega) only [u8_and127, u64_wrap_id, u64_orv56]
          omega
        have HXE := hide hxe'
        clear hxe'
        go_wp2
        go_ret3
        exact ⟨rfl, rfl⟩
      · have hacc' : acc < 9223372036854775808 := by simpa using HA.out
        have hxe' : x = acc + y * 9223372036854775808 := by simpa using HX.out
        have hv : bits .or .u64 (acc : Int) (IntKind.u64.wrap (IntKind.u64.wrap (bits .and .u8 (y : Int) 127) * 9223372036854775808)) = (x : Int) := by
          simp (disch := omega) only [u8_and127, u64_wrap_id, u64_orv63]
          omega
        have : y ≤ 1 := by omega
        have HXE := hide hxe'
        clear hxe'
        go_wp2
        go_ret3
        exact ⟨rfl, rfl⟩
    · obtain ⟨cv, hcv⟩ : ∃ cv : Nat, Hid (cv = y % 128 + 128) := ⟨_, rfl⟩
      have c1 : w.cell? ⟨b, o + p, none⟩ = some (.int .u8 cv) := by rw [hcv.out]; exact hat _ (head_big y (by omega))
      have hcv1 : 128 ≤ cv := by have := hcv.out; omega
      have hcv2 : cv < 256 := by have := hcv.out; omega
      clear hat hul hup
      rcases hks with rfl | rfl | rfl | rfl | rfl | rfl | rfl | rfl | rfl | rfl
      · have hacc' : acc < 1 := by simpa using HA.out
        have hxe' : x = acc + y * 1 := by simpa using HX.out
        obtain ⟨ac2, ha2⟩ : ∃ ac2 : Nat, ac2 = acc + y % 128 * 1 := ⟨_, rfl⟩
        have hv : bits .or .u64 (acc : Int) (IntKind.u64.wrap (IntKind.u64.wrap (bits .and .u8 (cv : Int) 127))) = (ac2 : Int) := by
          have := hcv.out
          simp (disch := omega) only [u8_and127, u64_wrap_id, u64_orv0]
          omega
        have HXE := hide hxe'
        have HA2 := hide ha2
        clear hxe' ha2
        go_wp2
        go_round
        case rel => exact ⟨1, ac2, y / 128, p + 1, by go_num, rfl, by go_num, by go_num, by omega, by have := HA2.out; show ac2 < 128; omega, by have := HXE.out; have := HA2.out; show x = ac2 + y / 128 * 128; omega, by have := HP.out; show p + 1 = i + 1; omega, pre ++ [(y % 128 + 128).toUInt8], by show (pre ++ [(y % 128 + 128).toUInt8]).length = 1; rw [List.length_append, HPL.out]; rfl, by show Lib.uvarint x = _; rw [HSP.out, Lib.uvarint_big (x := y) (by omega), List.append_assoc]; rfl⟩
        case measure => simp [intOf]
      · have hacc' : acc < 128 := by simpa using HA.out
        have hxe' : x = acc + y * 128 := by simpa using HX.out
        obtain ⟨ac2, ha2⟩ : ∃ ac2 : Nat, ac2 = acc + y % 128 * 128 := ⟨_, rfl⟩
        have hv : bits .or .u64 (acc : Int) (IntKind.u64.wrap (IntKind.u64.wrap (bits .and .u8 (cv : Int) 127) * 128)) = (ac2 : Int) := by
          have := hcv.out
          simp (disch := omega) only [u8_and127, u64_wrap_id, u64_orv7]
          omega
        have HXE := hide hxe'
        have HA2 := hide ha2
        clear hxe' ha2
        go_wp2
        go_round
        case rel => exact ⟨2, ac2, y / 128, p + 1, by go_num, rfl, by go_num, by go_num, by omega, by have := HA2.out; show ac2 < 16384; omega, by have := HXE.out; have := HA2.out; show x = ac2 + y / 128 * 16384; omega, by have := HP.out; show p + 1 = i + 2; omega, pre ++ [(y % 128 + 128).toUInt8], by show (pre ++ [(y % 128 + 128).toUInt8]).length = 2; rw [List.length_append, HPL.out]; rfl, by show Lib.uvarint x = _; rw [HSP.out, Lib.uvarint_big (x := y) (by omega), List.append_assoc]; rfl⟩
        case measure => simp [intOf]
      · have hacc' : acc < 16384 := by simpa using HA.out
        have hxe' : x = acc + y * 16384 := by simpa using HX.out
        obtain ⟨ac2, ha2⟩ : ∃ ac2 : Nat, ac2 = acc + y % 128 * 16384 := ⟨_, rfl⟩
        have hv : bits .or .u64 (acc : Int) (IntKind.u64.wrap (IntKind.u64.wrap (bits .and .u8 (cv : Int) 127) * 16384)) = (ac2 : Int) := by
          have := hcv.out
          simp (disch := omega) only [u8_and127, u64_wrap_id, u64_orv14]
          omega
        have HXE := hide hxe'
        have HA2 := hide ha2
        clear hxe' ha2
        go_wp2
        go_round
        case rel => exact ⟨3, ac2, y / 128, p + 1, by go_num, rfl, by go_num, by go_num, by omega, by have := HA2.out; show ac2 < 2097152; omega, by have := HXE.out; have := HA2.out; show x = ac2 + y / 128 * 2097152; omega, by have := HP.out; show p + 1 = i + 3; omega, pre ++ [(y % 128 + 128).toUInt8], by show (pre ++ [(y % 128 + 128).toUInt8]).length = 3; rw [List.length_append, HPL.out]; rfl, by show Lib.uvarint x = _; rw [HSP.out, Lib.uvarint_big (x := y) (by omega), List.append_assoc]; rfl⟩
        case measure => simp [intOf]
      · have hacc' : acc < 2097152 := by simpa using HA.out
        have hxe' : x = acc + y * 2097152 := by simpa using HX.out
        obtain ⟨ac2, ha2⟩ : ∃ ac2 : Nat, ac2 = acc + y % 128 * 2097152 := ⟨_, rfl⟩
        have hv : bits .or .u64 (acc : Int) (IntKind.u64.wrap (IntKind.u64.wrap (bits .and .u8 (cv : Int) 127) * 2097152)) = (ac2 : Int) := by
          have := hcv.out
          simp (disch := omega) only [u8_and127, u64_wrap_id, u64_orv21]
          omega
        have HXE := hide hxe'
        have HA2 := hide ha2
        clear hxe' ha2
        go_wp2
        go_round
        case rel => exact ⟨4, ac2, y / 128, p + 1, by go_num, rfl, by go_num, by go_num, by omega, by have := HA2.out; show ac2 < 268435456; omega, by have := HXE.out; have := HA2.out; show x = ac2 + y / 128 * 268435456; omega, by have := HP.out; show p + 1 = i + 4; omega, pre ++ [(y % 128 + 128).toUInt8], by show (pre ++ [(y % 128 + 128).toUInt8]).length = 4; rw [List.length_append, HPL.out]; rfl, by show Lib.uvarint x = _; rw [HSP.out, Lib.uvarint_big (x := y) (by omega), List.append_assoc]; rfl⟩
        case measure => simp [intOf]
      · have hacc' : acc < 268435456 := by simpa using HA.out
        have hxe' : x = acc + y * 268435456 := by simpa using HX.out
        obtain ⟨ac2, ha2⟩ : ∃ ac2 : Nat, ac2 = acc + y % 128 * 268435456 := ⟨_, rfl⟩
        have hv : bits .or .u64 (acc : Int) (IntKind.u64.wrap (IntKind.u64.wrap (bits .and .u8 (cv : Int) 127) * 268435456)) = (ac2 : Int) := by
          have := hcv.out
          simp (disch := omega) only [u8_and127, u64_wrap_id, u64_orv28]
          omega
        have HXE := hide hxe'
        have HA2 := hide ha2
        clear hxe' ha2
        go_wp2
        go_round
        case rel => exact ⟨5, ac2, y / 128, p + 1, by go_num, rfl, by go_num, by go_num, by omega, by have := HA2.out; show ac2 < 34359738368; omega, by have := HXE.out; have := HA2.out; show x = ac2 + y / 128 * 34359738368; omega, by have := HP.out; show p + 1 = i + 5; omega, pre ++ [(y % 128 + 128).toUInt8], by show (pre ++ [(y % 128 + 128).toUInt8]).length = 5; rw [List.length_append, HPL.out]; rfl, by show Lib.uvarint x = _; rw [HSP.out, Lib.uvarint_big (x := y) (by omega), List.append_assoc]; rfl⟩
        case measure => simp [intOf]
      · have hacc' : acc < 34359738368 := by simpa using HA.out
        have hxe' : x = acc + y * 34359738368 := by simpa using HX.out
        obtain ⟨ac2, ha2⟩ : ∃ ac2 : Nat, ac2 = acc + y % 128 * 34359738368 := ⟨_, rfl⟩
        have hv : bits .or .u64 (acc : Int) (IntKind.u64.wrap (IntKind.u64.wrap (bits .and .u8 (cv : Int) 127) * 34359738368)) = (ac2 : Int) := by
          have := hcv.out
          simp (disch := omega) only [u8_and127, u64_wrap_id, u64_orv35]
          omega
        have HXE := hide hxe'
        have HA2 := hide ha2
        clear hxe' ha2
        go_wp2
        go_round
        case rel => exact ⟨6, ac2, y / 128, p + 1, by go_num, rfl, by go_num, by go_num, by omega, by have := HA2.out; show ac2 < 4398046511104; omega, by have := HXE.out; have := HA2.out; show x = ac2 + y / 128 * 4398046511104; omega, by have := HP.out; show p + 1 = i + 6; omega, pre ++ [(y % 128 + 128).toUInt8], by show (pre ++ [(y % 128 + 128).toUInt8]).length = 6; rw [List.length_append, HPL.out]; rfl, by show Lib.uvarint x = _; rw [HSP.out, Lib.uvarint_big (x := y) (by omega), List.append_assoc]; rfl⟩
        case measure => simp [intOf]
      · have hacc' : acc < 4398046511104 := by simpa using HA.out
        have hxe' : x = acc + y * 4398046511104 := by simpa using HX.out
        obtain ⟨ac2, ha2⟩ : ∃ ac2 : Nat, ac2 = acc + y % 128 * 4398046511104 := ⟨_, rfl⟩
        have hv : bits .or .u64 (acc : Int) (IntKind.u64.wrap (IntKind.u64.wrap (bits .and .u8 (cv : Int) 127) * 4398046511104)) = (ac2 : Int) := by
          have := hcv.out
          simp (disch := omega) only [u8_and127, u64_wrap_id, u64_orv42]
          omega
        have HXE := hide hxe'
        have HA2 := hide ha2
        clear hxe' ha2
        go_wp2
        go_round
        case rel => exact ⟨7, ac2, y / 128, p + 1, by go_num, rfl, by go_num, by go_num, by omega, by have := HA2.out; show ac2 < 562949953421312; omega, by have := HXE.out; have := HA2.out; show x = ac2 + y / 128 * 562949953421312; omega, by have := HP.out; show p + 1 = i + 7; omega, pre ++ [(y % 128 + 128).toUInt8], by show (pre ++ [(y % 128 + 128).toUInt8]).length = 7; rw [List.length_append, HPL.out]; rfl, by show Lib.uvarint x = _; rw [HSP.out, Lib.uvarint_big (x := y) (by omega), List.append_assoc]; rfl⟩
        case measure => simp [intOf]
      · have hacc' : acc < 562949953421312 := by simpa using HA.out
        have hxe' : x = acc + y * 562949953421312 := by simpa using HX.out
        obtain ⟨ac2, ha2⟩ : ∃ ac2 : Nat, ac2 = acc + y % 128 * 562949953421312 := ⟨_, rfl⟩
        have hv : bits .or .u64 (acc : Int) (IntKind.u64.wrap (IntKind.u64.wrap (bits .and .u8 (cv : Int) 127) * 562949953421312)) = (ac2 : Int) := by
          have := hcv.out
          simp (disch := omega) only [u8_and127, u64_wrap_id, u64_orv49]
          omega
        have HXE := hide hxe'
        have HA2 := hide ha2
        clear hxe' ha2
        go_wp2
        go_round
        case rel => exact ⟨8, ac2, y / 128, p + 1, by go_num, rfl, by go_num, by go_num, by omega, by have := HA2.out; show ac2 < 72057594037927936; omega, by have := HXE.out; have := HA2.out; show x = ac2 + y / 128 * 72057594037927936; omega, by have := HP.out; show p + 1 = i + 8; omega, pre ++ [(y % 128 + 128).toUInt8], by show (pre ++ [(y % 128 + 128).toUInt8]).length = 8; rw [List.length_append, HPL.out]; rfl, by show Lib.uvarint x = _; rw [HSP.out, Lib.uvarint_big (x := y) (by omega), List.append_assoc]; rfl⟩
        case measure => simp [intOf]
      · have hacc' : acc < 72057594037927936 := by simpa using HA.out
        have hxe' : x = acc + y * 72057594037927936 := by simpa using HX.out
        obtain ⟨ac2, ha2⟩ : ∃ ac2 : Nat, ac2 = acc + y % 128 * 72057594037927936 := ⟨_, rfl⟩
        have hv : bits .or .u64 (acc : Int) (IntKind.u64.wrap (IntKind.u64.wrap (bits .and .u8 (cv : Int) 127) * 72057594037927936)) = (ac2 : Int) := by
          have := hcv.out
          simp (disch := omega) only [u8_and127, u64_wrap_id, u64_orv56]
          omega
        have HXE := hide hxe'
        have HA2 := hide ha2
        clear hxe' ha2
        go_wp2
        go_round
        case rel => exact ⟨9, ac2, y / 128, p + 1, by go_num, rfl, by go_num, by go_num, by omega, by have := HA2.out; show ac2 < 9223372036854775808; omega, by have := HXE.out; have := HA2.out; show x = ac2 + y / 128 * 9223372036854775808; omega, by have := HP.out; show p + 1 = i + 9; omega, pre ++ [(y % 128 + 128).toUInt8], by show (pre ++ [(y % 128 + 128).toUInt8]).length = 9; rw [List.length_append, HPL.out]; rfl, by show Lib.uvarint x = _; rw [HSP.out, Lib.uvarint_big (x := y) (by omega), List.append_assoc]; rfl⟩
        case measure => simp [intOf]
      · exfalso
        have hxe' : x = acc + y * 9223372036854775808 := by simpa using HX.out
        omega
end Go.Proofs.Qxb6605598a
