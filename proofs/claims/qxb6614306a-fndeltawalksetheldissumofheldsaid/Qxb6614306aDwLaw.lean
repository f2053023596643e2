/-
  THE WALK OF THE LAW ON deltaWalk.set (function 3): it returns true; nothing that was there has turned.
-/
import Derived.Test.Qxb6614306aDwInv
import Derived.Deep.RegionHeld3
namespace Go.Proofs.Qxb6614306a
open Go.RowKit Go.WideShapes
set_option linter.unusedVariables false

theorem Try.info24 : (Try.prog.info? 24).map (fun i => (i.zero, i.size, i.bytes)) = some (some (.slice none 0 0), 1, 24) := by kernel_rfl

/-- the world has grown; true -/
def SaysYes (w : World) (e : Ending) (w' : World) : Prop := e = .returned (.bool true) ∧ Below w.heap.size w w'

theorem cell_far {w : World} {b o b' o' : Nat} {v : Value} (h : b' ≠ b) : (w.setCell ⟨b, o, none⟩ v).cell? ⟨b', o', none⟩ = w.cell? ⟨b', o', none⟩ := World.cell?_of_block (w := w) (Below.heap_setCell _ _ _ _ h)

set_option maxHeartbeats 1000000 in
theorem law_walk {S : Nat → Prop} (n : Int) (ao : Option Addr) (m c : Nat) (I : Nat → Int) (A : Nat → Option Addr) (L C : Nat → Nat) (z : Nat → Option (List Int)) (w : World) (h : OpsAt S w ao m I A L C) (hao : ao = none → m = 0 ∧ c = 0)
    (hm : m ≤ maxLen) (hL : ∀ k, k < m → L k ≤ maxLen) (hS : ∀ b, S b → b < w.heap.size) (hz : ∀ k, k < m → BytesAt S w (A k) (L k) (C k) (z k)) :
    Calls Try.prog 3 #[.int .i64 n, .slice ao m c] w (SaysYes w) := by
  have hq := fun w a l c => Lib.run_eql_slice_nil (P := Try.prog) w 24 5 a l c 0 0 Try.underlying24
  have HB := hide (bound_any n ao m c I A L C w h hm hL)
  have HH := hide h
  have HZ := hide hz
  clear h hz
  go_enter Try.func3, Try.ntmps3
  go_wp2_with fail
  refine HB.out.mono ?_
  rintro e w' ⟨b, rfl, hb, rfl⟩
  cases b with
  | false =>
    go_wp2
    go_ret
    exact ⟨rfl, Below.refl _ _⟩
  | true =>
    obtain ⟨hm1, hs1⟩ := hb rfl
    clear hb HB
    by_cases hn : 0 ≤ n ∧ n ≤ 4096
    · obtain ⟨hn1, hn2⟩ := hn
      obtain ⟨q, rfl⟩ := Int.eq_ofNat_of_zero_le hn1
      by_cases hm2 : m ≤ 32768
      · go_wp2_with fail
        go_loop [5, 6] (fun t i => ∃ k s : Nat, k ≤ m ∧ s ≤ 1048576 ∧ i = .int .i64 k ∧ t = .int .i64 s) (fun _ i => m - (intOf i).toNat)
        case atStart => exact ⟨0, m * 32, Nat.zero_le _, by omega, rfl, by go_num⟩
        case round =>
          obtain ⟨k, s, hk, hs, rfl, rfl⟩ := hrel
          by_cases hlt : k < m
          · obtain ⟨b, off, rfl, hSb, hc⟩ := HH.out.plain (by omega)
            obtain ⟨c1, c2⟩ := hc k hlt
            have hLk : L k ≤ 1048576 := by have := sumTo_ge (L := L) hlt; omega
            clear hc
            by_cases h2 : s + L k ≤ 1048576
            · go_wp2
              go_round
              case rel => exact ⟨k + 1, s + L k, by omega, h2, by go_num, by go_num⟩
              case measure => simp [intOf]; omega
            · go_wp2
              go_ret
              exact ⟨rfl, Below.refl _ _⟩
          · go_wp2_with fail
            go_loop [7] (fun i => ∃ k : Nat, k ≤ m ∧ i = .int .i64 k ∧ Hid (∀ j, j < k → 0 ≤ I j ∧ I j < q)) (fun i => m - (intOf i).toNat)
            case atStart => exact ⟨0, Nat.zero_le _, rfl, hide fun j hj => absurd hj (Nat.not_lt_zero _)⟩
            case round =>
              obtain ⟨k2, hk2, rfl, HX⟩ := hrel
              by_cases hlt2 : k2 < m
              · obtain ⟨b, off, rfl, hSb, hc⟩ := HH.out.plain (by omega)
                obtain ⟨c1, c2⟩ := hc k2 hlt2
                clear hc
                by_cases h2 : 0 ≤ I k2 ∧ I k2 < q
                · have HI2 : Hid (∀ j, j < k2 + 1 → 0 ≤ I j ∧ I j < q) := fun j hj => by
                    by_cases e : j = k2
                    · subst e; exact h2
                    · exact HX.out j (by omega)
                  obtain ⟨h2a, h2b⟩ := h2
                  go_wp2
                  go_round
                  case rel => exact ⟨k2 + 1, by omega, by go_num, HI2⟩
                  case measure => simp [intOf]; omega
                · by_cases h3 : I k2 < 0
                  · go_wp2
                    go_ret
                    exact ⟨rfl, Below.refl _ _⟩
                  · have h4 : (q : Int) ≤ I k2 := by omega
                    go_wp2
                    go_ret
                    exact ⟨rfl, Below.refl _ _⟩
              · have e2 : k2 = m := by omega
                subst e2
                have hmk := run_make_row' (P := Try.prog) 28 24 (.slice none 0 0) 24 Try.underlying28 Try.info24 rfl .i64 .i64 q (by omega) (by omega)
                go_wp2_with fail
                refine (cloneOps_all ao k2 c I A L C z w HH.out hao hm1 hS (fun k hk => ⟨by have := sumTo_ge (L := L) hk; omega, HZ.out k hk⟩)).mono ?_
                rintro e W2 ⟨ao2, c2, A2, C2, rfl, hops2, hby2, hb2⟩
                have HO := hide hops2
                have HY := hide hby2
                have HB2 := hide hb2
                clear hops2 hby2 hb2
                go_wp2_with fail
                refine (newWalk q _ (by omega)).mono ?_
                rintro e w3 ⟨rfl, rfl⟩
                go_wp2_with fail
                go_loopw [10] (fun i wr => ∃ (k : Nat) (zz : Nat → Option (List Int)) (Aw : Nat → Option Addr) (Cw : Nat → Nat) (As : Nat → Option Addr) (Cs : Nat → Nat), k ≤ k2 ∧ i = .int .i64 k ∧ Hid (Inv W2.heap.size q zz Aw Cw As Cs wr) ∧ Hid (Below W2.heap.size W2 wr)) (fun i _ => k2 - (intOf i).toNat)
                case atStart => exact ⟨0, _, _, _, _, _, Nat.zero_le _, rfl, hide (Inv.start q W2), hide ((((Below.refl _ _).alloc (Nat.le_refl _) _).alloc (by simp) _).alloc (by simp; omega) _)⟩
                case round =>
                  obtain ⟨k, zz, Aw, Cw, As, Cs, hk3, rfl, HI, HW⟩ := hrel
                  by_cases hlt3 : k < k2
                  · obtain ⟨b, off, rfl, hSb, hc⟩ := HO.out.plain (by omega)
                    obtain ⟨c1, c2'⟩ := hc k hlt3
                    obtain ⟨h5, h6⟩ := HX.out k hlt3
                    obtain ⟨ik, hik⟩ := Int.eq_ofNat_of_zero_le h5
                    rw [hik] at c1 h6
                    have hiq : ik < q := by omega
                    have hLk : L k ≤ 1048576 := by have := sumTo_ge (L := L) hlt3; omega
                    have g1 : wr.cell? ⟨b, off + k * 2, none⟩ = some (.int .i64 (ik : Int)) := (HW.out.cell (p := ⟨b, off + k * 2, none⟩) hSb).trans c1
                    have g2 : wr.cell? ⟨b, off + k * 2 + 1, none⟩ = some (.slice (A2 k) (L k) (C2 k)) := (HW.out.cell (p := ⟨b, off + k * 2 + 1, none⟩) hSb).trans c2'
                    obtain ⟨gw, fw⟩ := HI.out.cw hiq
                    have HBk : Hid (BytesAt (fun b => b < W2.heap.size) wr (A2 k) (L k) (C2 k) (z k)) := (HY.out k hlt3).keep (fun _ h => h) (fun b hb => HW.out.block b hb)
                    have hsz := HW.out.size
                    have hwlt : W2.heap.size < wr.heap.size := by obtain ⟨f, hf, _⟩ := HI.out.want; exact hf.lt
                    clear c1 c2' hc h5 hik
                    go_wp2_with fail
                    go_region_held3 (fun w' => w'.cell? ⟨b, off + k * 2, none⟩ = some (.int .i64 (ik : Int)) ∧ w'.cell? ⟨b, off + k * 2 + 1, none⟩ = some (.slice (A2 k) (L k) (C2 k))) (first | go_keep | (refine ⟨?_, ?_⟩ <;> (rw [cell_far (by omega)]; assumption)))
                      ((go_at_call 9; refine (clone_any (S := fun b => b < W2.heap.size) (A2 k) (L k) (C2 k) (z k) wr.drew HBk.out hLk (fun b hb => Nat.lt_of_lt_of_le hb hsz)).mono ?_; rintro e w1 ⟨ao', c', rfl, hby1, hbel1⟩; have g1' := (hbel1.cell (p := ⟨b, off + k * 2, none⟩) (Nat.lt_of_lt_of_le hSb hsz)).trans g1; have g2' := (hbel1.cell (p := ⟨b, off + k * 2 + 1, none⟩) (Nat.lt_of_lt_of_le hSb hsz)).trans g2; have gw' := (hbel1.cell (p := ⟨W2.heap.size, ik, none⟩) hwlt).trans gw; have fw' := (hbel1.frozen (p := ⟨W2.heap.size, ik, none⟩) hwlt).trans fw))
                    have hsm := HI.out.small ik hiq
                    obtain ⟨x6, x8, y8⟩ := HI.out.cb
                    obtain ⟨xs, ys⟩ := HI.out.cs hiq
                    have hblt : W2.heap.size + 2 < wr.heap.size := by obtain ⟨f, hf, _⟩ := HI.out.box; exact hf.lt
                    have hsum := sumTo_ge (L := zl zz) hiq
                    have hsumle := sumTo_le (L := zl zz) HI.out.small
                    have hsumle' : sumTo (zl zz) q ≤ 4398046511104 := Nat.le_trans hsumle (by have : q * 1048576 ≤ 4096 * 1048576 := Nat.mul_le_mul_right _ (by omega); omega)
                    have HF : Hid (∀ o, o ≠ W2.heap.size → o < wr.heap.size → (w1.setCell ⟨W2.heap.size, ik, none⟩ (.slice ao' (L k) c')).heap[o]? = wr.heap[o]?) := fun o h1 h2 => by
                      rw [Below.heap_setCell _ _ _ _ h1]; exact hbel1.block o h2
                    have HZ3 := hide (zzset_walk (W2.heap.size + 1) (W2.heap.size + 1 + 1) q ik (sumTo (zl zz) q) (A2 k) (As ik) (L k) (C2 k) (zl zz ik) (Cs ik) (w1.setCell ⟨W2.heap.size, ik, none⟩ (.slice ao' (L k) c')).drew hiq (by omega) (by omega) hLk hsm hsum hsumle'
                      ((World.cell?_of_block (w := wr) (HF.out _ (by simp; omega) (by simp; omega))).trans x6) ((World.cell?_of_block (w := wr) (HF.out _ (by simp; omega) (by simp; omega))).trans x8)
                      ((World.frozen?_of_block (w := wr) (HF.out _ (by simp; omega) (by simp; omega))).trans y8)
                      ((World.cell?_of_block (w := wr) (HF.out _ (by simp) (by simp; omega))).trans xs) ((World.frozen?_of_block (w := wr) (HF.out _ (by simp) (by simp; omega))).trans ys))
                    have HST := hide (HI.out.step hiq hLk (bo := A2 k) (d := C2 k) (w1 := w1) (show Below wr.heap.size wr w1 from ⟨hbel1.os, hbel1.tape, hbel1.output, hbel1.size, hbel1.block⟩) hby1 HBk.out (.int .u64 ((sumTo (zl zz) q : Nat) - (zl zz ik : Nat))))
                    have k1 : (w1.setCell ⟨W2.heap.size, ik, none⟩ (.slice ao' (L k) c')).cell? ⟨b, off + k * 2, none⟩ = some (.int .i64 (ik : Int)) := by rw [cell_far (by omega)]; exact g1'
                    have k2' : (w1.setCell ⟨W2.heap.size, ik, none⟩ (.slice ao' (L k) c')).cell? ⟨b, off + k * 2 + 1, none⟩ = some (.slice (A2 k) (L k) (C2 k)) := by rw [cell_far (by omega)]; exact g2'
                    have HBW : Hid (Below W2.heap.size W2 w1) := HW.out.trans (show Below W2.heap.size wr w1 from ⟨hbel1.os, hbel1.tape, hbel1.output, hbel1.size, fun o ho => hbel1.block o (Nat.lt_of_lt_of_le ho hsz)⟩)
                    clear hby1 hbel1 g1 g2 gw fw g1' g2' gw' fw' hsm x6 x8 y8 xs ys hsum hsumle hsumle' HF HI HW HBk
                    go_wp2_with fail
                    go_region_held3 (fun w' => w'.cell? ⟨b, off + k * 2, none⟩ = some (.int .i64 (ik : Int)) ∧ w'.cell? ⟨b, off + k * 2 + 1, none⟩ = some (.slice (A2 k) (L k) (C2 k))) (go_keep)
                      ((go_at_call 10; refine HZ3.out.mono ?_; rintro e w4 ⟨rfl, h4⟩; have H4 := hide h4; have r1 : w4.cell? ⟨b, off + k * 2, none⟩ = some (.int .i64 (ik : Int)) := (show w4.cell? _ = _ by rw [h4]; simp only [World.cell?_drew]; rw [cell_far (by omega), cell_far (by omega), cell_far (by omega)]; exact k1); have r2 : w4.cell? ⟨b, off + k * 2 + 1, none⟩ = some (.slice (A2 k) (L k) (C2 k)) := (show w4.cell? _ = _ by rw [h4]; simp only [World.cell?_drew]; rw [cell_far (by omega), cell_far (by omega), cell_far (by omega)]; exact k2'); clear h4))
                    have HBW4 : Hid (Below W2.heap.size W2 w4) := by
                      show Below _ _ _
                      rw [H4.out]
                      exact ((((HBW.out.setCell (p := ⟨W2.heap.size, ik, none⟩) (Nat.le_refl _) _).drew.setCell (p := ⟨W2.heap.size + 1 + 1, 8, none⟩) (by simp; omega) _).setCell (p := ⟨W2.heap.size + 1 + 1, 8, none⟩) (by simp; omega) _).setCell (p := ⟨W2.heap.size + 1, ik * 7 + 1, none⟩) (by simp) _).drew
                    have HI4 : Hid (Inv W2.heap.size q (setFn zz ik (z k)) (setFn Aw ik ao') (setFn Cw ik c') (setFn As ik (A2 k)) (setFn Cs ik (C2 k)) w4) := by
                      show Inv _ _ _ _ _ _ _ _
                      rw [H4.out]
                      exact HST.out.drew.drew
                    clear r1 r2 k1 k2' H4 HST HBW
                    go_wp2
                    go_roundw
                    case rel => exact ⟨k + 1, _, _, _, _, _, by omega, by go_num, HI4, HBW4⟩
                    case measure => simp [intOf]; omega
                  · go_wp2_with fail
                    go_loopw [11, 12, 13] (fun su jv _ w5 => ∃ j d : Nat, j ≤ q ∧ jv = .int .i64 j ∧ su = .int .u64 (sumTo (zl zz) j : Nat) ∧ w5 = wr.drewN d) (fun _ jv _ _ => q - (intOf jv).toNat)
                    case atStart => exact ⟨0, 0, Nat.zero_le _, rfl, rfl, rfl⟩
                    case round =>
                      obtain ⟨j, d, hj, rfl, rfl, rfl⟩ := hrel
                      have hsumle := sumTo_le (L := zl zz) HI.out.small
                      obtain ⟨x6, x8, y8⟩ := HI.out.cb
                      by_cases hjlt : j < q
                      · obtain ⟨gw, fw⟩ := HI.out.cw hjlt
                        obtain ⟨xs, ys⟩ := HI.out.cs hjlt
                        have hsm := HI.out.small j hjlt
                        have hsj : sumTo (zl zz) j ≤ 4294967296 := Nat.le_trans (sumTo_le (L := zl zz) (n := j) (fun i hi => HI.out.small i (by omega))) (by have : j * 1048576 ≤ 4096 * 1048576 := Nat.mul_le_mul_right _ (by omega); omega)
                        have HE := hide ((HI.out.bs j hjlt).isNone.trans (HI.out.bw j hjlt).isNone.symm)
                        have HA : ∀ d, Hid (Calls Try.prog 12 #[.slice (As j) (zl zz j) (Cs j), .slice (Aw j) (zl zz j) (Cw j)] (wr.drewN d) fun e w' => e = .returned (.bool true) ∧ ∃ q, w' = (wr.drewN d).drewN q) := fun d => equal_any (S := Free W2.heap.size wr) (T := Free W2.heap.size wr) (As j) (Aw j) _ _ _ _ (zz j) (wr.drewN d) ((HI.out.bs j hjlt).keep (fun _ h => h) (fun _ _ => rfl)) ((HI.out.bw j hjlt).keep (fun _ h => h) (fun _ _ => rfl)) hsm
                        obtain ⟨ea, hea⟩ : ∃ x, x = (As j).isNone := ⟨_, rfl⟩
                        have hew : (Aw j).isNone = ea := by rw [hea]; exact HE.out.symm
                        have hes := hea.symm
                        clear hea
                        go_wp2_with fail
                        refine (content_walk (W2.heap.size + 1) (W2.heap.size + 1 + 1) q j (As j) (zl zz j) (Cs j) (wr.drewN d) hjlt (by omega) x6 xs).mono ?_
                        rintro e w6 ⟨rfl, rfl⟩
                        go_wp2_with fail
                        refine (HA d).out.mono ?_
                        rintro e w7 ⟨rfl, d2, rfl⟩
                        go_wp2
                        go_roundw
                        case rel => exact ⟨j + 1, d + d2, by omega, by go_num, by simp only [sumTo]; go_num, by first | rfl | simp⟩
                        case measure => simp [intOf]; omega
                      · have e5 : j = q := by omega
                        subst e5
                        go_wp2_with fail
                        refine (held_walk (W2.heap.size + 1 + 1) _ (wr.drewN d) x8).mono ?_
                        rintro e w6 ⟨rfl, rfl⟩
                        have HFin : Hid (Below w.heap.size w (wr.drewN d)) := by
                          have hfin := HB2.out.trans (HW.out.mono HB2.out.size)
                          exact ⟨hfin.os, hfin.tape, hfin.output, hfin.size, hfin.block⟩
                        go_wp2
                        go_ret
                        exact ⟨by simp, HFin.out⟩
      · go_wp2
        go_ret
        exact ⟨rfl, Below.refl _ _⟩
    · by_cases hn0 : n < 0
      · go_wp2
        go_ret
        exact ⟨rfl, Below.refl _ _⟩
      · have hn1 : 4096 < n := by omega
        go_wp2
        go_ret
        exact ⟨rfl, Below.refl _ _⟩
end Go.Proofs.Qxb6614306a
