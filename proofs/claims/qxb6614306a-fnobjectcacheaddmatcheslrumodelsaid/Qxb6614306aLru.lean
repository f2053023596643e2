/-
  FnObjectCacheAddMatchesLRUModel (4), walked.
-/
import Derived.Test.Qxb6614306aTwo
import Derived.Deep.CutRange
namespace Go.Proofs.Qxb6614306a
open Go.RowKit Go.WideShapes
open Go.ChangeMaps (setBlock)
set_option linter.unusedVariables false

theorem bound14_long (L : Nat → Nat) (ao : Option Addr) (n c : Nat) (w : World) (hn : n ≤ 9223372036854775807) (hb : 1048576 < n) : Calls Try.prog 14 #[.slice ao n c] w (SaysOne n L w) := by
  go_enter Try.func14, Try.ntmps14
  go_wp2
  go_ret
  exact ⟨false, rfl, fun h => Bool.noConfusion h, rfl⟩

theorem bound14_none (L : Nat → Nat) (ao : Option Addr) (c : Nat) (w : World) : Calls Try.prog 14 #[.slice ao 0 c] w (SaysOne 0 L w) := by
  go_enter Try.func14, Try.ntmps14
  go_wp2
  go_loop [3, 4] (fun t i => i = .int .i64 0 ∧ t = .int .i64 0) (fun _ _ => 0)
  case atStart => exact ⟨rfl, rfl⟩
  case round =>
    obtain ⟨rfl, rfl⟩ := hrel
    go_wp2
    all_goals go_ret
    all_goals exact ⟨_, rfl, fun _ k hk => absurd hk (Nat.not_lt_zero _), rfl⟩

set_option maxHeartbeats 1000000 in
theorem bound14_some (b o n c : Nat) (I : Nat → Int) (A : Nat → Option Addr) (L C M : Nat → Nat) (R : Nat → Bool) (w : World) (h : AOps w b o n I A L C M R) (hL : ∀ k, k < n → L k ≤ 9223372036854775807) (hn : n ≤ 1048576) :
    Calls Try.prog 14 #[.slice (some ⟨b, o, none⟩) n c] w (SaysOne n L w) := by
  go_enter Try.func14, Try.ntmps14
  go_wp2
  go_loop [3, 4] (fun t i => ∃ k s : Nat, k ≤ n ∧ i = .int .i64 k ∧ s ≤ 1048576 ∧ t = .int .i64 s ∧ Hid (∀ j, j < k → L j ≤ 1048576)) (fun _ i => n - (intOf i).toNat)
  case atStart => exact ⟨0, n, Nat.zero_le _, rfl, hn, rfl, fun j hj => absurd hj (Nat.not_lt_zero _)⟩
  case round =>
    obtain ⟨k, s, hk, rfl, hs, rfl, HS⟩ := hrel
    by_cases hlt : k < n
    · obtain ⟨_, c2, _, _⟩ := h k hlt
      have hLk := hL k hlt
      clear h hL
      obtain ⟨l, hl⟩ : ∃ l, Hid (l = L k) := ⟨_, rfl⟩
      rw [← hl.out] at c2 hLk
      by_cases h1 : l ≤ 1048576
      · by_cases h2 : s + l ≤ 1048576
        · go_wp2
          go_round
          case rel => exact ⟨k + 1, s + l, by omega, by go_num, h2, by go_num, fun j hj => by
            by_cases e : j = k
            · rw [e, ← hl.out]; exact h1
            · exact HS.out j (by omega)⟩
          case measure => simp [intOf]; omega
        · go_wp2
          go_ret
          exact ⟨false, rfl, fun h => Bool.noConfusion h, rfl⟩
      · go_wp2
        go_ret
        exact ⟨false, rfl, fun h => Bool.noConfusion h, rfl⟩
    · clear h hL
      go_wp2
      all_goals go_ret
      all_goals exact ⟨_, rfl, fun _ j hj => HS.out j (by omega), rfl⟩

theorem bound14 (ao : Option Addr) (n c : Nat) (I : Nat → Int) (A : Nat → Option Addr) (L C M : Nat → Nat) (R : Nat → Bool) (w : World) (h : Laid w ao n I A L C M R) (hL : ∀ k, k < n → L k ≤ 9223372036854775807) (hn : n ≤ 9223372036854775807) :
    Calls Try.prog 14 #[.slice ao n c] w (SaysOne n L w) := by
  by_cases h1 : 1048576 < n
  · exact bound14_long L ao n c w hn h1
  · by_cases h0 : n = 0
    · subst h0
      exact bound14_none L ao c w
    · obtain ⟨b, o, rfl, _, hc⟩ := h (by omega)
      exact bound14_some b o n c I A L C M R w hc hL (by omega)

theorem Try.infoc2 : (Try.prog.info? 2).map (fun i => (i.zero.map Value.cells, i.size, i.bytes)) = some (some #[.int .i64 0], 1, 8) := by kernel_rfl
theorem Try.infoc33 : (Try.prog.info? 33).map (fun i => (i.zero.map Value.cells, i.size, i.bytes)) = some (some #[.int .u64 0], 1, 8) := by kernel_rfl
theorem Try.info33 : (Try.prog.info? 33).map (fun i => (i.zero, i.size, i.bytes)) = some (some (.int .u64 0), 1, 8) := by kernel_rfl

/-- make([]T, 0, n) -/
theorem run_make0 {P : Program} (t e : TypeId) (zc : Array Value) (size bytes : Nat) (ht : P.underlying t = some (.slice e)) (hinfo : (P.info? e).map (fun i => (i.zero.map Value.cells, i.size, i.bytes)) = some (some zc, size, bytes))
    (n : Nat) (hbytes : bytes * n ≤ 281474976710656) (h63 : n ≤ 9223372036854775807) (w : World) :
    (Instr.makeSlice t (.int .i64 0) (.int .i64 (n : Int))).run P w = .ok (.slice (some ⟨w.heap.size, 0, none⟩) 0 n) (w.alloc (.cells (madeCells zc (n * size)) e)) := by
  obtain ⟨i, hi, hzz⟩ := Option.map_eq_some_iff.1 hinfo
  simp only [Prod.mk.injEq] at hzz
  obtain ⟨hz, hs, hb⟩ := hzz
  obtain ⟨z, hz1, hz2⟩ := Option.map_eq_some_iff.1 hz
  have hb' : (i.bytes : Int) * (n : Int) ≤ 281474976710656 := by
    have h : ((i.bytes * n : Nat) : Int) ≤ 281474976710656 := by rw [hb]; omega
    rwa [Int.natCast_mul] at h
  have hr := run_make (P := P) w t e i z ht hi hz1 .i64 .i64 0 n (by omega) (by omega) hb' (by omega)
  simp only [Int.toNat_natCast, hs, hz2, Int.toNat_zero] at hr
  exact hr

theorem mr_new (w : World) (zc : Array Value) (t : TypeId) (n : Nat) (h : n ≤ maxLen) : MR (w.alloc (.cells (madeCells zc (n * 1)) t)) w.heap.size t n [] :=
  MR.mk (Go.Deep.blk_alloc_new _ _) (Nat.zero_le _) h (by rw [size_madeCells]; omega) rfl

/-- what turns no block of the cache's leaves it as it is -/
theorem Kept.turned {Own T : Nat → Prop} {cb : Nat} {m : Int} {es : List Ent} {w w' : World} (h : Kept Own cb m es w) (t : Turned T w w') (hT : ∀ k, Own k → ¬ T k) (ho : ∀ x ∈ es, ¬ T x.o) : Kept Own cb m es w' := by
  have hw : Wrote (fun b _ => T b) w w' := ⟨t.os, t.tape, t.output, t.size, fun b i v hb hh => hh.of_block (t.block b hh.lt hb), fun k hk hn => t.block k hk (hn 0)⟩
  have hcb := hT _ h.own.1
  obtain ⟨mo, hm1, hm2⟩ := h.map
  refine ⟨hw.cell _ _ _ hcb h.mu, hw.cell _ _ _ hcb h.bytes, h.list.keep hw hcb hcb hcb (fun e he i hi => ?_), fun x hx => hw.cell _ _ _ (hT _ (h.own.2 x hx)) (h.val x hx), fun x hx => hw.cell _ _ _ (ho x hx) (h.off x hx), fun x hx => ?_, h.apart, h.ocb, h.offs, h.own, mo, hw.cell _ _ _ hcb hm1, hm2.keep fun mb e => ?_⟩
  · obtain ⟨z, hz, rfl⟩ := List.mem_map.1 he
    exact hT _ (h.own.2 z hz)
  · obtain ⟨ao, c, hc⟩ := h.con x hx
    exact ⟨ao, c, hw.cell _ _ _ (ho x hx) hc⟩
  · subst e
    obtain ⟨hO, K, hK, _⟩ := hm2
    exact t.block mb hK.lt (hT _ hO)

theorem news_one (w : World) (v : Value) (t : TypeId) : ∀ j u, [v][j]? = some u → (w.alloc (.cells #[v] t)).cell? ((⟨w.heap.size, 0, none⟩ : Addr).add j) = some u := by
  intro j u hj
  match j, hj with
  | 0, hj => simp at hj; subst hj; simp [Addr.add]
theorem one_int (k : IntKind) (x : Int) : ∀ u ∈ [Value.int k x], u.oneCell' = true := by
  intro u hu
  simp at hu
  subst hu
  rfl

/-- the input of the law on the model -/
structure LIn (w : World) (ao : Option Addr) (n c : Nat) (I : Nat → Int) (A : Nat → Option Addr) (L C M : Nat → Nat) (R : Nat → Bool) (z : Nat → Option (List Int)) : Prop where
  laid : Laid w ao n I A L C M R
  nil : ao = none → n = 0 ∧ c = 0
  con : ∀ k, k < n → BytesAt (fun b => b < w.heap.size) w (A k) (L k) (C k) (z k)
  lim : ∀ k, k < n → M k < 18446744073709551616

set_option maxHeartbeats 4000000 in
set_option maxRecDepth 100000 in
theorem lru_law (ao : Option Addr) (n c : Nat) (I : Nat → Int) (A : Nat → Option Addr) (L C M : Nat → Nat) (R : Nat → Bool) (z : Nat → Option (List Int)) (w : World)
    (h : Hid (LIn w ao n c I A L C M R z)) (hL : Hid (∀ k, k < n → L k ≤ 9223372036854775807)) (hn : n ≤ 9223372036854775807) :
    Calls Try.prog 4 #[.slice ao n c] w fun e w' => e = .returned (.bool true) ∧ Below w.heap.size w w' := by
  go_enter Try.func4, Try.ntmps4
  go_wp2_with fail
  refine (bound14 ao n c I A L C M R w h.out.laid hL.out hn).mono ?_
  rintro e w1 ⟨a, rfl, hsm, rfl⟩
  cases a with
  | false =>
    clear hsm
    go_wp2
    go_ret
    exact ⟨rfl, Below.refl _ _⟩
  | true =>
    have HSM := hide (hsm rfl)
    clear hsm
    by_cases hn4 : n ≤ 4096
    case neg =>
      go_wp2
      go_ret
      exact ⟨rfl, Below.refl _ _⟩
    go_wp2
    go_loop [3, 4] (fun t i => ∃ k s : Nat, k ≤ n ∧ i = .int .i64 k ∧ t = .int .i64 s ∧ s ≤ 1048576 ∧ Hid (s = n * 48 + sumTo L k)) (fun _ i => n - (intOf i).toNat)
    case atStart => exact ⟨0, n * 48, Nat.zero_le _, rfl, by go_num, by omega, by show _ = _; simp [sumTo]⟩
    case round =>
      obtain ⟨k, s, hk, rfl, rfl, hs, HS⟩ := hrel
      by_cases hlt : k < n
      · obtain ⟨b, o, rfl, _, hc⟩ := h.out.laid (by omega)
        obtain ⟨_, c1, _, _⟩ := hc k hlt
        have hLk := HSM.out k hlt
        obtain ⟨l, hl⟩ : ∃ l, Hid (l = L k) := ⟨_, rfl⟩
        rw [← hl.out] at c1 hLk
        clear hc
        by_cases h2 : s + l ≤ 1048576
        · go_wp2
          go_round
          case rel => exact ⟨k + 1, s + l, by omega, by go_num, by go_num, h2, by have := HS.out; have := hl.out; show _ = _; simp only [sumTo]; omega⟩
          case measure => simp [intOf]; omega
        · go_wp2
          go_ret
          exact ⟨rfl, Below.refl _ _⟩
      · have : n = k := by omega
        subst this
        have HSUM : Hid (n * 48 + sumTo L n ≤ 1048576) := by have := HS.out; show _ ≤ _; omega
        clear hs HS hL
        as_aux_lemma =>
          go_wp2_with fail
          refine (cloneA (S := fun b => b < w.heap.size) ao n c I A L C M R z w h.out.laid h.out.nil (by omega) (fun _ h => h) (fun k hk => ⟨HSM.out k hk, h.out.con k hk⟩)).mono ?_
          rintro e w2 ⟨ao2, c2, A2, C2, rfl, hl2, b2⟩
          have HL3 := hide hl2
          have B3 := hide b2
          clear hl2 b2
          go_wp2_with fail
          refine (cache_new w2).mono ?_
          rintro e w4 ⟨cc, rfl, hw4, q0, q2, q3, q4, q5, q8⟩
          obtain ⟨cb, hcb⟩ : ∃ cb, Hid (cb = w2.heap.size) := ⟨_, rfl⟩
          rw [← hcb.out]
          have z4 : w4.heap.size = cb + 1 := by rw [hw4, hcb.out]; simp
          obtain ⟨Own, hOwn⟩ : ∃ O : Nat → Prop, Hid (O = fun k => k = cb ∨ cb + 3 ≤ k) := ⟨_, rfl⟩
          have K4 : Kept Own cb 0 [] w4 := by
            rw [hw4, hOwn.out, hcb.out]
            exact kept_new w2 cc q0 q2 q3 q4 q5 q8 (.inl rfl)
          have B4' : Below w2.heap.size w2 w4 := by rw [hw4]; exact (Below.refl _ w2).alloc (Nat.le_refl _) _
          obtain ⟨Z1, hZ1⟩ : ∃ Z, Hid (Z = madeCells #[.int .i64 0] (n * 1)) := ⟨_, rfl⟩
          obtain ⟨Z2, hZ2⟩ : ∃ Z, Hid (Z = madeCells #[.int .u64 0] (n * 1)) := ⟨_, rfl⟩
          have hmk : ∀ w : World, (Instr.makeSlice 44 (.int .i64 0) (.int .i64 (n : Int))).run Try.prog w = .ok (.slice (some ⟨w.heap.size, 0, none⟩) 0 n) (w.alloc (.cells Z1 2)) := by rw [hZ1.out]; exact run_make0 (P := Try.prog) 44 2 _ 1 8 Try.underlying44 Try.infoc2 n (by omega) (by omega)
          have hmk2 : ∀ w : World, (Instr.makeSlice 45 (.int .i64 0) (.int .i64 (n : Int))).run Try.prog w = .ok (.slice (some ⟨w.heap.size, 0, none⟩) 0 n) (w.alloc (.cells Z2 33)) := by rw [hZ2.out]; exact run_make0 (P := Try.prog) 45 33 _ 1 8 Try.underlying45 Try.infoc33 n (by omega) (by omega)
          obtain ⟨w6, hw6⟩ : ∃ w6, Hid (w6 = (w4.alloc (.cells Z1 2)).alloc (.cells Z2 33)) := ⟨_, rfl⟩
          have B6' : Below w4.heap.size w4 w6 := by rw [hw6.out]; exact ((Below.refl _ w4).alloc (Nat.le_refl _) _).alloc (by simp) _
          have z6 : Hid (w6.heap.size = cb + 3) := by show _ = _; rw [hw6.out]; simp [z4]
          have K6 : Hid (Kept Own cb 0 [] w6) := K4.below B6'
          have M6 : Hid (Mod w6 (cb + 1) (cb + 2) n []) := by
            refine ⟨?_, ?_⟩
            · have h1 := mr_new w4 #[.int .i64 0] 2 n (by unfold maxLen; omega)
              rw [z4, ← hZ1.out] at h1
              rw [hw6.out]
              exact h1.block (Below.heap_alloc _ _ _ (by simp [z4]))
            · have h1 := mr_new (w4.alloc (.cells Z1 2)) #[.int .u64 0] 33 n (by unfold maxLen; omega)
              have h2 : (w4.alloc (.cells Z1 2)).heap.size = cb + 2 := by simp [z4]
              rw [h2, ← hZ2.out] at h1
              rw [hw6.out]
              exact h1
          have HL6 : Hid (0 < n → ∃ b o, ao2 = some ⟨b, o, none⟩ ∧ b < cb ∧ AOps w6 b o n I A2 L C2 M R) := fun h0 => by
            obtain ⟨b, o, e, hb, _⟩ := HL3.out h0
            obtain ⟨b', o', e', _, hc'⟩ := (HL3.out.below B4').below B6' h0
            rw [e] at e'
            simp only [Option.some.injEq, Addr.mk.injEq] at e'
            obtain ⟨rfl, rfl, _⟩ := e'
            exact ⟨b, o, e, by rw [hcb.out]; exact hb, hc'⟩
          have B6 : Hid (Below w.heap.size w w6) := (B3.out.trans (B4'.mono B3.out.size)).trans (B6'.mono (by have := B3.out.size; have := hcb.out; omega))
          have W6 : Hid (w.heap.size ≤ cb) := by show _ ≤ _; rw [hcb.out]; exact B3.out.size
          have HLIM := hide h.out.lim
          clear hw4 q0 q2 q3 q4 q5 q8 B4' HL3 B3 h K4 B6'
          go_wp2
          rw [← hw6.out]
          clear hmk hmk2
          as_aux_lemma =>
            go_loopw [6, 7, 8] (fun v6 v7 v8 wr => ∃ (k : Nat) (es : List Ent) (le : Nat), k ≤ n ∧ v8 = .int .i64 k ∧ v6 = .slice (some ⟨cb + 1, 0, none⟩) le n ∧ v7 = .slice (some ⟨cb + 2, 0, none⟩) le n ∧ Hid (le = es.length) ∧ Hid (Kept Own cb 0 es wr) ∧ Hid (es.length ≤ k ∧ total es ≤ sumTo L k + 128 * k ∧ ∀ x ∈ es, cb + 3 ≤ x.o) ∧ Hid (Mod wr (cb + 1) (cb + 2) n (es.map pr)) ∧ Hid (Turned (fun k => cb ≤ k) w6 wr)) (fun _ _ i _ => n - (intOf i).toNat)
            case atStart => exact ⟨0, [], 0, Nat.zero_le _, rfl, rfl, rfl, rfl, K6, ⟨Nat.le_refl _, by simp [total], fun x hx => by simp at hx⟩, M6, Turned.refl _ _⟩
            case round =>
              clear K6 M6
              obtain ⟨k, es, le, hk, rfl, rfl, rfl, hle, HKP, HQ, HM, HT⟩ := hrel
              by_cases hlt : k < n
              case neg =>
                have FIN : Hid (Below w.heap.size w wr) := B6.out.trans (HT.out.toBelow B6.out.size (fun i hi => Nat.le_trans W6.out hi))
                go_wp2
                go_ret
                exact ⟨rfl, FIN.out⟩
              obtain ⟨b, o, rfl, hb, hc⟩ := HL6.out (by omega)
              obtain ⟨c0, c1, c2, c3⟩ := hc k hlt
              have hbw : b < w6.heap.size := World.block_lt_of_cell? w6 _ c0
              have hblk : wr.heap[b]? = w6.heap[b]? := HT.out.block b hbw (by omega)
              obtain ⟨ik, hik⟩ : ∃ i, Hid (i = I k) := ⟨_, rfl⟩
              obtain ⟨lk, hlk⟩ : ∃ i, Hid (i = L k) := ⟨_, rfl⟩
              obtain ⟨mk, hmk⟩ : ∃ i, Hid (i = M k) := ⟨_, rfl⟩
              obtain ⟨rk, hrk⟩ : ∃ i, Hid (i = R k) := ⟨_, rfl⟩
              have g0 : wr.cell? ⟨b, o + k * 4, none⟩ = some (.int .i64 ik) := by rw [hik.out, ← c0]; exact World.cell?_of_block (w := w6) hblk
              have g1 : wr.cell? ⟨b, o + k * 4 + 1, none⟩ = some (.slice (A2 k) lk (C2 k)) := by rw [hlk.out, ← c1]; exact World.cell?_of_block (w := w6) hblk
              have g2 : wr.cell? ⟨b, o + k * 4 + 2, none⟩ = some (.int .u64 mk) := by rw [hmk.out, ← c2]; exact World.cell?_of_block (w := w6) hblk
              have g3 : wr.cell? ⟨b, o + k * 4 + 3, none⟩ = some (.bool rk) := by rw [hrk.out, ← c3]; exact World.cell?_of_block (w := w6) hblk
              have blk : lk ≤ 1048576 := by rw [hlk.out]; exact HSM.out k hlt
              have bmk : mk < 18446744073709551616 := by rw [hmk.out]; exact HLIM.out k hlt
              have HBR := hide (World.block_lt_of_cell? wr _ g0)
              have HBC := hide hb
              have G1 := hide g1
              obtain ⟨ck, hck⟩ : ∃ i, Hid (i = lk + 128) := ⟨_, rfl⟩
              have hckI : (lk : Int) + 128 = (ck : Int) := by have := hck.out; omega
              have bck : ck ≤ 1048704 := by have := hck.out; omega
              obtain ⟨T, hT⟩ : ∃ T, Hid (T = total es) := ⟨_, rfl⟩
              have bT : T ≤ 1099511627776 := by have := HQ.out.2.1; have := HSUM.out; have := sumTo_le L k n (by omega); have := hT.out; omega
              have ble : le ≤ k := by rw [hle.out]; exact HQ.out.1
              clear hc c0 c1 c2 c3 hbw hblk hb
              as_aux_lemma =>
                go_upto_if 91 with fail
                go_cut [6, 7, 13] from 60 to 254 (fun v6 v7 v13 wx => ∃ (ms : List (Int × Nat)) (want : Bool) (lm : Nat), v6 = .slice (some ⟨cb + 1, 0, none⟩) lm n ∧ v7 = .slice (some ⟨cb + 2, 0, none⟩) lm n ∧ v13 = .bool want ∧ Hid (lm = ms.length) ∧ Hid (Mmade es ik lk mk rk want ms) ∧ Hid (Mod wx (cb + 1) (cb + 2) n ms) ∧ Hid (Turned (fun k => k = cb + 1 ∨ k = cb + 2) wr wx))
                case first =>
                  clear HT HKP HL6 HLIM B6 W6 HBR HBC G1 g0 g1 g2 g3
                  have hX : Hid (total es = msum (es.map pr)) := by show _ = _; rw [msum_pr]
                  by_cases hfit : ck ≤ mk
                  case neg =>
                    have NO : Hid (Mmade es ik lk mk rk false (es.map pr)) := .inl ⟨rfl, rfl, .inl (by have := hck.out; omega)⟩
                    have LE : Hid (le = (es.map pr).length) := by show _ = _; rw [List.length_map]; exact hle.out
                    go_wp2_with fail
                    go_meet
                    exact ⟨es.map pr, false, le, rfl, rfl, rfl, LE, NO, HM, Turned.refl _ _⟩
                  as_aux_lemma =>
                    go_wp2
                    go_loop [14, 15, 16] (fun t q i => ∃ (j sm : Nat) (p : Bool), j ≤ le ∧ i = .int .i64 j ∧ t = .int .u64 sm ∧ q = .bool p ∧ Hid (sm = total (es.take j)) ∧ Hid (p = true ↔ ik ∈ (es.take j).map (·.off))) (fun _ _ i => le - (intOf i).toNat)
                    case atStart => exact ⟨0, 0, false, Nat.zero_le _, rfl, rfl, rfl, rfl, ⟨fun h => Bool.noConfusion h, fun h => by simp at h⟩⟩
                    case round =>
                      obtain ⟨j, sm, p, hj, rfl, rfl, rfl, HS1, HP1⟩ := hrel
                      by_cases hlt2 : j < le
                      · have hje : j < es.length := by have := hle.out; omega
                        have hjm : j < (es.map pr).length := by rw [List.length_map]; exact hje
                        obtain ⟨cj, oj, d1, d2, hsj, hoj⟩ : ∃ (c : Nat) (f : Int), wr.cell? ⟨cb + 2, j, none⟩ = some (.int .u64 (c : Int)) ∧ wr.cell? ⟨cb + 1, j, none⟩ = some (.int .i64 f) ∧ Hid (sm + c = total (es.take (j + 1))) ∧ Hid (ik ∈ (es.take (j + 1)).map (·.off) ↔ ik ∈ (es.take j).map (·.off) ∨ ik = f) := by
                          refine ⟨(es.map pr)[j].2, (es.map pr)[j].1, HM.out.costCell hjm, HM.out.offCell hjm, ?_, ?_⟩
                          · show _ = _
                            rw [List.take_succ_eq_append_getElem hje, total_append, ← HS1.out]
                            simp [pr, total]
                          · show _ ↔ _
                            rw [List.take_succ_eq_append_getElem hje, List.map_append, List.mem_append]
                            simp [pr]
                        have bsj : sm + cj ≤ 1099511627776 := by have := hsj.out; have := total_take_le es (j + 1); have := hT.out; omega
                        clear hje hjm
                        by_cases he : oj = ik
                        · have HP2 : Hid (true = true ↔ ik ∈ (es.take (j + 1)).map (·.off)) := ⟨fun _ => hoj.out.2 (.inr he.symm), fun _ => rfl⟩
                          subst he
                          go_wp2
                          go_round
                          case rel => exact ⟨j + 1, sm + cj, true, by omega, by go_num, by go_num, rfl, hsj, HP2⟩
                          case measure => simp [intOf]; omega
                        · have HP2 : Hid (p = true ↔ ik ∈ (es.take (j + 1)).map (·.off)) := ⟨fun h => hoj.out.2 (.inl (HP1.out.1 h)), fun h => (hoj.out.1 h).elim HP1.out.2 (fun e => absurd e.symm he)⟩
                          go_wp2
                          go_round
                          case rel => exact ⟨j + 1, sm + cj, p, by omega, by go_num, by go_num, rfl, hsj, HP2⟩
                          case measure => simp [intOf]; omega
                      · have e3 : j = le := by omega
                        have HP : Hid (p = true ↔ ik ∈ es.map (·.off)) := by
                          have h1 := HP1.out
                          rw [e3, hle.out, List.take_length] at h1
                          exact h1
                        have hsT : sm = T := by rw [HS1.out, e3, hle.out, List.take_length, hT.out]
                        subst e3 hsT
                        clear HS1 HP1
                        have LE : Hid (j = (es.map pr).length) := by show _ = _; rw [List.length_map]; exact hle.out
                        by_cases hno : p = true ∨ (rk = false ∧ mk < sm + ck)
                        case pos =>
                          have NO : Hid (Mmade es ik lk mk rk false (es.map pr)) := .inl ⟨rfl, rfl, .inr (hno.elim (fun h => .inr (HP.out.1 h)) (fun h => .inl ⟨h.1, by have := h.2; have := hck.out; have := hT.out; omega⟩))⟩
                          as_aux_lemma =>
                            cases p with
                            | true =>
                              go_wp2_with fail
                              go_meet
                              exact ⟨es.map pr, false, j, rfl, rfl, rfl, LE, NO, HM, Turned.refl _ _⟩
                            | false =>
                              obtain ⟨rfl, hbig⟩ : rk = false ∧ mk < sm + ck := by simpa using hno
                              clear hno
                              go_wp2_with fail
                              go_meet
                              exact ⟨es.map pr, false, j, rfl, rfl, rfl, LE, NO, HM, Turned.refl _ _⟩
                        obtain rfl : p = false := by cases p with | false => rfl | true => exact absurd (.inl rfl) hno
                        have HNIN : Hid (ik ∉ es.map (·.off)) := fun h => Bool.noConfusion (HP.out.2 h)
                        have hroom : Hid (rk = true ∨ sm + ck ≤ mk) := by
                          cases rk with
                          | true => exact .inl rfl
                          | false => exact .inr (by by_cases h2 : mk < sm + ck; exact absurd (.inr ⟨rfl, h2⟩) hno; omega)
                        obtain ⟨room, hrm⟩ : ∃ r, Hid (r = mk - ck) := ⟨_, rfl⟩
                        have hrmI : (mk : Int) - (ck : Int) = (room : Int) := by have := hrm.out; omega
                        have brm : room < 18446744073709551616 := by have := hrm.out; omega
                        have hgo : rk = false → sm + ck ≤ mk := fun h => by rcases hroom.out with e | e; rw [h] at e; cases e; exact e
                        as_aux_lemma =>
                          cases rk with
                          | true =>
                            clear hgo hno hroom
                            go_wp2
                            obtain ⟨i0, hi, hz0, hz1, hz2⟩ := info_parts Try.info2
                            obtain ⟨i1, ki, kz0, kz1, kz2⟩ := info_parts Try.info33
                            go_loop [18, 19] (fun kv av => ∃ kp ac : Nat, kp ≤ j ∧ kv = .int .i64 kp ∧ av = .int .u64 ac ∧ Hid (ac = total (es.take kp)) ∧ ac ≤ room) (fun kv _ => j - (intOf kv).toNat)
                            case atStart => exact ⟨0, 0, Nat.zero_le _, rfl, rfl, rfl, Nat.zero_le _⟩
                            case round =>
                              obtain ⟨kp, ac, hkp, rfl, rfl, HAC, hac⟩ := hrel
                              have hkn : kp < n := by omega
                              by_cases hk2 : kp < j
                              · have hje : kp < es.length := by have := hle.out; omega
                                have hjm : kp < (es.map pr).length := by rw [List.length_map]; exact hje
                                obtain ⟨cj, d1, hsj⟩ : ∃ (c : Nat), wr.cell? ⟨cb + 2, kp, none⟩ = some (.int .u64 (c : Int)) ∧ Hid (ac + c = total (es.take (kp + 1))) := by
                                  refine ⟨(es.map pr)[kp].2, HM.out.costCell hjm, ?_⟩
                                  show _ = _
                                  rw [List.take_succ_eq_append_getElem hje, total_append, ← HAC.out]
                                  simp [pr, total]
                                have bsj : ac + cj ≤ 1099511627776 := by have := hsj.out; have := total_take_le es (kp + 1); have := hT.out; omega
                                clear hje hjm
                                by_cases hb : ac + cj ≤ room
                                · go_wp2
                                  go_round
                                  case rel => exact ⟨kp + 1, ac + cj, by omega, by go_num, by go_num, hsj, hb⟩
                                  case measure => simp [intOf]; omega
                                · have HCUT : Hid (Cut es room kp) := ⟨by have := hle.out; omega, by rw [← HAC.out]; exact hac, .inr (by have := hsj.out; omega)⟩
                                  obtain ⟨X, hXe⟩ : ∃ X, Hid (X = (es.take kp).map pr) := ⟨_, rfl⟩
                                  have HMT : Hid (Mod wr (cb + 1) (cb + 2) n X) := by show Mod _ _ _ _ _; rw [hXe.out, List.map_take]; exact HM.out.take kp
                                  have hkl : Hid (kp = X.length) := by show _ = _; rw [hXe.out, List.length_map, List.length_take]; have := hle.out; omega
                                  obtain ⟨XO, hXO⟩ : ∃ l, Hid (l = X.map fun p => Value.int .i64 p.1) := ⟨_, rfl⟩
                                  obtain ⟨XC, hXC⟩ : ∃ l, Hid (l = X.map fun p => Value.int .u64 (p.2 : Int)) := ⟨_, rfl⟩
                                  have OO : Hid (wr.ownsRow 0 2 1 (.slice (some ⟨cb + 1, 0, none⟩) kp n) kp XO) := by show World.ownsRow _ _ _ _ _ _ _; rw [hXO.out]; exact HMT.out.offOwn hkl.out
                                  have OC : Hid (wr.ownsRow 0 33 1 (.slice (some ⟨cb + 2, 0, none⟩) kp n) kp XC) := by show World.ownsRow _ _ _ _ _ _ _; rw [hXC.out]; exact HMT.out.costOwn hkl.out
                                  as_aux_lemma =>
                                    go_wp2_with (at_builtin; refine wpList_append_own_spare _ rfl _ _ 44 rfl 0 2 i0 1 Try.underlying44 hi hz1 (cb + 1) kp n _ rfl (World.ownsRow.alloc OO.out _) ⟨wr.heap.size, 0, none⟩ 1 1 [Value.int .i64 0] rfl rfl (news_one wr _ 2) (one_int .i64 _) (by omega) ?_)
                                    intro w8 hown8 hgrow8
                                    have HMT8 : Hid ((w8.alloc (.cells #[Value.int .u64 (0 : Int)] 33)).ownsRow 0 33 1 (.slice (some ⟨cb + 2, 0, none⟩) kp n) kp XC) := by
                                      refine World.ownsRow.alloc (World.ownsRow.kept (World.ownsRow.alloc OC.out _) hgrow8 (.inr ?_)) _
                                      simp [Value.ownBlock]
                                    have HO8 := hide hown8
                                    have HG8 := hide hgrow8
                                    clear hown8 hgrow8
                                    go_wp2_with (at_builtin; refine wpList_append_own_spare _ rfl _ _ 45 rfl 0 33 i1 1 Try.underlying45 ki kz1 (cb + 2) kp n _ rfl HMT8.out ⟨w8.heap.size, 0, none⟩ 1 1 [Value.int .u64 (0 : Int)] rfl rfl (news_one w8 _ 33) (one_int .u64 _) (by omega) ?_)
                                    intro w9 hown9 hgrow9
                                    obtain ⟨M9, T9⟩ := Mod.grown (v := (0, 0)) HMT.out (by omega) (by rw [← hkl.out, ← hXO.out]; exact HO8.out) HG8.out (by rw [← hkl.out, ← hXC.out]; exact hown9) hgrow9
                                    have HM9 := hide M9
                                    have HT9 := hide T9
                                    clear hown9 hgrow9 HO8 HG8 HMT8 M9 T9

                                    have hkp1 : (kp : Int) + 1 - 1 = (kp : Int) := by omega
                                    obtain ⟨wr9, hwr9⟩ : ∃ x, Hid (x = wr) := ⟨_, rfl⟩
                                    have HT9' : Hid (Turned (fun k => k = cb + 1 ∨ k = cb + 2) wr9 w9) := by show Turned _ _ _; rw [hwr9.out]; exact HT9.out
                                    go_wp2
                                    as_aux_lemma =>
                                      go_loopw [20] (fun jv wx => ∃ (P Q : List (Int × Nat)) (x : Int × Nat) (jj : Nat), jv = .int .i64 jj ∧ Hid (jj = P.length) ∧ Hid (X = P ++ Q) ∧ Hid (Mod wx (cb + 1) (cb + 2) n (P ++ x :: Q)) ∧ Hid (Turned (fun k => k = cb + 1 ∨ k = cb + 2) wr9 wx)) (fun jv _ => (intOf jv).toNat)
                                      case atStart => exact ⟨X, [], (0, 0), kp, by go_num, hkl, by show _ = _; simp, HM9, HT9'⟩
                                      case round =>
                                        obtain ⟨P, Q, x, jj, rfl, hjj, hPQ, HMx, HTx⟩ := hrel
                                        have hjk : jj ≤ kp := by have h1 := congrArg List.length hPQ.out; rw [List.length_append] at h1; have := hjj.out; have := hkl.out; omega
                                        by_cases hz : jj = 0
                                        case neg =>
                                          obtain ⟨q, hq1⟩ : ∃ q, Hid (jj = q + 1) := ⟨jj - 1, by show _ = _; omega⟩
                                          have hqI : (jj : Int) - 1 = (q : Int) := by have := hq1.out; omega
                                          have hjp : 0 < jj := by omega
                                          obtain ⟨P', pp, rfl, hq⟩ := snoc_of (l := P) (q := q) (by rw [← hq1.out]; exact hjj.out)
                                          have hlen : (P' ++ [pp] ++ x :: Q).length = kp + 1 := by have h1 := congrArg List.length hPQ.out; simp only [List.length_append, List.length_cons, List.length_nil] at h1 ⊢; have := hkl.out; omega
                                          obtain ⟨p1, p2⟩ := pp
                                          have l1 : q < (P' ++ [(p1, p2)] ++ x :: Q).length := by have := hq1.out; omega
                                          have l2 : jj < (P' ++ [(p1, p2)] ++ x :: Q).length := by have := hq1.out; omega
                                          have ge : (P' ++ [(p1, p2)] ++ x :: Q)[q] = (p1, p2) := by
                                            have e6 : (P' ++ [(p1, p2)] ++ x :: Q)[q]? = some (p1, p2) := by
                                              rw [List.append_assoc, List.getElem?_append_right (by rw [hq]; exact Nat.le_refl _), hq, Nat.sub_self]
                                              rfl
                                            rw [List.getElem?_eq_getElem l1] at e6
                                            simpa using e6
                                          have a1 : wr.cell? ⟨cb + 1, q, none⟩ = some (.int .i64 p1) := by rw [HMx.out.offCell l1, ge]
                                          have a2 : wr.cell? ⟨cb + 1, jj, none⟩ = some (.int .i64 (P' ++ [(p1, p2)] ++ x :: Q)[jj].1) := HMx.out.offCell l2
                                          have a3 := HMx.out.off.frozen jj
                                          have b1 : (wr.setCell ⟨cb + 1, jj, none⟩ (.int .i64 p1)).cell? ⟨cb + 2, q, none⟩ = some (.int .u64 (p2 : Int)) := by
                                            rw [World.cell?_of_block (w := wr) (Below.heap_setCell _ _ _ _ (by show cb + 2 ≠ cb + 1; omega)), HMx.out.costCell l1, ge]
                                          have b2 : (wr.setCell ⟨cb + 1, jj, none⟩ (.int .i64 p1)).cell? ⟨cb + 2, jj, none⟩ = some (.int .u64 ((P' ++ [(p1, p2)] ++ x :: Q)[jj].2 : Int)) := by
                                            rw [World.cell?_of_block (w := wr) (Below.heap_setCell _ _ _ _ (by show cb + 2 ≠ cb + 1; omega))]
                                            exact HMx.out.costCell l2
                                          have b3 : (wr.setCell ⟨cb + 1, jj, none⟩ (.int .i64 p1)).frozen? ⟨cb + 2, jj, none⟩ = false := by
                                            rw [World.frozen?_of_block (w := wr) (Below.heap_setCell _ _ _ _ (by show cb + 2 ≠ cb + 1; omega))]
                                            exact HMx.out.cost.frozen jj
                                          generalize (P' ++ [(p1, p2)] ++ x :: Q)[jj].1 = j1 at a2
                                          generalize (P' ++ [(p1, p2)] ++ x :: Q)[jj].2 = j2 at b2
                                          have HS : Hid (Mod ((wr.setCell ⟨cb + 1, jj, none⟩ (.int .i64 p1)).setCell ⟨cb + 2, jj, none⟩ (.int .u64 (p2 : Int))) (cb + 1) (cb + 2) n (P' ++ (p1, p2) :: ((p1, p2) :: Q))) := by
                                            have h1 := HMx.out.set (by omega) jj (p1, p2)
                                            rw [show (P' ++ [(p1, p2)] ++ x :: Q).set jj (p1, p2) = P' ++ (p1, p2) :: ((p1, p2) :: Q) by rw [hq1.out]; exact shift_set P' Q (p1, p2) x q hq] at h1
                                            exact h1
                                          have HTs : Hid (Turned (fun k => k = cb + 1 ∨ k = cb + 2) wr9 ((wr.setCell ⟨cb + 1, jj, none⟩ (.int .i64 p1)).setCell ⟨cb + 2, jj, none⟩ (.int .u64 (p2 : Int)))) := (HTx.out.setCell (.inl (.inl rfl)) _).setCell (.inl (.inr rfl)) _
                                          have HPQ2 : Hid (X = P' ++ ((p1, p2) :: Q)) := by show _ = _; rw [hPQ.out]; simp
                                          have HQ5 := hide hq
                                          clear ge l1 l2 hlen HMx HTx hPQ hq hjj
                                          go_wp2
                                          go_roundw
                                          case rel => exact ⟨P', (p1, p2) :: Q, (p1, p2), q, by go_num, HQ5, HPQ2, HS, HTs⟩
                                          case measure => have := hq1.out; simp [intOf]; omega
                                        case pos =>
                                          subst hz
                                          obtain rfl : P = [] := List.eq_nil_of_length_eq_zero hjj.out.symm
                                          have l1 : 0 < (x :: Q).length := by simp
                                          have a2 : wr.cell? ⟨cb + 1, 0, none⟩ = some (.int .i64 x.1) := HMx.out.offCell l1
                                          have a3 := HMx.out.off.frozen 0
                                          have b2 : (wr.setCell ⟨cb + 1, 0, none⟩ (.int .i64 ik)).cell? ⟨cb + 2, 0, none⟩ = some (.int .u64 (x.2 : Int)) := by
                                            rw [World.cell?_of_block (w := wr) (Below.heap_setCell _ _ _ _ (by show cb + 2 ≠ cb + 1; omega))]
                                            exact HMx.out.costCell l1
                                          have b3 : (wr.setCell ⟨cb + 1, 0, none⟩ (.int .i64 ik)).frozen? ⟨cb + 2, 0, none⟩ = false := by
                                            rw [World.frozen?_of_block (w := wr) (Below.heap_setCell _ _ _ _ (by show cb + 2 ≠ cb + 1; omega))]
                                            exact HMx.out.cost.frozen 0
                                          have HS : Hid (Mod ((wr.setCell ⟨cb + 1, 0, none⟩ (.int .i64 ik)).setCell ⟨cb + 2, 0, none⟩ (.int .u64 (ck : Int))) (cb + 1) (cb + 2) n ((ik, ck) :: X)) := by
                                            have h1 := HMx.out.set (by omega) 0 (ik, ck)
                                            have e7 : X = Q := by have := hPQ.out; simpa using this
                                            rw [e7]
                                            exact h1
                                          have HTs : Hid (Turned (fun k => k = cb + 1 ∨ k = cb + 2) wr9 ((wr.setCell ⟨cb + 1, 0, none⟩ (.int .i64 ik)).setCell ⟨cb + 2, 0, none⟩ (.int .u64 (ck : Int)))) := (HTx.out.setCell (.inl (.inl rfl)) _).setCell (.inl (.inr rfl)) _
                                          have hmade : Hid (Mmade es ik lk mk true true ((ik, ck) :: X)) := .inr ⟨rfl, by have := hck.out; omega, HNIN.out, .inl rfl, kp, by rw [← hck.out, ← hrm.out]; exact HCUT.out, by rw [← hck.out, hXe.out]; rfl⟩
                                          have hlm2 : Hid (kp + 1 = ((ik, ck) :: X).length) := by show _ = _; rw [List.length_cons, ← hkl.out]
                                          clear l1 HMx HTx hPQ
                                          go_wp2_with fail
                                          go_meet
                                          exact ⟨_, true, kp + 1, rfl, rfl, rfl, hlm2, hmade, HS, by show Turned _ _ _; rw [← hwr9.out]; exact HTs.out⟩
                              · have e8 : kp = j := by omega
                                subst e8
                                have HCUT : Hid (Cut es room kp) := ⟨by have := hle.out; omega, by rw [← HAC.out]; exact hac, .inl hle.out⟩
                                obtain ⟨X, hXe⟩ : ∃ X, Hid (X = (es.take kp).map pr) := ⟨_, rfl⟩
                                have HMT : Hid (Mod wr (cb + 1) (cb + 2) n X) := by show Mod _ _ _ _ _; rw [hXe.out, List.map_take]; exact HM.out.take kp
                                have hkl : Hid (kp = X.length) := by show _ = _; rw [hXe.out, List.length_map, List.length_take]; have := hle.out; omega
                                obtain ⟨XO, hXO⟩ : ∃ l, Hid (l = X.map fun p => Value.int .i64 p.1) := ⟨_, rfl⟩
                                obtain ⟨XC, hXC⟩ : ∃ l, Hid (l = X.map fun p => Value.int .u64 (p.2 : Int)) := ⟨_, rfl⟩
                                have OO : Hid (wr.ownsRow 0 2 1 (.slice (some ⟨cb + 1, 0, none⟩) kp n) kp XO) := by show World.ownsRow _ _ _ _ _ _ _; rw [hXO.out]; exact HMT.out.offOwn hkl.out
                                have OC : Hid (wr.ownsRow 0 33 1 (.slice (some ⟨cb + 2, 0, none⟩) kp n) kp XC) := by show World.ownsRow _ _ _ _ _ _ _; rw [hXC.out]; exact HMT.out.costOwn hkl.out
                                as_aux_lemma =>
                                  go_wp2_with (at_builtin; refine wpList_append_own_spare _ rfl _ _ 44 rfl 0 2 i0 1 Try.underlying44 hi hz1 (cb + 1) kp n _ rfl (World.ownsRow.alloc OO.out _) ⟨wr.heap.size, 0, none⟩ 1 1 [Value.int .i64 0] rfl rfl (news_one wr _ 2) (one_int .i64 _) (by omega) ?_)
                                  intro w8 hown8 hgrow8
                                  have HMT8 : Hid ((w8.alloc (.cells #[Value.int .u64 (0 : Int)] 33)).ownsRow 0 33 1 (.slice (some ⟨cb + 2, 0, none⟩) kp n) kp XC) := by
                                    refine World.ownsRow.alloc (World.ownsRow.kept (World.ownsRow.alloc OC.out _) hgrow8 (.inr ?_)) _
                                    simp [Value.ownBlock]
                                  have HO8 := hide hown8
                                  have HG8 := hide hgrow8
                                  clear hown8 hgrow8
                                  go_wp2_with (at_builtin; refine wpList_append_own_spare _ rfl _ _ 45 rfl 0 33 i1 1 Try.underlying45 ki kz1 (cb + 2) kp n _ rfl HMT8.out ⟨w8.heap.size, 0, none⟩ 1 1 [Value.int .u64 (0 : Int)] rfl rfl (news_one w8 _ 33) (one_int .u64 _) (by omega) ?_)
                                  intro w9 hown9 hgrow9
                                  obtain ⟨M9, T9⟩ := Mod.grown (v := (0, 0)) HMT.out (by omega) (by rw [← hkl.out, ← hXO.out]; exact HO8.out) HG8.out (by rw [← hkl.out, ← hXC.out]; exact hown9) hgrow9
                                  have HM9 := hide M9
                                  have HT9 := hide T9
                                  clear hown9 hgrow9 HO8 HG8 HMT8 M9 T9

                                  have hkp1 : (kp : Int) + 1 - 1 = (kp : Int) := by omega
                                  obtain ⟨wr9, hwr9⟩ : ∃ x, Hid (x = wr) := ⟨_, rfl⟩
                                  have HT9' : Hid (Turned (fun k => k = cb + 1 ∨ k = cb + 2) wr9 w9) := by show Turned _ _ _; rw [hwr9.out]; exact HT9.out
                                  go_wp2
                                  as_aux_lemma =>
                                    go_loopw [20] (fun jv wx => ∃ (P Q : List (Int × Nat)) (x : Int × Nat) (jj : Nat), jv = .int .i64 jj ∧ Hid (jj = P.length) ∧ Hid (X = P ++ Q) ∧ Hid (Mod wx (cb + 1) (cb + 2) n (P ++ x :: Q)) ∧ Hid (Turned (fun k => k = cb + 1 ∨ k = cb + 2) wr9 wx)) (fun jv _ => (intOf jv).toNat)
                                    case atStart => exact ⟨X, [], (0, 0), kp, by go_num, hkl, by show _ = _; simp, HM9, HT9'⟩
                                    case round =>
                                      obtain ⟨P, Q, x, jj, rfl, hjj, hPQ, HMx, HTx⟩ := hrel
                                      have hjk : jj ≤ kp := by have h1 := congrArg List.length hPQ.out; rw [List.length_append] at h1; have := hjj.out; have := hkl.out; omega
                                      by_cases hz : jj = 0
                                      case neg =>
                                        obtain ⟨q, hq1⟩ : ∃ q, Hid (jj = q + 1) := ⟨jj - 1, by show _ = _; omega⟩
                                        have hqI : (jj : Int) - 1 = (q : Int) := by have := hq1.out; omega
                                        have hjp : 0 < jj := by omega
                                        obtain ⟨P', pp, rfl, hq⟩ := snoc_of (l := P) (q := q) (by rw [← hq1.out]; exact hjj.out)
                                        have hlen : (P' ++ [pp] ++ x :: Q).length = kp + 1 := by have h1 := congrArg List.length hPQ.out; simp only [List.length_append, List.length_cons, List.length_nil] at h1 ⊢; have := hkl.out; omega
                                        obtain ⟨p1, p2⟩ := pp
                                        have l1 : q < (P' ++ [(p1, p2)] ++ x :: Q).length := by have := hq1.out; omega
                                        have l2 : jj < (P' ++ [(p1, p2)] ++ x :: Q).length := by have := hq1.out; omega
                                        have ge : (P' ++ [(p1, p2)] ++ x :: Q)[q] = (p1, p2) := by
                                          have e6 : (P' ++ [(p1, p2)] ++ x :: Q)[q]? = some (p1, p2) := by
                                            rw [List.append_assoc, List.getElem?_append_right (by rw [hq]; exact Nat.le_refl _), hq, Nat.sub_self]
                                            rfl
                                          rw [List.getElem?_eq_getElem l1] at e6
                                          simpa using e6
                                        have a1 : wr.cell? ⟨cb + 1, q, none⟩ = some (.int .i64 p1) := by rw [HMx.out.offCell l1, ge]
                                        have a2 : wr.cell? ⟨cb + 1, jj, none⟩ = some (.int .i64 (P' ++ [(p1, p2)] ++ x :: Q)[jj].1) := HMx.out.offCell l2
                                        have a3 := HMx.out.off.frozen jj
                                        have b1 : (wr.setCell ⟨cb + 1, jj, none⟩ (.int .i64 p1)).cell? ⟨cb + 2, q, none⟩ = some (.int .u64 (p2 : Int)) := by
                                          rw [World.cell?_of_block (w := wr) (Below.heap_setCell _ _ _ _ (by show cb + 2 ≠ cb + 1; omega)), HMx.out.costCell l1, ge]
                                        have b2 : (wr.setCell ⟨cb + 1, jj, none⟩ (.int .i64 p1)).cell? ⟨cb + 2, jj, none⟩ = some (.int .u64 ((P' ++ [(p1, p2)] ++ x :: Q)[jj].2 : Int)) := by
                                          rw [World.cell?_of_block (w := wr) (Below.heap_setCell _ _ _ _ (by show cb + 2 ≠ cb + 1; omega))]
                                          exact HMx.out.costCell l2
                                        have b3 : (wr.setCell ⟨cb + 1, jj, none⟩ (.int .i64 p1)).frozen? ⟨cb + 2, jj, none⟩ = false := by
                                          rw [World.frozen?_of_block (w := wr) (Below.heap_setCell _ _ _ _ (by show cb + 2 ≠ cb + 1; omega))]
                                          exact HMx.out.cost.frozen jj
                                        generalize (P' ++ [(p1, p2)] ++ x :: Q)[jj].1 = j1 at a2
                                        generalize (P' ++ [(p1, p2)] ++ x :: Q)[jj].2 = j2 at b2
                                        have HS : Hid (Mod ((wr.setCell ⟨cb + 1, jj, none⟩ (.int .i64 p1)).setCell ⟨cb + 2, jj, none⟩ (.int .u64 (p2 : Int))) (cb + 1) (cb + 2) n (P' ++ (p1, p2) :: ((p1, p2) :: Q))) := by
                                          have h1 := HMx.out.set (by omega) jj (p1, p2)
                                          rw [show (P' ++ [(p1, p2)] ++ x :: Q).set jj (p1, p2) = P' ++ (p1, p2) :: ((p1, p2) :: Q) by rw [hq1.out]; exact shift_set P' Q (p1, p2) x q hq] at h1
                                          exact h1
                                        have HTs : Hid (Turned (fun k => k = cb + 1 ∨ k = cb + 2) wr9 ((wr.setCell ⟨cb + 1, jj, none⟩ (.int .i64 p1)).setCell ⟨cb + 2, jj, none⟩ (.int .u64 (p2 : Int)))) := (HTx.out.setCell (.inl (.inl rfl)) _).setCell (.inl (.inr rfl)) _
                                        have HPQ2 : Hid (X = P' ++ ((p1, p2) :: Q)) := by show _ = _; rw [hPQ.out]; simp
                                        have HQ5 := hide hq
                                        clear ge l1 l2 hlen HMx HTx hPQ hq hjj
                                        go_wp2
                                        go_roundw
                                        case rel => exact ⟨P', (p1, p2) :: Q, (p1, p2), q, by go_num, HQ5, HPQ2, HS, HTs⟩
                                        case measure => have := hq1.out; simp [intOf]; omega
                                      case pos =>
                                        subst hz
                                        obtain rfl : P = [] := List.eq_nil_of_length_eq_zero hjj.out.symm
                                        have l1 : 0 < (x :: Q).length := by simp
                                        have a2 : wr.cell? ⟨cb + 1, 0, none⟩ = some (.int .i64 x.1) := HMx.out.offCell l1
                                        have a3 := HMx.out.off.frozen 0
                                        have b2 : (wr.setCell ⟨cb + 1, 0, none⟩ (.int .i64 ik)).cell? ⟨cb + 2, 0, none⟩ = some (.int .u64 (x.2 : Int)) := by
                                          rw [World.cell?_of_block (w := wr) (Below.heap_setCell _ _ _ _ (by show cb + 2 ≠ cb + 1; omega))]
                                          exact HMx.out.costCell l1
                                        have b3 : (wr.setCell ⟨cb + 1, 0, none⟩ (.int .i64 ik)).frozen? ⟨cb + 2, 0, none⟩ = false := by
                                          rw [World.frozen?_of_block (w := wr) (Below.heap_setCell _ _ _ _ (by show cb + 2 ≠ cb + 1; omega))]
                                          exact HMx.out.cost.frozen 0
                                        have HS : Hid (Mod ((wr.setCell ⟨cb + 1, 0, none⟩ (.int .i64 ik)).setCell ⟨cb + 2, 0, none⟩ (.int .u64 (ck : Int))) (cb + 1) (cb + 2) n ((ik, ck) :: X)) := by
                                          have h1 := HMx.out.set (by omega) 0 (ik, ck)
                                          have e7 : X = Q := by have := hPQ.out; simpa using this
                                          rw [e7]
                                          exact h1
                                        have HTs : Hid (Turned (fun k => k = cb + 1 ∨ k = cb + 2) wr9 ((wr.setCell ⟨cb + 1, 0, none⟩ (.int .i64 ik)).setCell ⟨cb + 2, 0, none⟩ (.int .u64 (ck : Int)))) := (HTx.out.setCell (.inl (.inl rfl)) _).setCell (.inl (.inr rfl)) _
                                        have hmade : Hid (Mmade es ik lk mk true true ((ik, ck) :: X)) := .inr ⟨rfl, by have := hck.out; omega, HNIN.out, .inl rfl, kp, by rw [← hck.out, ← hrm.out]; exact HCUT.out, by rw [← hck.out, hXe.out]; rfl⟩
                                        have hlm2 : Hid (kp + 1 = ((ik, ck) :: X).length) := by show _ = _; rw [List.length_cons, ← hkl.out]
                                        clear l1 HMx HTx hPQ
                                        go_wp2_with fail
                                        go_meet
                                        exact ⟨_, true, kp + 1, rfl, rfl, rfl, hlm2, hmade, HS, by show Turned _ _ _; rw [← hwr9.out]; exact HTs.out⟩
                          | false =>
                            have hgo2 := hgo rfl
                            clear hgo hno hroom
                            go_wp2
                            obtain ⟨i0, hi, hz0, hz1, hz2⟩ := info_parts Try.info2
                            obtain ⟨i1, ki, kz0, kz1, kz2⟩ := info_parts Try.info33
                            go_loop [18, 19] (fun kv av => ∃ kp ac : Nat, kp ≤ j ∧ kv = .int .i64 kp ∧ av = .int .u64 ac ∧ Hid (ac = total (es.take kp)) ∧ ac ≤ room) (fun kv _ => j - (intOf kv).toNat)
                            case atStart => exact ⟨0, 0, Nat.zero_le _, rfl, rfl, rfl, Nat.zero_le _⟩
                            case round =>
                              obtain ⟨kp, ac, hkp, rfl, rfl, HAC, hac⟩ := hrel
                              have hkn : kp < n := by omega
                              by_cases hk2 : kp < j
                              · have hje : kp < es.length := by have := hle.out; omega
                                have hjm : kp < (es.map pr).length := by rw [List.length_map]; exact hje
                                obtain ⟨cj, d1, hsj⟩ : ∃ (c : Nat), wr.cell? ⟨cb + 2, kp, none⟩ = some (.int .u64 (c : Int)) ∧ Hid (ac + c = total (es.take (kp + 1))) := by
                                  refine ⟨(es.map pr)[kp].2, HM.out.costCell hjm, ?_⟩
                                  show _ = _
                                  rw [List.take_succ_eq_append_getElem hje, total_append, ← HAC.out]
                                  simp [pr, total]
                                have bsj : ac + cj ≤ 1099511627776 := by have := hsj.out; have := total_take_le es (kp + 1); have := hT.out; omega
                                clear hje hjm
                                by_cases hb : ac + cj ≤ room
                                · go_wp2
                                  go_round
                                  case rel => exact ⟨kp + 1, ac + cj, by omega, by go_num, by go_num, hsj, hb⟩
                                  case measure => simp [intOf]; omega
                                · have HCUT : Hid (Cut es room kp) := ⟨by have := hle.out; omega, by rw [← HAC.out]; exact hac, .inr (by have := hsj.out; omega)⟩
                                  obtain ⟨X, hXe⟩ : ∃ X, Hid (X = (es.take kp).map pr) := ⟨_, rfl⟩
                                  have HMT : Hid (Mod wr (cb + 1) (cb + 2) n X) := by show Mod _ _ _ _ _; rw [hXe.out, List.map_take]; exact HM.out.take kp
                                  have hkl : Hid (kp = X.length) := by show _ = _; rw [hXe.out, List.length_map, List.length_take]; have := hle.out; omega
                                  obtain ⟨XO, hXO⟩ : ∃ l, Hid (l = X.map fun p => Value.int .i64 p.1) := ⟨_, rfl⟩
                                  obtain ⟨XC, hXC⟩ : ∃ l, Hid (l = X.map fun p => Value.int .u64 (p.2 : Int)) := ⟨_, rfl⟩
                                  have OO : Hid (wr.ownsRow 0 2 1 (.slice (some ⟨cb + 1, 0, none⟩) kp n) kp XO) := by show World.ownsRow _ _ _ _ _ _ _; rw [hXO.out]; exact HMT.out.offOwn hkl.out
                                  have OC : Hid (wr.ownsRow 0 33 1 (.slice (some ⟨cb + 2, 0, none⟩) kp n) kp XC) := by show World.ownsRow _ _ _ _ _ _ _; rw [hXC.out]; exact HMT.out.costOwn hkl.out
                                  as_aux_lemma =>
                                    go_wp2_with (at_builtin; refine wpList_append_own_spare _ rfl _ _ 44 rfl 0 2 i0 1 Try.underlying44 hi hz1 (cb + 1) kp n _ rfl (World.ownsRow.alloc OO.out _) ⟨wr.heap.size, 0, none⟩ 1 1 [Value.int .i64 ik] rfl rfl (news_one wr _ 2) (one_int .i64 _) (by omega) ?_)
                                    intro w8 hown8 hgrow8
                                    have HMT8 : Hid ((w8.alloc (.cells #[Value.int .u64 (ck : Int)] 33)).ownsRow 0 33 1 (.slice (some ⟨cb + 2, 0, none⟩) kp n) kp XC) := by
                                      refine World.ownsRow.alloc (World.ownsRow.kept (World.ownsRow.alloc OC.out _) hgrow8 (.inr ?_)) _
                                      simp [Value.ownBlock]
                                    have HO8 := hide hown8
                                    have HG8 := hide hgrow8
                                    clear hown8 hgrow8
                                    go_wp2_with (at_builtin; refine wpList_append_own_spare _ rfl _ _ 45 rfl 0 33 i1 1 Try.underlying45 ki kz1 (cb + 2) kp n _ rfl HMT8.out ⟨w8.heap.size, 0, none⟩ 1 1 [Value.int .u64 (ck : Int)] rfl rfl (news_one w8 _ 33) (one_int .u64 _) (by omega) ?_)
                                    intro w9 hown9 hgrow9
                                    obtain ⟨M9, T9⟩ := Mod.grown (v := (ik, ck)) HMT.out (by omega) (by rw [← hkl.out, ← hXO.out]; exact HO8.out) HG8.out (by rw [← hkl.out, ← hXC.out]; exact hown9) hgrow9
                                    have HM9 := hide M9
                                    have HT9 := hide T9
                                    clear hown9 hgrow9 HO8 HG8 HMT8 M9 T9

                                    have hmade : Hid (Mmade es ik lk mk false true (X ++ [(ik, ck)])) := .inr ⟨rfl, by have := hck.out; omega, HNIN.out, .inr (by have := hck.out; have := hT.out; omega), kp, by rw [← hck.out, ← hrm.out]; exact HCUT.out, by rw [← hck.out, hXe.out]; rfl⟩
                                    have hlm2 : Hid (kp + 1 = (X ++ [(ik, ck)]).length) := by show _ = _; rw [List.length_append, ← hkl.out]; rfl
                                    go_wp2_with fail
                                    go_meet
                                    exact ⟨_, true, kp + 1, rfl, rfl, rfl, hlm2, hmade, HM9, HT9⟩
                              · have e8 : kp = j := by omega
                                subst e8
                                have HCUT : Hid (Cut es room kp) := ⟨by have := hle.out; omega, by rw [← HAC.out]; exact hac, .inl hle.out⟩
                                obtain ⟨X, hXe⟩ : ∃ X, Hid (X = (es.take kp).map pr) := ⟨_, rfl⟩
                                have HMT : Hid (Mod wr (cb + 1) (cb + 2) n X) := by show Mod _ _ _ _ _; rw [hXe.out, List.map_take]; exact HM.out.take kp
                                have hkl : Hid (kp = X.length) := by show _ = _; rw [hXe.out, List.length_map, List.length_take]; have := hle.out; omega
                                obtain ⟨XO, hXO⟩ : ∃ l, Hid (l = X.map fun p => Value.int .i64 p.1) := ⟨_, rfl⟩
                                obtain ⟨XC, hXC⟩ : ∃ l, Hid (l = X.map fun p => Value.int .u64 (p.2 : Int)) := ⟨_, rfl⟩
                                have OO : Hid (wr.ownsRow 0 2 1 (.slice (some ⟨cb + 1, 0, none⟩) kp n) kp XO) := by show World.ownsRow _ _ _ _ _ _ _; rw [hXO.out]; exact HMT.out.offOwn hkl.out
                                have OC : Hid (wr.ownsRow 0 33 1 (.slice (some ⟨cb + 2, 0, none⟩) kp n) kp XC) := by show World.ownsRow _ _ _ _ _ _ _; rw [hXC.out]; exact HMT.out.costOwn hkl.out
                                as_aux_lemma =>
                                  go_wp2_with (at_builtin; refine wpList_append_own_spare _ rfl _ _ 44 rfl 0 2 i0 1 Try.underlying44 hi hz1 (cb + 1) kp n _ rfl (World.ownsRow.alloc OO.out _) ⟨wr.heap.size, 0, none⟩ 1 1 [Value.int .i64 ik] rfl rfl (news_one wr _ 2) (one_int .i64 _) (by omega) ?_)
                                  intro w8 hown8 hgrow8
                                  have HMT8 : Hid ((w8.alloc (.cells #[Value.int .u64 (ck : Int)] 33)).ownsRow 0 33 1 (.slice (some ⟨cb + 2, 0, none⟩) kp n) kp XC) := by
                                    refine World.ownsRow.alloc (World.ownsRow.kept (World.ownsRow.alloc OC.out _) hgrow8 (.inr ?_)) _
                                    simp [Value.ownBlock]
                                  have HO8 := hide hown8
                                  have HG8 := hide hgrow8
                                  clear hown8 hgrow8
                                  go_wp2_with (at_builtin; refine wpList_append_own_spare _ rfl _ _ 45 rfl 0 33 i1 1 Try.underlying45 ki kz1 (cb + 2) kp n _ rfl HMT8.out ⟨w8.heap.size, 0, none⟩ 1 1 [Value.int .u64 (ck : Int)] rfl rfl (news_one w8 _ 33) (one_int .u64 _) (by omega) ?_)
                                  intro w9 hown9 hgrow9
                                  obtain ⟨M9, T9⟩ := Mod.grown (v := (ik, ck)) HMT.out (by omega) (by rw [← hkl.out, ← hXO.out]; exact HO8.out) HG8.out (by rw [← hkl.out, ← hXC.out]; exact hown9) hgrow9
                                  have HM9 := hide M9
                                  have HT9 := hide T9
                                  clear hown9 hgrow9 HO8 HG8 HMT8 M9 T9

                                  have hmade : Hid (Mmade es ik lk mk false true (X ++ [(ik, ck)])) := .inr ⟨rfl, by have := hck.out; omega, HNIN.out, .inr (by have := hck.out; have := hT.out; omega), kp, by rw [← hck.out, ← hrm.out]; exact HCUT.out, by rw [← hck.out, hXe.out]; rfl⟩
                                  have hlm2 : Hid (kp + 1 = (X ++ [(ik, ck)]).length) := by show _ = _; rw [List.length_append, ← hkl.out]; rfl
                                  go_wp2_with fail
                                  go_meet
                                  exact ⟨_, true, kp + 1, rfl, rfl, rfl, hlm2, hmade, HM9, HT9⟩
                case rest =>
                  obtain ⟨ms, want, lm, rfl, rfl, rfl, hlm, HMM, HMD, HTM⟩ := hcut
                  have hob : ∀ x ∈ es, ¬ (x.o = cb + 1 ∨ x.o = cb + 2) := fun x hx => by have := HQ.out.2.2 x hx; omega
                  have KC : Hid (Kept Own cb 0 es wc) := HKP.out.turned HTM.out (fun k hk => by rw [hOwn.out] at hk; omega) hob
                  have hblkC : wc.heap[b]? = wr.heap[b]? := HTM.out.block b HBR.out (by have := HBC.out; omega)
                  have y1 : wc.cell? ⟨b, o + k * 4 + 1, none⟩ = some (.slice (A2 k) lk (C2 k)) := (World.cell?_of_block (w := wr) hblkC).trans G1.out
                  have HSM2 : Hid (es.length ≤ 1048575 ∧ total es ≤ 1099511627776) := ⟨by have := HQ.out.1; omega, by rw [← hT.out]; exact bT⟩
                  have TC : Hid (Turned (fun k => cb ≤ k) w6 wc) := HT.out.trans HTM.out (fun i hi => .inl (by omega))
                  have hzc : Hid (cb + 3 ≤ wc.heap.size) := by have := TC.out.size; have := z6.out; show _ ≤ _; omega
                  clear hob hblkC HM HT HKP g0 g1 g2 g3
                  as_aux_lemma =>
                    go_wp2_with fail
                    refine (made_new ik (A2 k) lk (C2 k) wc).mono ?_
                    rintro e w5 ⟨cs5, rfl, hw5, m0, m2⟩
                    have b5 : Below wc.heap.size wc w5 := by rw [hw5]; exact (Below.refl _ wc).alloc (Nat.le_refl _) _
                    have B5 := hide b5
                    have ADD := hide (add_new ik (A2 k) lk (C2 k) mk rk KC.out hw5 m0 m2 blk HSM2.out.1 HSM2.out.2 bmk (fun i hi => by rw [hOwn.out]; exact .inr (Nat.le_trans hzc.out hi)))
                    clear hw5 m0 m2 b5 y1
                    go_wp2_with fail
                    refine ADD.out.mono ?_
                    rintro e wz ⟨ans, es', rfl, had, hkp, htn⟩
                    obtain ⟨rfl, hms⟩ := agree HMM.out had
                    have HMS := hide hms
                    have KZ := hide hkp
                    have MZ : Hid (Mod wz (cb + 1) (cb + 2) n ms) := (HMD.out.blocks (B5.out.block _ HMD.out.off.lt) (B5.out.block _ HMD.out.cost.lt)).blocks
                      (htn.block _ (Nat.lt_of_lt_of_le HMD.out.off.lt B5.out.size) (by rw [hOwn.out]; omega)) (htn.block _ (Nat.lt_of_lt_of_le HMD.out.cost.lt B5.out.size) (by rw [hOwn.out]; omega))
                    have TZ : Hid (Turned (fun k => cb ≤ k) w6 wz) := (TC.out.below B5.out).trans htn (fun i hi => by rw [hOwn.out] at hi; exact .inl (by omega))
                    have QZ : Hid (es'.length ≤ k + 1 ∧ total es' ≤ sumTo L (k + 1) + 128 * (k + 1) ∧ ∀ x ∈ es', cb + 3 ≤ x.o) := by
                      refine ⟨?_, ?_, fun x hx => ?_⟩
                      · have := had.len; have := HQ.out.1; omega
                      · have := had.total; have := HQ.out.2.1; have := hlk.out; simp only [sumTo]; omega
                      · have h1 : x.o = wc.heap.size ∨ x ∈ es := by
                          rcases had with ⟨_, e, _⟩ | ⟨_, _, _, _, kk, xx, _, e⟩
                          · rw [e] at hx; exact .inr hx
                          · rw [e] at hx
                            cases ans <;> cases rk <;> simp at hx
                            all_goals first
                              | (rcases hx with h | h; exact .inl (by rw [h]); exact .inr (List.mem_of_mem_take h))
                              | (rcases hx with h | h; exact .inr (List.mem_of_mem_take h); exact .inl (by rw [h]))
                        rcases h1 with e | e
                        · rw [e]; exact hzc.out
                        · exact HQ.out.2.2 x e
                    have hle2 : Hid (lm = es'.length) := by show lm = _; rw [hlm.out, ← HMS.out, List.length_map]
                    have blm : lm ≤ 4097 := by have := hle2.out; have := QZ.out.1; omega
                    have hmt : Hid (msum ms = total es') := by show _ = _; rw [← HMS.out, msum_pr]
                    clear had hkp htn hms HMM KC HMD HTM ADD HQ HSM2 TC
                    go_wp2
                    as_aux_lemma =>
                      go_loop [22, 23] (fun t i => ∃ j sm : Nat, j ≤ lm ∧ i = .int .i64 j ∧ t = .int .u64 sm ∧ Hid (sm = msum (ms.take j))) (fun _ i => lm - (intOf i).toNat)
                      case atStart => exact ⟨0, 0, Nat.zero_le _, rfl, rfl, by show _ = _; simp [msum]⟩
                      case round =>
                        obtain ⟨j, sm, hj, rfl, rfl, HSMS⟩ := hrel
                        by_cases hlt2 : j < lm
                        · have hjm : j < ms.length := by have := hlm.out; omega
                          obtain ⟨cj, d1, hsj⟩ : ∃ c : Nat, wz.cell? ⟨cb + 2, j, none⟩ = some (.int .u64 (c : Int)) ∧ Hid (sm + c = msum (ms.take (j + 1))) := ⟨ms[j].2, MZ.out.costCell hjm, by show _ = _; rw [msum_take_succ hjm, ← HSMS.out]⟩
                          have bsj : sm + cj ≤ 1099511627776 := by
                            have := hsj.out
                            have := msum_take_le ms (j + 1)
                            have := hmt.out
                            have := QZ.out.2.1
                            have := HSUM.out
                            have := sumTo_le L (k + 1) n (by omega)
                            omega
                          clear hjm
                          go_wp2
                          go_round
                          case rel => exact ⟨j + 1, sm + cj, by omega, by go_num, by go_num, hsj⟩
                          case measure => simp [intOf]; omega
                        · have e3 : j = lm := by omega
                          subst e3
                          have hsm : Hid (sm = total es') := by show sm = _; rw [HSMS.out, hlm.out, List.take_length, hmt.out]
                          have cS : wz.cell? ⟨cb, 2, none⟩ = some (.int .u64 (sm : Int)) := by rw [hsm.out]; exact KZ.out.bytes.cell
                          have BY := hide (bytes_ok cb sm wz cS)
                          have ML := hide (mapLen_ok KZ.out hle2.out)
                          have bl : Hid (es'.length ≤ 4097) := by have := QZ.out.1; show _ ≤ _; omega
                          have FR := hide (front_zz KZ.out.list (by rw [List.length_map]; have := bl.out; omega))
                          clear cS
                          as_aux_lemma =>
                            go_wp2_with fail
                            refine BY.out.mono ?_
                            rintro e wo ⟨rfl, hwo⟩
                            subst hwo
                            go_wp2_with fail
                            refine ML.out.mono ?_
                            rintro e wp ⟨rfl, hwp⟩
                            subst hwp
                            go_wp2_with fail
                            refine FR.out.mono ?_
                            rintro e wq ⟨rfl, hwq⟩
                            subst hwq
                            go_wp2
                            as_aux_lemma =>
                              go_loopg [24, 25] (es'.length) (fun g v24 v25 wx => ∃ (l1 l2 : List Ent) (r j : Nat), Hid (es' = l1 ++ l2) ∧ Hid (l2.length = g) ∧ v24 = .int .i64 j ∧ Hid (j = l1.length) ∧ v25 = headPt (l2.map (·.e)) ∧ wx = wq.drewN r)
                              case atStart => exact ⟨[], es', 0, 0, rfl, rfl, rfl, rfl, rfl, rfl⟩
                              case round =>
                                obtain ⟨l1, l2, r, jj, hes, hlen, rfl, hjj, rfl, rfl⟩ := hrel
                                have BD : Hid (Below wq.heap.size wq (wq.drewN r)) := below_drewN (Below.refl _ wq) r
                                have BD2 : Hid (Below wq.heap.size wq (wq.drewN r).drew) := BD.out.drew
                                cases l2 with
                                | cons x l2 =>
                                  obtain ⟨xe, xo, xoff, xl⟩ := x
                                  have hxm : (⟨xe, xo, xoff, xl⟩ : Ent) ∈ es' := by rw [hes.out]; simp
                                  have hll := congrArg List.length hes.out
                                  rw [List.length_append, List.length_cons] at hll
                                  have hjl : jj < j := by have := hle2.out; have := hjj.out; omega
                                  have kd := KZ.out.below BD2.out
                                  have OF := hide (offset_zz xe xo xoff (wq.drewN r).drew (kd.val _ hxm).cell (kd.off _ hxm).cell)
                                  have NX := hide (next_zz (cb := cb) (l1 := l1.map (·.e)) (l2 := l2.map (·.e)) (y := xe) (w := (wq.drewN r).drew) (by
                                    have h1 := kd.list.ring (by rw [hes.out]; simp)
                                    rw [hes.out, List.map_append] at h1
                                    exact h1))
                                  have d1 : wq.cell? ⟨cb + 1, jj, none⟩ = some (.int .i64 xoff) := by
                                    have hjm : jj < ms.length := by have := hlm.out; omega
                                    rw [MZ.out.offCell hjm]
                                    have e5 : ms[jj].1 = xoff := by
                                      have e6 : ms[jj]? = some (xoff, xl + 128) := by
                                        rw [← HMS.out, hes.out, List.map_append, List.getElem?_append_right (by rw [List.length_map, hjj.out]; exact Nat.le_refl _), List.length_map, hjj.out, Nat.sub_self]
                                        rfl
                                      rw [List.getElem?_eq_getElem hjm] at e6
                                      simp only [Option.some.injEq] at e6
                                      rw [e6]
                                    rw [e5]
                                  have hlen2 : Hid (l2.length < gk) := by have := hlen.out; simp at this; show _ < _; omega
                                  have HES2 : Hid (es' = (l1 ++ [(⟨xe, xo, xoff, xl⟩ : Ent)]) ++ l2) := by show _ = _; rw [hes.out]; simp
                                  have HJ2 : Hid (jj + 1 = (l1 ++ [(⟨xe, xo, xoff, xl⟩ : Ent)]).length) := by show _ = _; rw [List.length_append, hjj.out]; rfl
                                  have bj : j ≤ 4097 := by have := bl.out; have := hle2.out; omega
                                  clear hxm hll kd hlen
                                  simp only [List.map_cons, headPt_cons]
                                  as_aux_lemma =>
                                    go_wp2_with fail
                                    go_region_held3 (fun W => W.cell? ⟨cb + 1, jj, none⟩ = some (.int .i64 xoff)) (first | exact (by assumption) | go_keep) ((first
                                      | (go_at_call 23; refine OF.out.mono ?_; rintro e wk ⟨rfl, hwk⟩; subst hwk)))
                                    all_goals
                                      go_wp2_with fail
                                      refine NX.out.mono ?_
                                      rintro e wl ⟨rfl, hwl⟩
                                      subst hwl
                                      go_wp2
                                      go_roundg (l2.length)
                                      case measure => exact hlen2.out
                                      case rel => exact ⟨l1 ++ [⟨xe, xo, xoff, xl⟩], l2, r + 1, jj + 1, HES2, rfl, by go_num, HJ2, rfl, rfl⟩
                                | nil =>
                                  have e7 : jj = j := by have h1 := hes.out; have := hjj.out; have := hle2.out; rw [List.append_nil] at h1; rw [← h1] at *; omega
                                  subst e7
                                  have R1 : Hid (Kept Own cb 0 es' (wq.drewN r)) := KZ.out.below BD.out
                                  have R2 : Hid (Mod (wq.drewN r) (cb + 1) (cb + 2) n (es'.map pr)) := by show Mod _ _ _ _ _; rw [HMS.out]; exact MZ.out.blocks rfl rfl
                                  have R3 : Hid (Turned (fun k => cb ≤ k) w6 (wq.drewN r)) := TZ.out.below BD.out
                                  clear hes hlen hjj
                                  simp only [List.map_nil, headPt_nil]
                                  as_aux_lemma =>
                                    go_wp2
                                    go_roundw
                                    case rel => exact ⟨k + 1, es', _, by omega, by go_num, rfl, rfl, hle2, R1, QZ, R2, R3⟩
                                    case measure => simp [intOf]; omega
end Go.Proofs.Qxb6614306a
