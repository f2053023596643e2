/-
  FnObjectCacheReadAddGoesFrontEvictsFromBack (5), walked.
-/
import Derived.Test.Qxb6614306aAny
import Derived.Test.Qxb6614306aOps
import Derived.Maps.AppendAt
namespace Go.Proofs.Qxb6614306a
open Go.RowKit Go.WideShapes
open Go.ChangeMaps (setBlock)
set_option linter.unusedVariables false

theorem Try.info2 : (Try.prog.info? 2).map (fun i => (i.zero, i.size, i.bytes)) = some (some (.int .i64 0), 1, 8) := by kernel_rfl

/-- the ops, where there are any -/
def Laid (w : World) (ao : Option Addr) (n : Nat) (I : Nat → Int) (A : Nat → Option Addr) (L C M : Nat → Nat) (R : Nat → Bool) : Prop :=
  0 < n → ∃ b o, ao = some ⟨b, o, none⟩ ∧ b < w.heap.size ∧ AOps w b o n I A L C M R

theorem Laid.below {w w' : World} {ao : Option Addr} {n : Nat} {I : Nat → Int} {A : Nat → Option Addr} {L C M : Nat → Nat} {R : Nat → Bool} (h : Laid w ao n I A L C M R) (g : Below w.heap.size w w') : Laid w' ao n I A L C M R := fun hn => by
  obtain ⟨b, o, e, hb, hc⟩ := h hn
  refine ⟨b, o, e, Nat.lt_of_lt_of_le hb g.size, fun k hk => ?_⟩
  obtain ⟨c0, c1, c2, c3⟩ := hc k hk
  exact ⟨(g.cell (p := ⟨b, o + k * 4, none⟩) hb).trans c0, (g.cell (p := ⟨b, o + k * 4 + 1, none⟩) hb).trans c1, (g.cell (p := ⟨b, o + k * 4 + 2, none⟩) hb).trans c2, (g.cell (p := ⟨b, o + k * 4 + 3, none⟩) hb).trans c3⟩

theorem bound24 (ao : Option Addr) (n c : Nat) (off : Int) (bo : Option Addr) (m d : Nat) (lim : Value) (I : Nat → Int) (A : Nat → Option Addr) (L C M : Nat → Nat) (R : Nat → Bool) (w : World) (h : Laid w ao n I A L C M R) (hL : ∀ k, k < n → L k ≤ 9223372036854775807) (hn : n ≤ 9223372036854775807) (hm : m ≤ 9223372036854775807) :
    Calls Try.prog 24 #[.slice ao n c, .int .i64 off, .slice bo m d, lim] w (SaysOne n L w) := by
  by_cases h1 : 1048576 < n
  · exact bound24_long L ao n c off bo m d lim w hn h1
  · by_cases h0 : n = 0
    · subst h0
      exact bound24_none L ao c off bo m d lim w hm
    · obtain ⟨b, o, rfl, _, hc⟩ := h (by omega)
      exact bound24_some b o n c off bo m d lim I A L C M R w hc hL (by omega) hm

/-- what cloneAddOps hands back -/
def ClonedA (n : Nat) (I : Nat → Int) (L M : Nat → Nat) (R : Nat → Bool) (w : World) (e : Ending) (w' : World) : Prop :=
  ∃ ao' c' A' C', e = .returned (.slice ao' n c') ∧ Laid w' ao' n I A' L C' M R ∧ Below w.heap.size w w'

theorem cloneA {S : Nat → Prop} (ao : Option Addr) (n c : Nat) (I : Nat → Int) (A : Nat → Option Addr) (L C M : Nat → Nat) (R : Nat → Bool) (z : Nat → Option (List Int)) (w : World) (h : Laid w ao n I A L C M R) (hao : ao = none → n = 0 ∧ c = 0) (hn : n ≤ 1048576)
    (hS : ∀ b, S b → b < w.heap.size) (hz : ∀ k, k < n → L k ≤ 1048576 ∧ BytesAt S w (A k) (L k) (C k) (z k)) :
    Calls Try.prog 15 #[.slice ao n c] w (ClonedA n I L M R w) := by
  cases ao with
  | none =>
    obtain ⟨rfl, rfl⟩ := hao rfl
    refine (cloneA_nil w).mono ?_
    rintro e w' ⟨rfl, rfl⟩
    exact ⟨none, 0, A, C, rfl, fun h => absurd h (Nat.not_lt_zero _), Below.refl _ _⟩
  | some x =>
    refine (cloneA_some (S := S) x n c I A L C M R z w (fun h0 => by
      obtain ⟨b, o, e, hb, hc⟩ := h h0
      simp only [Option.some.injEq] at e
      exact ⟨b, o, e, hb, hc⟩) hn hS hz).mono ?_
    rintro e w' ⟨rfl, ⟨f, A', C', hcl⟩, hb⟩
    refine ⟨_, _, A', C', rfl, fun _ => ⟨w.heap.size, 0, rfl, hcl.row.lt, fun k hk => ⟨?_, ?_, ?_, ?_⟩⟩, hb⟩
    · rw [Nat.zero_add, hcl.row.cell (by omega), hcl.x0 k hk]
    · rw [Nat.zero_add, hcl.row.cell (by omega), hcl.x1 k hk]
    · rw [Nat.zero_add, hcl.row.cell (by omega), hcl.x2 k hk]
    · rw [Nat.zero_add, hcl.row.cell (by omega), hcl.x3 k hk]

/-- an add of an object that was made just before -/
theorem add_new {Own : Nat → Prop} {cb : Nat} {es : List Ent} {w w5 : World} {cs : Array Value} (off : Int) (ao : Option Addr) (len c lim : Nat) (read : Bool) (hk : Kept Own cb 0 es w) (hw5 : w5 = w.alloc (.cells cs 92)) (m0 : cs[0]? = some (.int .i64 off)) (m2 : cs[2]? = some (.slice ao len c))
    (hl : len ≤ 1048576) (hes : es.length ≤ 1048575) (ht : total es ≤ 1099511627776) (hlim : lim < 18446744073709551616) (hOwn : ∀ k, w.heap.size ≤ k → Own k) :
    Calls Try.prog 17 #[pt cb 0, pt w.heap.size 0, .int .u64 lim, .bool read] w5 (Adds Own cb es off len lim w.heap.size read w5) := by
  have hb : Below w.heap.size w w5 := by rw [hw5]; exact (Below.refl _ w).alloc (Nat.le_refl _) _
  have ho : Has w5 w.heap.size 0 (.int .i64 off) := by rw [hw5]; exact ⟨cs, 92, Go.Deep.blk_alloc_new _ _, m0⟩
  have hc : Has w5 w.heap.size 2 (.slice ao len c) := by rw [hw5]; exact ⟨cs, 92, Go.Deep.blk_alloc_new _ _, m2⟩
  refine add_zz cb w.heap.size len c lim ao off read es w5 (hk.below hb) ho hc ?_ ?_ hl hes ht (fun k hk => hOwn k (Nat.le_trans hb.size hk)) hlim
  · have := hk.mu.lt; omega
  · intro hm
    obtain ⟨z, hz, e⟩ := List.mem_map.1 hm
    have := (hk.val z hz).lt
    omega

theorem headPt_nil : headPt [] = .pointer none := rfl
theorem headPt_cons (y : Nat) (l : List Nat) : headPt (y :: l) = pt y 0 := rfl

theorem sumTo_le (L : Nat → Nat) : ∀ k n, k ≤ n → sumTo L k ≤ sumTo L n
  | k, 0, h => by obtain rfl : k = 0 := by omega
                  exact Nat.le_refl _
  | k, n + 1, h => by
    by_cases e : k = n + 1
    · rw [e]; exact Nat.le_refl _
    · have := sumTo_le L k n (by omega)
      simp only [sumTo]
      omega

theorem own_form {w : World} {B : Nat} {v : Value} {l : List Ent} (h : w.ownsRow B 2 1 v l.length (l.map fun x => Value.int .i64 x.off)) :
    ∃ ao c, v = .slice ao l.length c ∧ (0 < l.length → ∃ g, ao = some ⟨g, 0, none⟩ ∧ ∀ j, (hj : j < l.length) → w.cell? ⟨g, j, none⟩ = some (.int .i64 (l[j]).off)) := by
  rcases h.2 with ⟨rfl, h0⟩ | ⟨g, cap, cur, rfl, _, hg, _, _, _, ht⟩
  · exact ⟨none, 0, by rw [h0], fun h1 => by omega⟩
  · refine ⟨_, cap, rfl, fun _ => ⟨g, rfl, fun j hj => ?_⟩⟩
    rw [cell_of_row _ _ j cur 2 (0, 0) hg]
    have e : (cur.toList.take (l.length * 1))[j]? = (l.map fun x => Value.int .i64 x.off)[j]? := by rw [ht]
    rw [List.getElem?_take_of_lt (by omega)] at e
    simpa [hj] using e

theorem own_block {w w' : World} {B n : Nat} {v : Value} {xs : List Value} (h : w.ownsRow B 2 1 v n xs) (hb : ∀ g, v.ownBlock = some g → w'.heap[g]? = w.heap[g]?) : w'.ownsRow B 2 1 v n xs := by
  refine ⟨h.1, ?_⟩
  rcases h.2 with hn | ⟨g, cap, cur, rfl, hB, hg, rest⟩
  · exact .inl hn
  · exact .inr ⟨g, cap, cur, rfl, hB, (hb g rfl).trans hg, rest⟩

theorem Cut.all {es : List Ent} {room k : Nat} (h : Cut es room k) (hr : total es ≤ room) : k = es.length := by
  rcases h.2.2 with e | e
  · exact e
  · have := total_take_le es (k + 1); omega

/-- the input of the law on a front add -/
structure FIn (w : World) (ao : Option Addr) (n c : Nat) (I : Nat → Int) (A : Nat → Option Addr) (L C M : Nat → Nat) (R : Nat → Bool) (z : Nat → Option (List Int)) (bo : Option Addr) (m d : Nat) (y : Option (List Int)) : Prop where
  laid : Laid w ao n I A L C M R
  nil : ao = none → n = 0 ∧ c = 0
  con : ∀ k, k < n → BytesAt (fun b => b < w.heap.size) w (A k) (L k) (C k) (z k)
  lim : ∀ k, k < n → M k < 18446744073709551616
  own : BytesAt (fun b => b < w.heap.size) w bo m d y

set_option maxHeartbeats 2000000 in
set_option maxRecDepth 100000 in
theorem front_law (ao : Option Addr) (n c : Nat) (I : Nat → Int) (A : Nat → Option Addr) (L C M : Nat → Nat) (R : Nat → Bool) (z : Nat → Option (List Int)) (offset : Int) (bo : Option Addr) (m d : Nat) (y : Option (List Int)) (limit : Nat) (w : World)
    (h : Hid (FIn w ao n c I A L C M R z bo m d y)) (hL : Hid (∀ k, k < n → L k ≤ 9223372036854775807)) (hn : n ≤ 9223372036854775807) (hm : m ≤ 9223372036854775807) (hlimit : limit < 18446744073709551616) :
    Calls Try.prog 5 #[.slice ao n c, .int .i64 offset, .slice bo m d, .int .u64 limit] w fun e w' => e = .returned (.bool true) ∧ Below w.heap.size w w' := by
  go_enter Try.func5, Try.ntmps5
  go_wp2_with fail
  refine (bound24 ao n c offset bo m d _ I A L C M R w h.out.laid hL.out hn hm).mono ?_
  rintro e w1 ⟨a, rfl, hsm, rfl⟩
  cases a with
  | false =>
    clear hsm
    go_wp2
    go_ret
    exact ⟨rfl, Below.refl _ _⟩
  | true =>
    have HSM := hide (hsm rfl)
    clear hsm
    by_cases hn4 : n ≤ 4096
    case neg =>
      go_wp2
      go_ret
      exact ⟨rfl, Below.refl _ _⟩
    by_cases hm2 : m ≤ 1048576
    case neg =>
      go_wp2
      go_ret
      exact ⟨rfl, Below.refl _ _⟩
    by_cases hs0 : n * 48 + m ≤ 1048576
    case neg =>
      go_wp2
      go_ret
      exact ⟨rfl, Below.refl _ _⟩
    go_wp2
    go_loop [9, 10] (fun t i => ∃ k s : Nat, k ≤ n ∧ i = .int .i64 k ∧ t = .int .i64 s ∧ s ≤ 1048576 ∧ Hid (s = n * 48 + m + sumTo L k)) (fun _ i => n - (intOf i).toNat)
    case atStart => exact ⟨0, n * 48 + m, Nat.zero_le _, rfl, by go_num, hs0, by show _ = _; simp [sumTo]⟩
    case round =>
      obtain ⟨k, s, hk, rfl, rfl, hs, HS⟩ := hrel
      by_cases hlt : k < n
      · obtain ⟨b, o, rfl, _, hc⟩ := h.out.laid (by omega)
        obtain ⟨_, c1, _, _⟩ := hc k hlt
        have hLk := HSM.out k hlt
        obtain ⟨l, hl⟩ : ∃ l, Hid (l = L k) := ⟨_, rfl⟩
        rw [← hl.out] at c1 hLk
        clear hc
        by_cases h2 : s + l ≤ 1048576
        · go_wp2
          go_round
          case rel => exact ⟨k + 1, s + l, by omega, by go_num, by go_num, h2, by have := HS.out; have := hl.out; show _ = _; simp only [sumTo]; omega⟩
          case measure => simp [intOf]; omega
        · go_wp2
          go_ret
          exact ⟨rfl, Below.refl _ _⟩
      · have : n = k := by omega
        subst this
        by_cases hfit : m + 128 ≤ limit
        case neg =>
          go_wp2
          go_ret
          exact ⟨rfl, Below.refl _ _⟩
        obtain ⟨nc, hnc⟩ : ∃ nc, Hid (nc = m + 128) := ⟨_, rfl⟩
        have hncI : (m : Int) + 128 = (nc : Int) := by have := hnc.out; omega
        have hfit2 : nc ≤ limit := by have := hnc.out; omega
        have hnc1 : nc ≤ 1048704 := by have := hnc.out; omega
        have HSUM : Hid (n * 48 + m + sumTo L n ≤ 1048576) := by have := HS.out; show _ ≤ _; omega
        clear hfit hs HS hs0 hL
        go_wp2
        as_aux_lemma =>
          go_loop [12] (fun i => ∃ k : Nat, k ≤ n ∧ i = .int .i64 k ∧ Hid (∀ j, j < k → I j ≠ offset)) (fun i => n - (intOf i).toNat)
          case atStart => exact ⟨0, Nat.zero_le _, rfl, fun j hj => absurd hj (Nat.not_lt_zero _)⟩
          case round =>
            obtain ⟨k, hk, rfl, HI⟩ := hrel
            by_cases hlt : k < n
            · obtain ⟨b, o, rfl, _, hc⟩ := h.out.laid (by omega)
              obtain ⟨c0, _, _, _⟩ := hc k hlt
              clear hc
              by_cases hne : I k = offset
              · rw [hne] at c0
                go_wp2
                go_ret
                exact ⟨rfl, Below.refl _ _⟩
              · have HI' : Hid (∀ j, j < k + 1 → I j ≠ offset) := fun j hj => by
                  by_cases e : j = k
                  · rw [e]; exact hne
                  · exact HI.out j (by omega)
                obtain ⟨ik, hik⟩ : ∃ i, Hid (i = I k) := ⟨_, rfl⟩
                rw [← hik.out] at c0 hne
                go_wp2
                go_round
                case rel => exact ⟨k + 1, by omega, by go_num, HI'⟩
                case measure => simp [intOf]; omega
            · have : n = k := by omega
              subst this
              as_aux_lemma =>
                go_wp2_with fail
                refine (cloneA (S := fun b => b < w.heap.size) ao n c I A L C M R z w h.out.laid h.out.nil (by omega) (fun _ h => h) (fun k hk => ⟨HSM.out k hk, h.out.con k hk⟩)).mono ?_
                rintro e w2 ⟨ao2, c2, A2, C2, rfl, hl2, b2⟩
                have HL2 := hide hl2
                have B2 := hide b2
                clear hl2 b2
                go_wp2_with fail
                refine (clone_any (S := fun b => b < w.heap.size) bo m d y w2 (h.out.own.keep (fun _ h => h) (fun b hb => B2.out.block b hb)) hm2 (fun b hb => Nat.lt_of_lt_of_le hb B2.out.size)).mono ?_
                rintro e w3 ⟨bo3, d3, rfl, _, b3⟩
                have B3 : Hid (Below w.heap.size w w3) := B2.out.trans (b3.mono B2.out.size)
                have HL3 : Hid (Laid w3 ao2 n I A2 L C2 M R) := HL2.out.below b3
                clear b3 HL2 B2
                go_wp2_with fail
                refine (cache_new w3).mono ?_
                rintro e w4 ⟨cc, rfl, hw4, q0, q2, q3, q4, q5, q8⟩
                obtain ⟨cb, hcb⟩ : ∃ cb, Hid (cb = w3.heap.size) := ⟨_, rfl⟩
                rw [← hcb.out]
                have K4 : Hid (Kept (fun k => cb ≤ k) cb 0 [] w4) := by
                  show Kept _ _ _ _ _
                  rw [hw4, hcb.out]
                  exact kept_new w3 cc q0 q2 q3 q4 q5 q8 (Nat.le_refl _)
                have B4' : Below w3.heap.size w3 w4 := by rw [hw4]; exact (Below.refl _ w3).alloc (Nat.le_refl _) _
                have HL4 : Hid (Laid w4 ao2 n I A2 L C2 M R) := HL3.out.below B4'
                have HL4b : Hid (0 < n → ∃ b o, ao2 = some ⟨b, o, none⟩ ∧ b < cb ∧ AOps w4 b o n I A2 L C2 M R) := fun h0 => by
                  obtain ⟨b, o, e, hb, _⟩ := HL3.out h0
                  obtain ⟨b', o', e', _, hc'⟩ := HL4.out h0
                  rw [e] at e'
                  simp only [Option.some.injEq, Addr.mk.injEq] at e'
                  obtain ⟨rfl, rfl, _⟩ := e'
                  exact ⟨b, o, e, by rw [hcb.out]; exact hb, hc'⟩
                have B4 : Hid (Below w.heap.size w w4) := B3.out.trans (B4'.mono B3.out.size)
                have W4 : Hid (w.heap.size ≤ cb) := by show _ ≤ _; rw [hcb.out]; exact B3.out.size
                have HLIM := hide h.out.lim
                clear hw4 q0 q2 q3 q4 q5 q8 B4' HL3 HL4 B3 h
                go_wp2
                as_aux_lemma =>
                  go_loopw [14] (fun i wr => ∃ (k : Nat) (es : List Ent), k ≤ n ∧ i = .int .i64 k ∧ Hid (Kept (fun k => cb ≤ k) cb 0 es wr) ∧ Hid (es.length ≤ k ∧ total es ≤ sumTo L k + 128 * k ∧ offset ∉ es.map (·.off)) ∧ Hid (Turned (fun k => cb ≤ k) w4 wr)) (fun i _ => n - (intOf i).toNat)
                  case atStart => exact ⟨0, [], Nat.zero_le _, rfl, K4, ⟨Nat.le_refl _, by simp [total], by simp⟩, Turned.refl _ _⟩
                  case round =>
                    clear K4
                    obtain ⟨k, es, hk, rfl, HKP, HQ, HT⟩ := hrel
                    by_cases hlt : k < n
                    · obtain ⟨b, o, rfl, hb, hc⟩ := HL4b.out (by omega)
                      obtain ⟨c0, c1, c2, c3⟩ := hc k hlt
                      have hbw : b < w4.heap.size := World.block_lt_of_cell? w4 _ c0
                      have hblk : wr.heap[b]? = w4.heap[b]? := HT.out.block b hbw (by omega)
                      obtain ⟨ik, hik⟩ : ∃ i, Hid (i = I k) := ⟨_, rfl⟩
                      obtain ⟨lk, hlk⟩ : ∃ i, Hid (i = L k) := ⟨_, rfl⟩
                      obtain ⟨mk, hmk⟩ : ∃ i, Hid (i = M k) := ⟨_, rfl⟩
                      obtain ⟨rk, hrk⟩ : ∃ i, Hid (i = R k) := ⟨_, rfl⟩
                      have g0 : wr.cell? ⟨b, o + k * 4, none⟩ = some (.int .i64 ik) := by rw [hik.out, ← c0]; exact World.cell?_of_block (w := w4) hblk
                      have g1 : wr.cell? ⟨b, o + k * 4 + 1, none⟩ = some (.slice (A2 k) lk (C2 k)) := by rw [hlk.out, ← c1]; exact World.cell?_of_block (w := w4) hblk
                      have g2 : wr.cell? ⟨b, o + k * 4 + 2, none⟩ = some (.int .u64 mk) := by rw [hmk.out, ← c2]; exact World.cell?_of_block (w := w4) hblk
                      have g3 : wr.cell? ⟨b, o + k * 4 + 3, none⟩ = some (.bool rk) := by rw [hrk.out, ← c3]; exact World.cell?_of_block (w := w4) hblk
                      have blk : lk ≤ 1048576 := by rw [hlk.out]; exact HSM.out k hlt
                      have bmk : mk < 18446744073709551616 := by rw [hmk.out]; exact HLIM.out k hlt
                      have hbr : b < wr.heap.size := World.block_lt_of_cell? wr _ g0
                      have HBR := hide hbr
                      have HBC := hide hb
                      have HSM2 : Hid (es.length ≤ 1048575 ∧ total es ≤ 1099511627776) := ⟨by have := HQ.out.1; omega, by have := HQ.out.2.1; have := HSUM.out; have := sumTo_le L k n (by omega); omega⟩
                      clear hc c0 c1 c2 c3 hbw hblk hbr hb
                      go_wp2_with fail
                      go_region_held3 (fun W => W.cell? ⟨b, o + k * 4, none⟩ = some (.int .i64 ik) ∧ W.cell? ⟨b, o + k * 4 + 1, none⟩ = some (.slice (A2 k) lk (C2 k)) ∧ W.cell? ⟨b, o + k * 4 + 2, none⟩ = some (.int .u64 mk) ∧ W.cell? ⟨b, o + k * 4 + 3, none⟩ = some (.bool rk)) (first | exact ⟨by assumption, by assumption, by assumption, by assumption⟩ | go_keep) ((first
                        | (go_at_call 18; refine (made_new ik (A2 k) lk (C2 k) wr.drew).mono ?_; rintro e w5 ⟨cs5, rfl, hw5, m0, m2⟩; have b5 : Below wr.heap.size wr w5 := (by rw [hw5]; exact ((Below.refl _ wr).drew).alloc (Nat.le_refl _) _); have ADD := hide (add_new ik (A2 k) lk (C2 k) mk rk HKP.out.drew hw5 m0 m2 blk HSM2.out.1 HSM2.out.2 bmk (fun i hi => Nat.le_trans (Nat.le_of_lt HKP.out.mu.lt) hi)); have t0 := (b5.cell (p := ⟨b, o + k * 4, none⟩) HBR.out).trans g0; have t1 := (b5.cell (p := ⟨b, o + k * 4 + 1, none⟩) HBR.out).trans g1; have t2 := (b5.cell (p := ⟨b, o + k * 4 + 2, none⟩) HBR.out).trans g2; have t3 := (b5.cell (p := ⟨b, o + k * 4 + 3, none⟩) HBR.out).trans g3; have B5 := hide b5; clear hw5 m0 m2 b5)
                        | (go_at_call 17; refine ADD.out.mono ?_; rintro e w6 ⟨ans, es', rfl, had, hkp, htn⟩; have hblk6 : w6.heap[b]? = w5.heap[b]? := htn.block b (Nat.lt_of_lt_of_le HBR.out B5.out.size) (by have := HBC.out; omega); have y0 : w6.cell? ⟨b, o + k * 4, none⟩ = some (.int .i64 ik) := (World.cell?_of_block (w := w5) hblk6).trans t0; have y1 : w6.cell? ⟨b, o + k * 4 + 1, none⟩ = some (.slice (A2 k) lk (C2 k)) := (World.cell?_of_block (w := w5) hblk6).trans t1; have y2 : w6.cell? ⟨b, o + k * 4 + 2, none⟩ = some (.int .u64 mk) := (World.cell?_of_block (w := w5) hblk6).trans t2; have y3 : w6.cell? ⟨b, o + k * 4 + 3, none⟩ = some (.bool rk) := (World.cell?_of_block (w := w5) hblk6).trans t3; have HAD := hide had; have HKP6 := hide hkp; have HT6 := hide htn; clear had hkp htn hblk6)))
                      have F1 : Hid (es'.length ≤ k + 1 ∧ total es' ≤ sumTo L (k + 1) + 128 * (k + 1) ∧ offset ∉ es'.map (·.off)) := by
                        refine ⟨?_, ?_, fun hm => ?_⟩
                        · have := HAD.out.len; have := HQ.out.1; omega
                        · have := HAD.out.total; have := HQ.out.2.1; have := hlk.out; simp only [sumTo]; omega
                        · rcases HAD.out.offs hm with e | e
                          · exact HI.out k hlt (by rw [e, hik.out])
                          · exact HQ.out.2.2 e
                      have F2 : Hid (Turned (fun k => cb ≤ k) w4 w6) := (HT.out.below B5.out).trans HT6.out (fun i h => .inl h)
                      clear t0 t1 t2 t3 y0 y1 y2 y3 g0 g1 g2 g3 ADD
                      go_wp2
                      go_roundw
                      case rel => exact ⟨k + 1, es', by omega, by go_num, HKP6, F1, F2⟩
                      case measure => simp [intOf]; omega
                    · have : n = k := by omega
                      subst this
                      go_wp2_with fail
                      refine (front_zz HKP.out.list (by have := HQ.out.1; rw [List.length_map]; omega)).mono ?_
                      rintro e wq ⟨rfl, hwq⟩
                      subst hwq
                      obtain ⟨i0, hi, hz0, hz1, hz2⟩ := info_parts Try.info2
                      go_wp2
                      as_aux_lemma =>
                        go_loopg [15, 16] (es.length) (fun g vb ve wx => ∃ l1 l2 : List Ent, Hid (es = l1 ++ l2) ∧ Hid (l2.length = g) ∧ ve = headPt (l2.map (·.e)) ∧ Hid (wx.ownsRow wq.heap.size 2 1 vb l1.length (l1.map fun x => Value.int .i64 x.off)) ∧ Hid (Below wq.heap.size wq wx))
                        case atStart => exact ⟨[], es, rfl, rfl, rfl, World.ownsRow_nil _ _ _ _, Below.refl _ _⟩
                        case round =>
                          obtain ⟨l1, l2, hes, hlen, rfl, HOW, HB⟩ := hrel
                          cases l2 with
                          | cons x l2 =>
                            obtain ⟨xe, xo, xoff, xl⟩ := x
                            have kx := HKP.out.below HB.out
                            have hxm : (⟨xe, xo, xoff, xl⟩ : Ent) ∈ es := by rw [hes.out]; simp
                            have v3 : wr.cell? ⟨xe, 3, none⟩ = some (.iface 47 (pt xo 0)) := (kx.val _ hxm).cell
                            have v0 : wr.cell? ⟨xo, 0, none⟩ = some (.int .i64 xoff) := (kx.off _ hxm).cell
                            have OF := hide (offset_zz xe xo xoff wr v3 v0)
                            have KX := hide kx
                            have hl1 : Hid (l1.length ≤ 1048576) := by
                              have h1 := congrArg List.length hes.out
                              rw [List.length_append] at h1
                              have := HQ.out.1
                              show _ ≤ _
                              omega
                            have hlen2 : Hid (l2.length < gk) := by have := hlen.out; simp at this; show _ < _; omega
                            clear kx hxm v3 v0 hlen
                            simp only [List.map_cons, headPt_cons]
                            as_aux_lemma =>
                              go_wp2_with fail
                              refine OF.out.mono ?_
                              rintro e wo ⟨rfl, hwo⟩
                              subst hwo
                              go_wp2_with (at_builtin; refine wpList_append_own_at _ rfl _ _ 44 rfl wq.heap.size 2 i0 (.int .i64 0) 1 8 Try.underlying44 hi hz0 hz1 hz2 rfl (by decide) _ _ _ rfl (World.ownsRow.alloc HOW.out _) ⟨wo.heap.size, 0, none⟩ 1 1 [Value.int .i64 xoff] rfl rfl ?c1 ?c2 ?c3 ?c4 ?c5 ?_)
                              case c1 =>
                                intro j u hj
                                match j, hj with
                                | 0, hj => simp at hj; subst hj; simp [Addr.add]
                              case c2 => intro u hu; simp at hu; subst hu; rfl
                              case c3 => have := hl1.out; unfold maxLen; omega
                              case c4 => have := hl1.out; omega
                              case c5 => have := HB.out.size; simp; omega
                              intro v' wn hown' hgrow _ _
                              have OWN2 : Hid (wn.ownsRow wq.heap.size 2 1 v' (l1 ++ [(⟨xe, xo, xoff, xl⟩ : Ent)]).length ((l1 ++ [(⟨xe, xo, xoff, xl⟩ : Ent)]).map fun x => Value.int .i64 x.off)) := by
                                show World.ownsRow _ _ _ _ _ _ _
                                rw [List.length_append, List.map_append]
                                exact hown'
                              have BN : Hid (Below wq.heap.size wq wn) := (HB.out.alloc HB.out.size _).grown hgrow (by have := HB.out.size; simp; omega) (fun k hk => (World.ownsRow.lt HOW.out k hk).1)
                              have NX := hide (next_zz (cb := cb) (l1 := l1.map (·.e)) (l2 := l2.map (·.e)) (y := xe) (w := wn) (by
                                have h1 := (HKP.out.below BN.out).list.ring (by rw [hes.out]; simp)
                                rw [hes.out, List.map_append] at h1
                                exact h1))
                              have HES2 : Hid (es = (l1 ++ [(⟨xe, xo, xoff, xl⟩ : Ent)]) ++ l2) := by show _ = _; rw [hes.out]; simp
                              clear hown' hgrow
                              go_wp2_with fail
                              refine NX.out.mono ?_
                              rintro e wp ⟨rfl, hwp⟩
                              subst hwp
                              go_wp2
                              go_roundg (l2.length)
                              case measure => exact hlen2.out
                              case rel => exact ⟨l1 ++ [⟨xe, xo, xoff, xl⟩], l2, HES2, rfl, rfl, OWN2, BN⟩
                          | nil =>
                            have hes2 : es = l1 := by have := hes.out; simpa using this
                            subst hes2
                            clear hes hlen
                            simp only [List.map_nil, headPt_nil]
                            as_aux_lemma =>
                              obtain ⟨T, hT⟩ : ∃ T, Hid (T = total es) := ⟨_, rfl⟩
                              have bT : T ≤ 1099511627776 := by have := HQ.out.2.1; have := HSUM.out; have := hT.out; omega
                              obtain ⟨OwnB, hOB⟩ : ∃ O : Nat → Prop, Hid (O = fun k => (cb ≤ k ∧ k < wq.heap.size) ∨ wr.heap.size ≤ k) := ⟨_, rfl⟩
                              have KB : Hid (Kept OwnB cb 0 es wr) := by
                                show Kept _ _ _ _ _
                                rw [hOB.out]
                                exact (HKP.out.own_to (fun k hk h => .inl ⟨h, hk⟩)).below HB.out
                              have cT := KB.out.bytes.cell
                              rw [← hT.out] at cT
                              have HLQ : Hid (es.length ≤ 4096) := by have := HQ.out.1; show _ ≤ _; omega
                              have HNO : Hid (offset ∉ es.map (·.off)) := HQ.out.2.2
                              have HT9 : Hid (Turned (fun k => cb ≤ k) w4 wr) := HT.out.below HB.out
                              clear HQ HT HKP HSM HLIM HI HL4b
                              go_wp2_with fail
                              refine (bytes_ok cb T wr cT).mono ?_
                              rintro e wo ⟨rfl, hwo⟩
                              subst hwo
                              go_wp2_with fail
                              refine (made_new offset bo3 m d3 wo).mono ?_
                              rintro e w5 ⟨cs5, rfl, hw5, m0, m2⟩
                              have B5 : Hid (Below wo.heap.size wo w5) := by show Below _ _ _; rw [hw5]; exact (Below.refl _ wo).alloc (Nat.le_refl _) _
                              have ADD := hide (add_new offset bo3 m d3 limit true KB.out hw5 m0 m2 hm2 (by have := HLQ.out; omega) (by rw [← hT.out]; exact bT) hlimit (fun i hi => by rw [hOB.out]; exact .inr hi))
                              clear hw5 m0 m2 cT
                              go_wp2_with fail
                              refine ADD.out.mono ?_
                              rintro e w6 ⟨ans, es2, rfl, had, hkp, htn⟩
                              obtain ⟨rfl, kk, x, hcut, rfl⟩ : ans = true ∧ ∃ k x, Cut es (limit - nc) k ∧ es2 = ⟨x, wo.heap.size, offset, m⟩ :: es.take k := by
                                rcases had with ⟨_, _, h1 | h1 | h1⟩ | ⟨e1, _, _, _, k, x, h1, h2⟩
                                · have := hnc.out; omega
                                · exact absurd h1.1 (by decide)
                                · exact absurd h1 HNO.out
                                · exact ⟨e1, k, x, by rw [hnc.out]; exact h1, h2⟩
                              have BEF6 : Hid (w6.ownsRow wq.heap.size 2 1 u15 es.length (es.map fun x => Value.int .i64 x.off)) := own_block (own_block HOW.out (fun g hg => B5.out.block g (World.ownsRow.lt HOW.out g hg).2)) (fun g hg => htn.block g (Nat.lt_of_lt_of_le (World.ownsRow.lt HOW.out g hg).2 B5.out.size) (by
                                have h1 := World.ownsRow.lt HOW.out g hg
                                rw [hOB.out]
                                rintro (⟨_, h2⟩ | h2)
                                · omega
                                · omega))
                              have K6 : Hid (Kept OwnB cb 0 (⟨x, wo.heap.size, offset, m⟩ :: es.take kk) w6) := hkp
                              have T6 : Hid (Turned (fun k => cb ≤ k) w4 w6) := (HT9.out.below B5.out).trans htn (fun i h => by
                                rw [hOB.out] at h
                                rcases h with h | h
                                · exact .inl h.1
                                · exact .inl (Nat.le_trans (Nat.le_of_lt KB.out.mu.lt) h))
                              have HCUT := hide hcut
                              have HL2 : Hid ((⟨x, wo.heap.size, offset, m⟩ :: es.take kk : List Ent).length ≤ 4097) := by have := HLQ.out; show _ ≤ _; simp; omega
                              obtain ⟨es2, hes2⟩ : ∃ l, Hid (l = (⟨x, wo.heap.size, offset, m⟩ :: es.take kk : List Ent)) := ⟨_, rfl⟩
                              rw [← hes2.out] at K6 HL2
                              clear had hkp htn hcut ADD HOW HT9 HB B5 KB
                              go_wp2_with fail
                              refine (front_zz K6.out.list (by have := HL2.out; rw [List.length_map]; omega)).mono ?_
                              rintro e wq2 ⟨rfl, hwq2⟩
                              subst hwq2
                              obtain ⟨i0, hi, hz0, hz1, hz2⟩ := info_parts Try.info2
                              go_wp2
                              as_aux_lemma =>
                                go_loopg [19, 20] (es2.length) (fun g vb ve wx => ∃ l1 l2 : List Ent, Hid (es2 = l1 ++ l2) ∧ Hid (l2.length = g) ∧ ve = headPt (l2.map (·.e)) ∧ Hid (wx.ownsRow wq2.heap.size 2 1 vb l1.length (l1.map fun x => Value.int .i64 x.off)) ∧ Hid (Below wq2.heap.size wq2 wx))
                                case atStart => exact ⟨[], es2, rfl, rfl, rfl, World.ownsRow_nil _ _ _ _, Below.refl _ _⟩
                                case round =>
                                  obtain ⟨l1, l2, hes, hlen, rfl, HOW, HB⟩ := hrel
                                  cases l2 with
                                  | cons x l2 =>
                                    obtain ⟨xe, xo, xoff, xl⟩ := x
                                    have kx := K6.out.below HB.out
                                    have hxm : (⟨xe, xo, xoff, xl⟩ : Ent) ∈ es2 := by rw [hes.out]; simp
                                    have v3 : wr.cell? ⟨xe, 3, none⟩ = some (.iface 47 (pt xo 0)) := (kx.val _ hxm).cell
                                    have v0 : wr.cell? ⟨xo, 0, none⟩ = some (.int .i64 xoff) := (kx.off _ hxm).cell
                                    have OF := hide (offset_zz xe xo xoff wr v3 v0)
                                    have hl1 : Hid (l1.length ≤ 1048576) := by
                                      have h1 := congrArg List.length hes.out
                                      rw [List.length_append] at h1
                                      have := HL2.out
                                      show _ ≤ _
                                      omega
                                    have hlen2 : Hid (l2.length < gk) := by have := hlen.out; simp at this; show _ < _; omega
                                    clear kx hxm v3 v0 hlen
                                    simp only [List.map_cons, headPt_cons]
                                    as_aux_lemma =>
                                      go_wp2_with fail
                                      refine OF.out.mono ?_
                                      rintro e wo2 ⟨rfl, hwo2⟩
                                      subst hwo2
                                      go_wp2_with (at_builtin; refine wpList_append_own_at _ rfl _ _ 44 rfl wq2.heap.size 2 i0 (.int .i64 0) 1 8 Try.underlying44 hi hz0 hz1 hz2 rfl (by decide) _ _ _ rfl (World.ownsRow.alloc HOW.out _) ⟨wo2.heap.size, 0, none⟩ 1 1 [Value.int .i64 xoff] rfl rfl ?c1 ?c2 ?c3 ?c4 ?c5 ?_)
                                      case c1 =>
                                        intro j u hj
                                        match j, hj with
                                        | 0, hj => simp at hj; subst hj; simp [Addr.add]
                                      case c2 => intro u hu; simp at hu; subst hu; rfl
                                      case c3 => have := hl1.out; unfold maxLen; omega
                                      case c4 => have := hl1.out; omega
                                      case c5 => have := HB.out.size; simp; omega
                                      intro v' wn hown' hgrow _ _
                                      have OWN2 : Hid (wn.ownsRow wq2.heap.size 2 1 v' (l1 ++ [(⟨xe, xo, xoff, xl⟩ : Ent)]).length ((l1 ++ [(⟨xe, xo, xoff, xl⟩ : Ent)]).map fun x => Value.int .i64 x.off)) := by
                                        show World.ownsRow _ _ _ _ _ _ _
                                        rw [List.length_append, List.map_append]
                                        exact hown'
                                      have BN : Hid (Below wq2.heap.size wq2 wn) := (HB.out.alloc HB.out.size _).grown hgrow (by have := HB.out.size; simp; omega) (fun k hk => (World.ownsRow.lt HOW.out k hk).1)
                                      have NX := hide (next_zz (cb := cb) (l1 := l1.map (·.e)) (l2 := l2.map (·.e)) (y := xe) (w := wn) (by
                                        have h1 := (K6.out.below BN.out).list.ring (by rw [hes.out]; simp)
                                        rw [hes.out, List.map_append] at h1
                                        exact h1))
                                      have HES2 : Hid (es2 = (l1 ++ [(⟨xe, xo, xoff, xl⟩ : Ent)]) ++ l2) := by show _ = _; rw [hes.out]; simp
                                      clear hown' hgrow
                                      go_wp2_with fail
                                      refine NX.out.mono ?_
                                      rintro e wp ⟨rfl, hwp⟩
                                      subst hwp
                                      go_wp2
                                      go_roundg (l2.length)
                                      case measure => exact hlen2.out
                                      case rel => exact ⟨l1 ++ [⟨xe, xo, xoff, xl⟩], l2, HES2, rfl, rfl, OWN2, BN⟩
                                  | nil =>
                                    have hes3 : es2 = l1 := by have := hes.out; simpa using this
                                    subst hes3
                                    clear hes hlen
                                    simp only [List.map_nil, headPt_nil]
                                    as_aux_lemma =>
                                      obtain ⟨wv, rfl⟩ : ∃ wv, wv = wr := ⟨_, rfl⟩
                                      obtain ⟨T2, hT2⟩ : ∃ T, Hid (T = total es2) := ⟨_, rfl⟩
                                      have e2 : T2 = nc + total (es.take kk) := by
                                        rw [hT2.out, hes2.out, hnc.out]
                                        simp only [total]
                                      have hT2lo : nc ≤ T2 := by omega
                                      have hT2hi : T2 ≤ limit := by have := HCUT.out.2.1; omega
                                      have HE2 := hide e2
                                      have K9 : Hid (Kept OwnB cb 0 es2 wv) := K6.out.below HB.out
                                      have cT2 := K9.out.bytes.cell
                                      rw [← hT2.out] at cT2
                                      have BEF : Hid (wv.ownsRow wq.heap.size 2 1 u15 es.length (es.map fun x => Value.int .i64 x.off)) := own_block BEF6.out (fun g hg => HB.out.block g (World.ownsRow.lt BEF6.out g hg).2)
                                      obtain ⟨ba, bc, rfl, hbf⟩ := own_form BEF.out
                                      obtain ⟨aa, ac, rfl, haf⟩ := own_form HOW.out
                                      obtain ⟨ga, rfl, hga⟩ := haf (by rw [hes2.out]; simp)
                                      have HBF := hide hbf
                                      have HGA := hide hga
                                      obtain ⟨nb, hnb⟩ : ∃ n, Hid (n = es.length) := ⟨_, rfl⟩
                                      obtain ⟨na, hna⟩ : ∃ n, Hid (n = es2.length) := ⟨_, rfl⟩
                                      have hkk : kk ≤ nb := by rw [hnb.out]; exact HCUT.out.1
                                      have hnak : na = kk + 1 := by
                                        have := HCUT.out.1
                                        rw [hna.out, hes2.out]
                                        simp
                                        omega
                                      have HNAK := hide hnak
                                      have hnaI : (na : Int) - 1 = (kk : Int) := by omega
                                      have hna0 : ¬ (na : Int) = 0 := by omega
                                      have bna : na ≤ 4097 := by rw [hna.out]; exact HL2.out
                                      have bnb : nb ≤ 4096 := by rw [hnb.out]; exact HLQ.out
                                      have c0 : wv.cell? ⟨ga, 0, none⟩ = some (.int .i64 offset) := by
                                        have h0 : 0 < es2.length := by rw [hes2.out]; simp
                                        rw [hga 0 h0]
                                        have : es2[0].off = offset := by simp only [hes2.out, List.getElem_cons_zero]
                                        rw [this]
                                      have HALL : Hid (T + nc ≤ limit → kk = nb) := fun h => by
                                        rw [hnb.out]
                                        refine HCUT.out.all ?_
                                        have := hT.out
                                        omega
                                      have FIN : Hid (Below w.heap.size w wv) := by
                                        have h1 : Below w.heap.size w4 wq2 := T6.out.toBelow B4.out.size (fun i hi => Nat.le_trans W4.out hi)
                                        exact (B4.out.trans h1).trans (HB.out.mono (Nat.le_trans B4.out.size h1.size))
                                      rw [← hna.out, ← hnb.out]
                                      clear hbf haf hga e2 hnak BEF BEF6 HOW HB K6 T6 hT2 HSUM HNO
                                      go_wp2_with fail
                                      refine (bytes_ok cb T2 wv cT2).mono ?_
                                      rintro e wo2 ⟨rfl, hwo2⟩
                                      subst hwo2
                                      go_wp2
                                      as_aux_lemma =>
                                        go_loopw [23] (fun i wx => ∃ j r : Nat, j ≤ kk ∧ i = .int .i64 j ∧ wx = wo2.drewN r) (fun i _ => kk - (intOf i).toNat)
                                        case atStart => exact ⟨0, 0, Nat.zero_le _, rfl, rfl⟩
                                        case round =>
                                          obtain ⟨j, r, hj, rfl, rfl⟩ := hrel
                                          by_cases hlt : j < kk
                                          · obtain ⟨gb, rfl, hgb⟩ := HBF.out (by have := hnb.out; omega)
                                            have h1 : j < es.length := by have := hnb.out; omega
                                            have h2 : j + 1 < es2.length := by have := hna.out; have := HNAK.out; omega
                                            obtain ⟨vj, d1, d2⟩ : ∃ v : Int, wo2.cell? ⟨gb, j, none⟩ = some (.int .i64 v) ∧ wo2.cell? ⟨ga, j + 1, none⟩ = some (.int .i64 v) := by
                                              refine ⟨es[j].off, hgb j h1, ?_⟩
                                              rw [HGA.out (j + 1) h2]
                                              have : es2[j + 1].off = es[j].off := by simp only [hes2.out, List.getElem_cons_succ, List.getElem_take]
                                              rw [this]
                                            clear h1 h2 hgb
                                            go_wp2
                                            go_quiet (fail)
                                            go_wp2
                                            go_roundw
                                            case rel => exact ⟨j + 1, _, by omega, by go_num, rfl⟩
                                            case measure => simp [intOf]; omega
                                          · have MAP := hide (mapLen_ok (K9.out.below (below_drewN (Below.refl _ wo2) r)) hna.out)
                                            have F2 : Hid (Below w.heap.size w (wo2.drewN r)) := below_drewN FIN.out r
                                            clear c0 cT2
                                            as_aux_lemma =>
                                              by_cases hall : T + nc ≤ limit
                                              · have e := HALL.out hall
                                                subst e
                                                go_wp2_with fail
                                                refine MAP.out.mono ?_
                                                rintro e wp ⟨rfl, hwp⟩
                                                subst hwp
                                                go_wp2
                                                go_ret
                                                exact ⟨rfl, F2.out⟩
                                              · go_wp2_with fail
                                                refine MAP.out.mono ?_
                                                rintro e wp ⟨rfl, hwp⟩
                                                subst hwp
                                                go_wp2
                                                go_ret
                                                exact ⟨rfl, F2.out⟩
end Go.Proofs.Qxb6614306a
