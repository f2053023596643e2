/-
  bufio.Writer over a bytes.Buffer: Write (18), of a slice that fits wholly or finds the buffer full.
-/
import Derived.Test.Qxb6614306aDoorBw
import Derived.Deep.LoopGhost
namespace Go.Proofs.Qxb6614306aDoor
open Go.RowKit Go.WideShapes
set_option linter.unusedVariables false
attribute [local go_sem ↓] Go.wp_at_zero Go.wp_at_succ

/-- the writer as a whole holds the cells 'all': what the Buffer has, then what is buffered -/
structure Holds (wb rb b n : Nat) (go : Option Nat) (row : Array Value) (bs all : List Value) (w : World) : Prop where
  bw : BW wb rb b n row w
  buf : Buf b go bs w
  all : bs ++ row.toList.take n = all
  gw : go ≠ some wb
  gr : go ≠ some rb
  one : ∀ v ∈ bs, v.oneCell' = true

theorem Holds.len {wb rb b n : Nat} {go : Option Nat} {row : Array Value} {bs all : List Value} {w : World} (h : Holds wb rb b n go row bs all w) : all.length = bs.length + n := by
  have e : (row.toList.take n).length = n := by rw [List.length_take, Array.length_toList, h.bw.size]; have := h.bw.nle; omega
  rw [← h.all, List.length_append, e]

theorem eq53 (w : World) : (binOp .eql 53 .nilIface .nilIface).run Tryd.prog w = .ok (.bool true) w := by kernel_rfl

/-- what stands between two rounds of Write's loop: k rounds are to come -/
def Mid (wb rb b ib m n0 : Nat) (go : Option Nat) (all ps : List Value) (w : World) (k n : Nat) (go' : Option Nat) (row : Array Value) (bs : List Value) (wr : World) : Prop :=
  Holds wb rb b n go' row bs all wr ∧ ((n + m ≤ 4096 ∧ k = 0) ∨ (n = 4096 ∧ k = 1)) ∧ (n = n0 ∨ (n0 = 4096 ∧ n = 0)) ∧ Turned (fun i => i = wb ∨ i = rb ∨ i = b ∨ some i = go) w wr ∧ (go' = go ∨ ∃ r, go' = some r ∧ w.heap.size ≤ r) ∧
    (∀ j v, ps[j]? = some v → wr.cell? ((⟨ib, 3, none⟩ : Addr).add j) = some v)

def WroteB (wb rb b m n : Nat) (go : Option Nat) (all ps : List Value) (w : World) (e : Ending) (w' : World) : Prop :=
  e = .returned (.tuple #[.int .i64 m, .nilIface]) ∧ ∃ n2 go2 row2 bs2, Holds wb rb b n2 go2 row2 bs2 (all ++ ps) w' ∧ (n2 = n + m ∨ (n = 4096 ∧ n2 = m)) ∧ Turned (fun i => i = wb ∨ i = rb ∨ i = b ∨ some i = go) w w' ∧ (go2 = go ∨ ∃ r, go2 = some r ∧ w.heap.size ≤ r)

theorem mid_done {wb rb b ib m n0 k n q : Nat} {go go' : Option Nat} {row Y : Array Value} {bs all ps : List Value} {w wr : World} (h : Mid wb rb b ib m n0 go all ps w k n go' row bs wr) (hroom : n + m ≤ 4096) (hps : ps.length = m) (h1 : ∀ v ∈ ps, v.oneCell' = true)
    (hY : (row.toList.take n ++ ps ++ row.toList.drop (n + m)).toArray = Y) :
    WroteB wb rb b m n0 go all ps w (.returned (.tuple #[.int .i64 m, .nilIface])) (((wr.drewN q).setRow rb Y).setCell ⟨wb, 2, none⟩ (.int .i64 (n + m))) := by
  obtain ⟨hh, -, hn0, ht, hgo, -⟩ := h
  have hl : (row.toList.take n).length = n := by rw [List.length_take, Array.length_toList, hh.bw.size]; omega
  refine ⟨rfl, n + m, go', Y, bs, ⟨⟨?_, ?_, ?_, ?_, hroom, hh.bw.ne1, hh.bw.ne2, hh.bw.ne3⟩, ?_, ?_, hh.gw, hh.gr, hh.one⟩, ?_, ?_, hgo⟩
  · have h0 : ((wr.drewN q).setRow rb Y).heap[wb]? = _ := (setRow_other _ _ _ _ hh.bw.ne1).trans hh.bw.head
    have := Lib.heap_setCell_same (i := 2) h0 (.int .i64 (n + m))
    rw [this]
    simp
  · rw [Below.heap_setCell _ _ _ _ (Ne.symm hh.bw.ne1)]
    exact setRow_heap _ _ row Y 5 (0, 0) hh.bw.line
  · rw [← hY]
    simp [hl, hps, hh.bw.size]
    omega
  · intro v hv
    rw [← hY] at hv
    simp only [List.mem_append] at hv
    rcases hv with (hv | hv) | hv
    · exact hh.bw.one v (List.mem_of_mem_take hv)
    · exact h1 v hv
    · exact hh.bw.one v (List.mem_of_mem_drop hv)
  · refine hh.buf.of_blocks ?_ fun g hg => ?_
    · rw [Below.heap_setCell _ _ _ _ (Ne.symm hh.bw.ne2)]
      exact setRow_other _ _ _ _ (Ne.symm hh.bw.ne3)
    · rw [Below.heap_setCell _ _ _ _ (fun e => hh.gw (by rw [hg, e]))]
      exact setRow_other _ _ _ _ (fun e => hh.gr (by rw [hg, e]))
  · rw [← hh.all, ← hY]
    have e : (row.toList.take n ++ ps).length = n + m := by rw [List.length_append, hl, hps]
    simp only []
    rw [List.take_append_of_le_length (by omega), List.take_of_length_le (by omega), List.append_assoc]
  · omega
  · exact ((ht.drewN q).setRow (.inl (.inr (.inl rfl))) _).setCell (.inl (.inl rfl)) _

theorem bw_again {wb rb b n q : Nat} {row : Array Value} {w : World} (h : BW wb rb b n row w) : BW wb rb b n row ((w.drewN q).setCell ⟨wb, 2, none⟩ (.int .i64 n)) := by
  have h0 : (w.drewN q).heap[wb]? = _ := h.head
  refine ⟨?_, ?_, h.size, h.one, h.nle, h.ne1, h.ne2, h.ne3⟩
  · have := Lib.heap_setCell_same (i := 2) h0 (.int .i64 n)
    rw [this]
    simp
  · rw [Below.heap_setCell _ _ _ _ (Ne.symm h.ne1)]
    exact h.line

theorem buf_again {wb rb b n q : Nat} {go : Option Nat} {row : Array Value} {bs all : List Value} {w : World} (h : Holds wb rb b n go row bs all w) (v : Value) : Buf b go bs ((w.drewN q).setCell ⟨wb, 2, none⟩ v) :=
  h.buf.of_blocks (Below.heap_setCell _ _ _ _ (Ne.symm h.bw.ne2)) fun g hg => Below.heap_setCell _ _ _ _ (fun e => h.gw (by rw [hg, e]))

/-- behind the flush -/
theorem mid_flush {wb rb b ib m n0 k q : Nat} {go go' : Option Nat} {row : Array Value} {bs all ps : List Value} {w wr w3 : World} {e : Ending} (h : Mid wb rb b ib m n0 go all ps w k 4096 go' row bs wr) (hm8 : m ≤ 8)
    (hi1 : ib ≠ wb) (hi3 : ib ≠ b) (hi4 : some ib ≠ go) (hilt : ib < w.heap.size)
    (hf : Flushed wb rb b go' row (bs ++ row.toList.take 4096) ((wr.drewN q).setCell ⟨wb, 2, none⟩ (.int .i64 4096)) e w3) :
    e = .returned .nilIface ∧ ∃ go2, Mid wb rb b ib m n0 go all ps w 0 0 go2 row (bs ++ row.toList.take 4096) w3 := by
  obtain ⟨hh, -, hn0, ht, hgo, hsrc⟩ := h
  obtain ⟨rfl, go2, hbw, hbuf, ht3, hg2⟩ := hf
  have hs1 : ((wr.drewN q).setCell ⟨wb, 2, none⟩ (.int .i64 4096)).heap.size = wr.heap.size := by simp [World.setCell]
  rw [hs1] at hg2
  have hwb := Lib.lt_of_heap hh.bw.head
  have hrb := Lib.lt_of_heap hh.bw.line
  have hgoT : ∀ i, some i = go' → (some i = go ∨ w.heap.size ≤ i) := fun i hi => by
    rcases hgo with e | ⟨r, e, hr⟩
    · exact .inl (hi.trans e)
    · rw [e] at hi
      simp only [Option.some.injEq] at hi
      subst hi
      exact .inr hr
  have hT1 : Turned (fun i => i = wb ∨ i = rb ∨ i = b ∨ some i = go) w ((wr.drewN q).setCell ⟨wb, 2, none⟩ (.int .i64 4096)) := (ht.drewN q).setCell (.inl (.inl rfl)) _
  have hnib : ¬ (ib = wb ∨ ib = b ∨ some ib = go') := by
    rintro (e | e | e)
    · exact hi1 e
    · exact hi3 e
    · rcases hgoT ib e with e | e
      · exact hi4 e
      · omega
  refine ⟨rfl, go2, ⟨hbw, hbuf, ?_, ?_, ?_, ?_⟩, .inl ⟨by omega, rfl⟩, by omega, ?_, ?_, ?_⟩
  · rw [List.take_zero, List.append_nil]
    exact hh.all
  · rintro rfl
    rcases hg2 with e | ⟨r, e, hr⟩
    · exact hh.gw e.symm
    · simp only [Option.some.injEq] at e
      omega
  · rintro rfl
    rcases hg2 with e | ⟨r, e, hr⟩
    · exact hh.gr e.symm
    · simp only [Option.some.injEq] at e
      omega
  · intro v hv
    rcases List.mem_append.1 hv with hv | hv
    · exact hh.one v hv
    · exact hh.bw.one v (List.mem_of_mem_take hv)
  · refine hT1.trans ht3 fun i hi => ?_
    rcases hi with e | e | e
    · exact .inl (.inl e)
    · exact .inl (.inr (.inr (.inl e)))
    · rcases hgoT i e with e | e
      · exact .inl (.inr (.inr (.inr e)))
      · exact .inr e
  · rcases hg2 with e | ⟨r, e, hr⟩
    · rcases hgo with e' | ⟨r', e', hr'⟩
      · exact .inl (e.trans e')
      · exact .inr ⟨r', e.trans e', hr'⟩
    · exact .inr ⟨r, e, Nat.le_trans ht.size hr⟩
  · intro j v hj
    have hblk : ((⟨ib, 3, none⟩ : Addr).add j).block = ib := by unfold Addr.add; split <;> rfl
    refine ht3.cell (by rw [hblk]; exact hnib) ?_
    rw [World.cell?_of_block (w := wr) (by rw [hblk]; exact Below.heap_setCell _ _ _ _ hi1)]
    exact hsrc j v hj

set_option maxHeartbeats 2000000 in
theorem bwrite_walk (wb rb b ib m n : Nat) (go : Option Nat) (row : Array Value) (bs all ps : List Value) (w : World) (h : Holds wb rb b n go row bs all w) (hm1 : 1 ≤ m) (hm8 : m ≤ 8) (hps : ps.length = m) (hfit : n + m ≤ 4096 ∨ n = 4096) (hlim : all.length ≤ 536870912)
    (hsrc : ∀ j v, ps[j]? = some v → w.cell? ((⟨ib, 3, none⟩ : Addr).add j) = some v) (h1p : ∀ v ∈ ps, v.oneCell' = true) (hi1 : ib ≠ wb) (hi2 : ib ≠ rb) (hi3 : ib ≠ b) (hi4 : some ib ≠ go) (hilt : ib < w.heap.size) :
    Calls Tryd.prog 18 #[.pointer (some ⟨wb, 0, none⟩), .slice (some ⟨ib, 3, none⟩) m 8] w (WroteB wb rb b m n go all ps w) := by
  have hnn := nq53
  have hee := eq53
  have hmid : ∃ k, k ≤ 1 ∧ Mid wb rb b ib m n go all ps w k n go row bs w := by
    rcases hfit with hf | hf
    · exact ⟨0, by omega, h, .inl ⟨hf, rfl⟩, .inl rfl, Turned.refl _ _, .inl rfl, hsrc⟩
    · exact ⟨1, by omega, h, .inr ⟨hf, rfl⟩, .inl rfl, Turned.refl _ _, .inl rfl, hsrc⟩
  obtain ⟨k0, hk0, hmid⟩ := hmid
  have HM := hide hmid
  have H1 := hide h1p
  clear hmid h1p h hsrc
  go_enter Tryd.func18, Tryd.ntmps18
  go_wp2_with fail
  go_loopg [1, 4, 6] k0 (fun k p nn _ wr => p = .slice (some ⟨ib, 3, none⟩) m 8 ∧ nn = .int .i64 0 ∧ ∃ n' go' row' bs', Hid (Mid wb rb b ib m n go all ps w k n' go' row' bs' wr))
  case atStart => exact ⟨rfl, rfl, n, go, row, bs, HM⟩
  case round =>
    obtain ⟨rfl, rfl, n', go', row', bs', HD⟩ := hrel
    obtain ⟨c0, c1, c2, c3, hf, hblt⟩ := HD.out.1.bw.cells
    have f2 := hf 2
    clear hf
    have hn4 := HD.out.1.bw.nle
    have hav := avail_walk wb rb b n' row' wr HD.out.1.bw
    have HAV := hide hav
    clear hav
    by_cases hroom : n' + m ≤ 4096
    · have hline := HD.out.1.bw.line
      have hrsz := HD.out.1.bw.size
      have hcp := fun q => run_copy_row (P := Tryd.prog) (wr.drewN q) 30 30 3 5 rb n' (4096 - n') (4096 - n') ⟨ib, 3, none⟩ m 8 row' 5 ps Tryd.underlying30 Tryd.size5 hline (by rw [hps]; exact (Nat.min_eq_left (by omega)).symm) HD.out.2.2.2.2.2 (by rw [hps, hrsz]; omega) H1.out
      have hcp2 := fun q => run_copy_row (P := Tryd.prog) (wr.drewN q).drew 30 30 3 5 rb n' (4096 - n') (4096 - n') ⟨ib, 3, none⟩ m 8 row' 5 ps Tryd.underlying30 Tryd.size5 hline (by rw [hps]; exact (Nat.min_eq_left (by omega)).symm) HD.out.2.2.2.2.2 (by rw [hps, hrsz]; omega) H1.out
      rw [hps] at hcp hcp2
      generalize hY : (row'.toList.take n' ++ ps ++ row'.toList.drop (n' + m)).toArray = Y at hcp hcp2
      have HY := hide hY
      have hne1 := HD.out.1.bw.ne1
      have k1 : ∀ q, ((wr.drewN q).setRow rb Y).cell? ⟨wb, 1, none⟩ = some (.slice (some ⟨rb, 0, none⟩) 4096 4096) := fun q => (World.cell?_of_block (w := wr) (a := ⟨wb, 1, none⟩) (setRow_other _ _ _ _ hne1)).trans c1
      have k2 : ∀ q, ((wr.drewN q).setRow rb Y).cell? ⟨wb, 2, none⟩ = some (.int .i64 n') := fun q => (World.cell?_of_block (w := wr) (a := ⟨wb, 2, none⟩) (setRow_other _ _ _ _ hne1)).trans c2
      have k3 : ∀ q, ((wr.drewN q).setRow rb Y).frozen? ⟨wb, 2, none⟩ = false := fun q => (World.frozen?_of_block (w := wr) (a := ⟨wb, 2, none⟩) (setRow_other _ _ _ _ hne1)).trans f2
      have HE := fun q => hide (mid_done (q := q) HD.out hroom hps H1.out HY.out)
      clear hY hline hrsz
      have hlt4 : ¬ 4096 = n' := by omega
      have hn5 : (n' : Int) ≤ 4096 := by omega
      have hn6 : (0 : Int) ≤ (n' : Int) := by omega
      go_wp2_with fail
      refine HAV.out.mono ?_
      rintro e w1 ⟨rfl, q, rfl⟩
      go_wp2_with fail
      go_region_held3 (fun w' => w'.cell? ⟨wb, 1, none⟩ = some (.slice (some ⟨rb, 0, none⟩) 4096 4096) ∧ w'.cell? ⟨wb, 2, none⟩ = some (.int .i64 n')) (go_keep) (fail)
      go_wp2
      go_ret2
      exact (HE _).out
    · have hn' : n' = 4096 ∧ gk = 1 := by
        rcases HD.out.2.1 with h | h
        · omega
        · exact h
      obtain ⟨rfl, rfl⟩ := hn'
      have hcp : ∀ d W, (Builtin.copy_ #[30, 30] 3 #[.slice d 0 0, .slice (some ⟨ib, 3, none⟩) m 8]).run Tryd.prog W = .ok (goInt 0) W := fun d W => run_copy_none W 30 30 3 5 d (some ⟨ib, 3, none⟩) 0 0 m 8 Tryd.underlying30 Tryd.size5 (Nat.min_eq_right (Nat.zero_le _))
      have hmgt : (0 : Int) < (m : Int) := by omega
      go_wp2_with fail
      refine HAV.out.mono ?_
      rintro e w1 ⟨rfl, q, rfl⟩
      go_wp2_with fail
      refine (buffered_walk wb rb b 4096 row' (wr.drewN q) ⟨HD.out.1.bw.head, HD.out.1.bw.line, HD.out.1.bw.size, HD.out.1.bw.one, HD.out.1.bw.nle, HD.out.1.bw.ne1, HD.out.1.bw.ne2, HD.out.1.bw.ne3⟩).mono ?_
      rintro e w2 ⟨rfl, rfl⟩
      go_wp2_with fail
      go_region_held3 (fun w' => w'.cell? ⟨wb, 1, none⟩ = some (.slice (some ⟨rb, 0, none⟩) 4096 4096) ∧ w'.cell? ⟨wb, 2, none⟩ = some (.int .i64 4096)) (go_keep) (fail)
      go_wp2_with fail
      refine (flush_some wb rb b 4096 go' row' bs' _ (bw_again HD.out.1.bw) (buf_again HD.out.1 _) (by omega) ?_ HD.out.1.one HD.out.1.gw HD.out.1.gr).mono ?_
      · have := HD.out.1.len
        omega
      intro e w3 hfl
      obtain ⟨rfl, go2, hmid2⟩ := mid_flush HD.out hm8 hi1 hi3 hi4 hilt hfl
      have HM2 := hide hmid2
      clear hmid2 hfl
      go_wp2_with fail
      go_roundg 0
      case measure => omega
      case rel => exact ⟨by simp, by simp, 0, go2, row', _, HM2⟩
end Go.Proofs.Qxb6614306aDoor
