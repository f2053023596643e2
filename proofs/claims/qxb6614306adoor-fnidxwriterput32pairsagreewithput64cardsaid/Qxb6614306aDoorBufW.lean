/-
  bytes.Buffer: Write (40) as a whole.
-/
import Derived.Test.Qxb6614306aDoorBuf
namespace Go.Proofs.Qxb6614306aDoor
open Go.RowKit Go.WideShapes
set_option linter.unusedVariables false

/-- A BUFFER that holds the cells bs: nil so far ('go = none'), or a row of its own, block g ('go = some g'). -/
def Buf (b : Nat) (go : Option Nat) (bs : List Value) (w : World) : Prop :=
  (go = none ∧ bs = [] ∧ BufHead b (.slice none 0 0) w) ∨
  ∃ g cap cur, go = some g ∧ BufHead b (.slice (some ⟨g, 0, none⟩) bs.length cap) w ∧ w.heap[g]? = some (.cells cur 5 (0, 0)) ∧ cur.size = cap ∧ cur.toList.take bs.length = bs ∧ bs.length ≤ cap ∧ cap ≤ maxLen ∧ g ≠ b ∧ 1 ≤ bs.length

theorem Buf.of_blocks {b : Nat} {go : Option Nat} {bs : List Value} {w w' : World} (h : Buf b go bs w) (hb : w'.heap[b]? = w.heap[b]?) (hg : ∀ g, go = some g → w'.heap[g]? = w.heap[g]?) : Buf b go bs w' := by
  rcases h with ⟨h1, h2, h3⟩ | ⟨g, cap, cur, rfl, h2, h3, h4⟩
  · exact .inl ⟨h1, h2, h3.of_block hb⟩
  · exact .inr ⟨g, cap, cur, rfl, h2.of_block hb, (hg g rfl).trans h3, h4⟩

/-- the copy at Write's end: the new cells stand behind the old -/
theorem write_end {b g cap n : Nat} {bs cs : List Value} {cur : Array Value} {w : World} (hn : cs.length = n) (hn1 : 1 ≤ n) (hh : BufHead b (.slice (some ⟨g, 0, none⟩) (bs.length + n) cap) w) (hg : w.heap[g]? = some (.cells cur 5 (0, 0))) (hcs : cur.size = cap)
    (htk : cur.toList.take bs.length = bs) (hle : bs.length + n ≤ cap) (hcm : cap ≤ maxLen) (hgb : g ≠ b) :
    Buf b (some g) (bs ++ cs) (w.setRow g (cur.toList.take bs.length ++ cs ++ cur.toList.drop (bs.length + cs.length)).toArray) := by
  have hl : (bs ++ cs).length = bs.length + n := by rw [List.length_append, hn]
  refine .inr ⟨g, cap, _, rfl, ?_, setRow_heap _ _ cur _ 5 (0, 0) hg, ?_, ?_, by omega, hcm, hgb, by omega⟩
  · rw [hl]
    exact hh.of_block (setRow_other _ _ _ _ (Ne.symm hgb))
  · simp [List.length_take, hn]
    omega
  · rw [hl, htk]
    simp only []
    rw [List.take_append_of_le_length (by rw [hl]; exact Nat.le_refl _), List.take_of_length_le (by rw [hl]; exact Nat.le_refl _)]

/-- what Write leaves -/
def Wrote (b n : Nat) (go : Option Nat) (bs cs : List Value) (w : World) (e : Ending) (w' : World) : Prop :=
  e = .returned (.tuple #[.int .i64 n, .nilIface]) ∧ ∃ go', Buf b go' (bs ++ cs) w' ∧ Turned (fun k => k = b ∨ some k = go) w w' ∧ (go' = go ∨ ∃ r, go' = some r ∧ w.heap.size ≤ r)

set_option maxHeartbeats 1000000 in
/-- there is room in the row -/
theorem write_room (b g cap n c : Nat) (bs cs : List Value) (cur : Array Value) (a : Addr) (w : World) (hh : BufHead b (.slice (some ⟨g, 0, none⟩) bs.length cap) w) (hg : w.heap[g]? = some (.cells cur 5 (0, 0))) (hcs : cur.size = cap)
    (htk : cur.toList.take bs.length = bs) (hbc : bs.length ≤ cap) (hcm : cap ≤ maxLen) (hgb : g ≠ b) (hn : cs.length = n) (hn1 : 1 ≤ n) (hroom : n ≤ cap - bs.length) (hab : a.block ≠ b)
    (hsrc : ∀ j v, cs[j]? = some v → w.cell? (a.add j) = some v) (h1c : ∀ v ∈ cs, v.oneCell' = true) :
    Calls Tryd.prog 40 #[.pointer (some ⟨b, 0, none⟩), .slice (some a) n c] w (Wrote b n (some g) bs cs w) := by
  obtain ⟨c0, c1, ⟨lr, c2⟩, hf, hblt⟩ := hh.cells
  have f2 := hf 2
  clear hf
  have HH := hide (hh.set2 0)
  have HH2 := hide ((hh.set2 0).set0 (.slice (some ⟨g, 0, none⟩) (bs.length + n) cap))
  obtain ⟨d0, -, -, -, -⟩ := HH2.out.cells
  have HG : Hid (((w.setCell ⟨b, 2, none⟩ (.int .i8 0)).setCell ⟨b, 0, none⟩ (.slice (some ⟨g, 0, none⟩) (bs.length + n) cap)).heap[g]? = some (.cells cur 5 (0, 0))) := by
    show _ = _
    rw [Below.heap_setCell _ _ _ _ hgb, Below.heap_setCell _ _ _ _ hgb]
    exact hg
  have hsrc1 : Hid (∀ j v, cs[j]? = some v → ((w.setCell ⟨b, 2, none⟩ (.int .i8 0)).setCell ⟨b, 0, none⟩ (.slice (some ⟨g, 0, none⟩) (bs.length + n) cap)).cell? (a.add j) = some v) := fun j v hj => by
    have e : (a.add j).block ≠ b := by unfold Addr.add; split <;> exact hab
    rw [World.cell?_of_block (w := w) (by rw [Below.heap_setCell _ _ _ _ e, Below.heap_setCell _ _ _ _ e])]
    exact hsrc j v hj
  have hcp := run_copy_row (P := Tryd.prog) ((w.setCell ⟨b, 2, none⟩ (.int .i8 0)).setCell ⟨b, 0, none⟩ (.slice (some ⟨g, 0, none⟩) (bs.length + n) cap)) 30 30 3 5 g bs.length n (cap - bs.length) a n c cur 5 cs Tryd.underlying30 Tryd.size5 HG.out (by rw [hn]; exact (Nat.min_self n).symm) hsrc1.out (by rw [hn, hcs]; omega) h1c
  rw [hn] at hcp
  generalize hY : (cur.toList.take bs.length ++ cs ++ cur.toList.drop (bs.length + n)).toArray = Y at hcp
  have HE : Hid (Wrote b n (some g) bs cs w (.returned (.tuple #[.int .i64 n, .nilIface])) (((w.setCell ⟨b, 2, none⟩ (.int .i8 0)).setCell ⟨b, 0, none⟩ (.slice (some ⟨g, 0, none⟩) (bs.length + n) cap)).setRow g Y)) := by
    refine ⟨rfl, some g, ?_, ?_, .inl rfl⟩
    · have := write_end hn hn1 HH2.out HG.out hcs htk (by omega) hcm hgb
      rw [hn, hY] at this
      exact this
    · exact ((((Turned.refl _ w).setCell (.inl (.inl rfl)) _).setCell (.inl (.inl rfl)) _).setRow (.inl (.inr rfl)) _)
  have hcm' := hcm
  unfold maxLen at hcm'
  have hne : ¬ cap = bs.length := by omega
  clear hsrc hg hh htk c0 c1 HG hsrc1 hY
  go_enter Tryd.func40, Tryd.ntmps40
  go_wp2_with fail
  refine (tryGrow_room b bs.length cap n _ _ HH.out hbc hcm hroom).mono ?_
  rintro e w1 ⟨rfl, rfl⟩
  go_wp2
  go_ret2
  exact HE.out

/-- behind grow -/
theorem write_grown (b l n c : Nat) (go : Option Nat) (sv : Value) (bs cs : List Value) (a : Addr) (w : World) (hl : bs.length = l) (hh : BufHead b sv w) (hn : cs.length = n) (hn1 : 1 ≤ n) (hab : a.block ≠ b)
    (hsrc : ∀ j v, cs[j]? = some v → w.cell? (a.add j) = some v) (h1c : ∀ v ∈ cs, v.oneCell' = true)
    (htry : ∀ W, BufHead b sv W → Calls Tryd.prog 41 #[.pointer (some ⟨b, 0, none⟩), .int .i64 n] W fun e w' => e = .returned (.tuple #[.int .i64 0, .bool false]) ∧ W = w')
    (hgrow : Calls Tryd.prog 42 #[.pointer (some ⟨b, 0, none⟩), .int .i64 n] (w.setCell ⟨b, 2, none⟩ (.int .i8 0)) (GrewBuf b l n bs (w.setCell ⟨b, 2, none⟩ (.int .i8 0)))) :
    Calls Tryd.prog 40 #[.pointer (some ⟨b, 0, none⟩), .slice (some a) n c] w (Wrote b n go bs cs w) := by
  obtain ⟨c0, c1, ⟨lr, c2⟩, hf, hblt⟩ := hh.cells
  have f2 := hf 2
  clear hf
  have HH := hide (hh.set2 0)
  have HS := hide hsrc
  have HT := hide htry
  have HGr := hide hgrow
  have H1 := hide h1c
  clear hsrc htry hgrow h1c hh
  go_enter Tryd.func40, Tryd.ntmps40
  go_wp2_with fail
  refine (HT.out _ HH.out).mono ?_
  rintro e w1 ⟨rfl, rfl⟩
  go_wp2_with fail
  refine HGr.out.mono ?_
  rintro e w2 ⟨rfl, cap2, cells, hb2, hg2, hcsz, htk, hle, hcm2, htd⟩
  have hsz : (w.setCell ⟨b, 2, none⟩ (.int .i8 0)).heap.size = w.heap.size := by simp [World.setCell]
  rw [hsz] at hb2 hg2
  obtain ⟨d0, -, -, -, -⟩ := hb2.cells
  have hgb : w.heap.size ≠ b := Nat.ne_of_gt hblt
  have hT : Turned (fun k => k = b) w w2 := ((Turned.refl (fun k => k = b) w).setCell (a := ⟨b, 2, none⟩) (.inl rfl) (.int .i8 0)).trans htd (fun i hi => .inl hi)
  have hsrc1 : ∀ j v, cs[j]? = some v → w2.cell? (a.add j) = some v := fun j v hj => hT.cell (fun e => hab (by rw [← e]; unfold Addr.add; split <;> rfl)) (HS.out j v hj)
  subst hl
  have hcp := run_copy_row (P := Tryd.prog) w2 30 30 3 5 w.heap.size bs.length n (cap2 - bs.length) a n c cells 5 cs Tryd.underlying30 Tryd.size5 hg2 (by rw [hn]; exact (Nat.min_self n).symm) hsrc1 (by rw [hn, hcsz]; omega) H1.out
  rw [hn] at hcp
  generalize hY : (cells.toList.take bs.length ++ cs ++ cells.toList.drop (bs.length + n)).toArray = Y at hcp
  have HE : Hid (Wrote b n go bs cs w (.returned (.tuple #[.int .i64 n, .nilIface])) (w2.setRow w.heap.size Y)) := by
    refine ⟨rfl, some w.heap.size, ?_, (hT.mono fun i hi => .inl hi).setRow (.inr (Nat.le_refl _)) _, .inr ⟨_, rfl, Nat.le_refl _⟩⟩
    have := write_end hn hn1 hb2 hg2 hcsz htk hle hcm2 hgb
    rw [hn, hY] at this
    exact this
  have hcm' := hcm2
  unfold maxLen at hcm'
  have hne : ¬ cap2 = bs.length := by omega
  clear hsrc1 hT htd hb2 hg2 htk hcm2 hcsz hY
  go_wp2
  go_ret2
  exact HE.out

/-- (*bytes.Buffer).Write, at every buffer that has only been written -/
theorem write_any (b n c : Nat) (go : Option Nat) (bs cs : List Value) (a : Addr) (w : World) (h : Buf b go bs w) (hn : cs.length = n) (hn1 : 1 ≤ n) (hlim : bs.length + n ≤ 1073741824) (hab : a.block ≠ b)
    (hsrc : ∀ j v, cs[j]? = some v → w.cell? (a.add j) = some v) (h1c : ∀ v ∈ cs, v.oneCell' = true) (h1 : ∀ v ∈ bs, v.oneCell' = true) :
    Calls Tryd.prog 40 #[.pointer (some ⟨b, 0, none⟩), .slice (some a) n c] w (Wrote b n go bs cs w) := by
  rcases h with ⟨rfl, rfl, hh⟩ | ⟨g, cap, cur, rfl, hh, hg, hcs, htk, hbc, hcm, hgb, hb1⟩
  · refine write_grown b 0 n c none _ [] cs a w rfl hh hn hn1 hab hsrc h1c (fun W hW => tryGrow_none b 0 0 n none W hW (Nat.le_refl _) (by unfold maxLen; omega) (by omega)) ?_
    by_cases h64 : n ≤ 64
    · exact grow_nil_small b n _ (hh.set2 0) hn1 h64
    · exact grow_nil_big b n _ (hh.set2 0) (by omega) (by simpa using hlim)
  · by_cases hr : n ≤ cap - bs.length
    · exact write_room b g cap n c bs cs cur a w hh hg hcs htk hbc hcm hgb hn hn1 hr hab hsrc h1c
    · refine write_grown b bs.length n c (some g) _ bs cs a w rfl hh hn hn1 hab hsrc h1c (fun W hW => tryGrow_none b bs.length cap n _ W hW hbc hcm (by omega)) ?_
      have := grow_row b g bs.length cap n cur (w.setCell ⟨b, 2, none⟩ (.int .i8 0)) (hh.set2 0) (by rw [Below.heap_setCell _ _ _ _ hgb]; exact hg) hcs hbc hb1 hn1 (by omega) hlim (by rw [htk]; exact h1)
      rwa [htk] at this
end Go.Proofs.Qxb6614306aDoor
