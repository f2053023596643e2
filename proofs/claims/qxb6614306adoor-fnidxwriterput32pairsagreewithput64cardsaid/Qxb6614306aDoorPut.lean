/-
  binary.BigEndian.AppendUint32 (19), AppendUint64 (20) onto iw.buf[:0]; put32 (13), put64 (16); the exported 7, 10.
-/
import Derived.Test.Qxb6614306aDoorBwW
import Derived.ArgAppend
import Derived.Lib.UnsafeStr
import Derived.Lib.Slices
namespace Go.Proofs.Qxb6614306aDoor
open Go.RowKit Go.WideShapes
set_option linter.unusedVariables false
attribute [local go_sem ↓] Go.wp_at_zero Go.wp_at_succ

/-- a uint32's four bytes, the greatest first -/
def be4 (v : Int) : List Value := [.int .u8 (v / 16777216), .int .u8 (v / 65536 % 256), .int .u8 (v / 256 % 256), .int .u8 (v % 256)]

set_option maxHeartbeats 1000000 in
theorem app32_walk (ib : Nat) (v : Nat) (f : Nat → Value) (w : World) (hv : v < 4294967296) (h : w.rowIs ib 50 11 f) :
    Calls Tryd.prog 19 #[.agg #[], .slice (some ⟨ib, 3, none⟩) 0 8, .int .u32 v] w fun e w' => e = .returned (.slice (some ⟨ib, 3, none⟩) 4 8) ∧ w' = ((w.alloc (.cells #[] 61)).alloc (.cells (be4 v).toArray 5)).setCells ib 3 (be4 v) := by
  obtain ⟨i0, hi, hz0, hz1, hz2⟩ := info_parts Tryd.info5
  unfold be4
  have HH := hide h
  clear h
  go_enter Tryd.func19, Tryd.ntmps19
  go_wp2_with (at_builtin; refine wpList_append_arg _ rfl _ _ 30 rfl 5 i0 (.int .u8 0) 1 1 Tryd.underlying30 hi hz0 hz1 hz2 rfl (by decide) ib 3 0 8 [] rfl rfl ?c0 _ 4 4 [Value.int .u8 ((v : Int) / 16777216), Value.int .u8 ((v : Int) / 65536 % 256), Value.int .u8 ((v : Int) / 256 % 256), Value.int .u8 ((v : Int) % 256)] rfl rfl ?c1 ?c2 ?c3 ?c4 ?c5 ?room ?grow)
  case c0 => intro j u hj; simp at hj
  case c1 =>
    intro j u hj
    match j, hj with
    | 0, hj => simp at hj; subst hj; simp [Addr.add]
    | 1, hj => simp at hj; subst hj; simp [Addr.add]
    | 2, hj => simp at hj; subst hj; simp [Addr.add]
    | 3, hj => simp at hj; subst hj; simp [Addr.add]
  case c2 => intro u hu; simp at hu; rcases hu with rfl | rfl | rfl | rfl <;> rfl
  case c3 =>
    intro hr j hj
    have hj4 : j < 4 := by simpa using hj
    have h2 := (HH.out.alloc (.cells #[] 61)).alloc (.cells #[Value.int .u8 ((v : Int) / 16777216), Value.int .u8 ((v : Int) / 65536 % 256), Value.int .u8 ((v : Int) / 256 % 256), Value.int .u8 ((v : Int) % 256)] 5)
    exact ⟨by rw [h2.cell (by omega)]; rfl, h2.frozen _⟩
  case c4 => unfold maxLen; omega
  case c5 => omega
  go_ret
  exact ⟨rfl, rfl⟩

/-- a uint64's eight bytes, the greatest first -/
def be8 (v : Int) : List Value := [.int .u8 (v / 72057594037927936), .int .u8 (v / 281474976710656 % 256), .int .u8 (v / 1099511627776 % 256), .int .u8 (v / 4294967296 % 256), .int .u8 (v / 16777216 % 256), .int .u8 (v / 65536 % 256), .int .u8 (v / 256 % 256), .int .u8 (v % 256)]

set_option maxHeartbeats 1000000 in
theorem app64_walk (ib : Nat) (v : Nat) (f : Nat → Value) (w : World) (hv : v < 18446744073709551616) (h : w.rowIs ib 50 11 f) :
    Calls Tryd.prog 20 #[.agg #[], .slice (some ⟨ib, 3, none⟩) 0 8, .int .u64 v] w fun e w' => e = .returned (.slice (some ⟨ib, 3, none⟩) 8 8) ∧ w' = ((w.alloc (.cells #[] 61)).alloc (.cells (be8 v).toArray 5)).setCells ib 3 (be8 v) := by
  obtain ⟨i0, hi, hz0, hz1, hz2⟩ := info_parts Tryd.info5
  unfold be8
  have HH := hide h
  clear h
  go_enter Tryd.func20, Tryd.ntmps20
  go_wp2_with (at_builtin; refine wpList_append_arg _ rfl _ _ 30 rfl 5 i0 (.int .u8 0) 1 1 Tryd.underlying30 hi hz0 hz1 hz2 rfl (by decide) ib 3 0 8 [] rfl rfl ?c0 _ 8 8 [.int .u8 ((v : Int) / 72057594037927936), .int .u8 ((v : Int) / 281474976710656 % 256), .int .u8 ((v : Int) / 1099511627776 % 256), .int .u8 ((v : Int) / 4294967296 % 256), .int .u8 ((v : Int) / 16777216 % 256), .int .u8 ((v : Int) / 65536 % 256), .int .u8 ((v : Int) / 256 % 256), .int .u8 ((v : Int) % 256)] rfl rfl ?c1 ?c2 ?c3 ?c4 ?c5 ?room ?grow)
  case c0 => intro j u hj; simp at hj
  case c1 =>
    intro j u hj
    match j, hj with
    | 0, hj => simp at hj; subst hj; simp [Addr.add]
    | 1, hj => simp at hj; subst hj; simp [Addr.add]
    | 2, hj => simp at hj; subst hj; simp [Addr.add]
    | 3, hj => simp at hj; subst hj; simp [Addr.add]
    | 4, hj => simp at hj; subst hj; simp [Addr.add]
    | 5, hj => simp at hj; subst hj; simp [Addr.add]
    | 6, hj => simp at hj; subst hj; simp [Addr.add]
    | 7, hj => simp at hj; subst hj; simp [Addr.add]
  case c2 => intro u hu; simp at hu; rcases hu with rfl | rfl | rfl | rfl | rfl | rfl | rfl | rfl <;> rfl
  case c3 =>
    intro hr j hj
    have hj4 : j < 8 := by simpa using hj
    have h2 := (HH.out.alloc (.cells #[] 61)).alloc (.cells (be8 v).toArray 5)
    exact ⟨by rw [show (((w.alloc (.cells #[] 61)).alloc (.cells #[.int .u8 ((v : Int) / 72057594037927936), .int .u8 ((v : Int) / 281474976710656 % 256), .int .u8 ((v : Int) / 1099511627776 % 256), .int .u8 ((v : Int) / 4294967296 % 256), .int .u8 ((v : Int) / 16777216 % 256), .int .u8 ((v : Int) / 65536 % 256), .int .u8 ((v : Int) / 256 % 256), .int .u8 ((v : Int) % 256)] 5)).cell? ⟨ib, 3 + 0 * 1 + j, none⟩) = some _ from h2.cell (by omega)]; rfl, h2.frozen _⟩
  case c4 => unfold maxLen; omega
  case c5 => omega
  go_ret
  exact ⟨rfl, rfl⟩

/-- THE idxWriter as a whole: block ib, its bufio.Writer wb with the row rb, its Buffer b with the row go; it has been given the cells 'all', m at a time -/
def Wr (ib wb rb b m : Nat) (go : Option Nat) (all : List Value) (w : World) : Prop :=
  (∃ n row bs, n % m = 0 ∧ Holds wb rb b n go row bs all w) ∧ (∃ f, w.rowIs ib 50 11 f ∧ f 2 = .pointer (some ⟨wb, 0, none⟩)) ∧ ib ≠ wb ∧ ib ≠ rb ∧ ib ≠ b ∧ some ib ≠ go

theorem Holds.of_blocks {wb rb b n : Nat} {go : Option Nat} {row : Array Value} {bs all : List Value} {w w' : World} (h : Holds wb rb b n go row bs all w) (h1 : w'.heap[wb]? = w.heap[wb]?) (h2 : w'.heap[rb]? = w.heap[rb]?) (h3 : w'.heap[b]? = w.heap[b]?)
    (h4 : ∀ g, go = some g → w'.heap[g]? = w.heap[g]?) : Holds wb rb b n go row bs all w' :=
  ⟨⟨h1.trans h.bw.head, h2.trans h.bw.line, h.bw.size, h.bw.one, h.bw.nle, h.bw.ne1, h.bw.ne2, h.bw.ne3⟩, h.buf.of_blocks h3 h4, h.all, h.gw, h.gr, h.one⟩

theorem Holds.lt {wb rb b n : Nat} {go : Option Nat} {row : Array Value} {bs all : List Value} {w : World} (h : Holds wb rb b n go row bs all w) : wb < w.heap.size ∧ rb < w.heap.size ∧ b < w.heap.size ∧ ∀ g, go = some g → g < w.heap.size := by
  refine ⟨Lib.lt_of_heap h.bw.head, Lib.lt_of_heap h.bw.line, ?_, ?_⟩
  · rcases h.buf with ⟨_, _, hh⟩ | ⟨g, cap, cur, _, hh, _⟩
    · exact hh.cells.2.2.2.2
    · exact hh.cells.2.2.2.2
  · intro g hg
    rcases h.buf with ⟨e, _, _⟩ | ⟨g', cap, cur, e, hh, hg', _⟩
    · rw [e] at hg; cases hg
    · rw [e] at hg
      simp only [Option.some.injEq] at hg
      subst hg
      exact Lib.lt_of_heap hg'

theorem Turned.holds {T : Nat → Prop} {wb rb b n : Nat} {go : Option Nat} {row : Array Value} {bs all : List Value} {w w' : World} (ht : Turned T w w') (h : Holds wb rb b n go row bs all w) (h1 : ¬ T wb) (h2 : ¬ T rb) (h3 : ¬ T b) (h4 : ∀ g, go = some g → ¬ T g) : Holds wb rb b n go row bs all w' :=
  h.of_blocks (ht.block _ h.lt.1 h1) (ht.block _ h.lt.2.1 h2) (ht.block _ h.lt.2.2.1 h3) (fun g hg => ht.block _ (h.lt.2.2.2 g hg) (h4 g hg))

theorem Wr.drew {ib wb rb b m : Nat} {go : Option Nat} {all : List Value} {w : World} (h : Wr ib wb rb b m go all w) : Wr ib wb rb b m go all w.drew := by
  obtain ⟨⟨n, row, bs, hn, hh⟩, h2, h3⟩ := h
  exact ⟨⟨n, row, bs, hn, hh.of_blocks rfl rfl rfl (fun _ _ => rfl)⟩, h2, h3⟩

/-- cells laid into a row -/
theorem rowIs_setCells {b : Nat} {t : TypeId} {n : Nat} : ∀ (l : List Value) (o : Nat) (w : World) (f : Nat → Value), w.rowIs b t n f → (w.setCells b o l).rowIs b t n (fun j => if o ≤ j ∧ j < o + l.length then (l.getD (j - o) .nilIface) else f j)
  | [], o, w, f, h => h.congr fun j _ => by rw [if_neg (fun e => by simp at e; omega)]
  | v :: l, o, w, f, h => by
    refine (rowIs_setCells l (o + 1) _ _ (h.set o v)).congr fun j _ => ?_
    simp only [List.length_cons]
    by_cases h1 : o + 1 ≤ j ∧ j < o + 1 + l.length
    · rw [if_pos h1, if_pos (by omega)]
      obtain ⟨d, rfl⟩ : ∃ d, j = o + 1 + d := ⟨j - (o + 1), by omega⟩
      rw [show o + 1 + d - (o + 1) = d by omega, show o + 1 + d - o = d + 1 by omega]
      rfl
    · rw [if_neg h1]
      by_cases h2 : j = o
      · subst h2
        rw [if_pos rfl, if_pos (by omega), Nat.sub_self]
        rfl
      · rw [if_neg h2, if_neg (by omega)]

theorem turned_setCells {T : Nat → Prop} {b : Nat} (hT : T b) : ∀ (l : List Value) (o : Nat) (w w' : World), Turned T w w' → Turned T w (w'.setCells b o l)
  | [], _, _, _, h => h
  | v :: l, o, w, w', h => turned_setCells hT l (o + 1) w _ (h.setCell (a := ⟨b, o, none⟩) (.inl hT) v)

/-- behind the append: the bytes lie in the struct's own array; of all else nothing has turned -/
theorem app_end {ib wb rb b m k : Nat} {go : Option Nat} {all ps : List Value} {w : World} (h : Wr ib wb rb b m go all w) (hps : ps.length = k) (hk : k ≤ 8) (A B : Obj) :
    Wr ib wb rb b m go all (((w.alloc A).alloc B).setCells ib 3 ps) ∧ Turned (fun i => i = ib) w (((w.alloc A).alloc B).setCells ib 3 ps) ∧
      (∀ j v, ps[j]? = some v → (((w.alloc A).alloc B).setCells ib 3 ps).cell? ((⟨ib, 3, none⟩ : Addr).add j) = some v) := by
  obtain ⟨⟨n, row, bs, hn, hh⟩, ⟨f, hf, hf2⟩, h1, h2, h3, h4⟩ := h
  have ht : Turned (fun i => i = ib) w (((w.alloc A).alloc B).setCells ib 3 ps) := turned_setCells (T := fun i => i = ib) (b := ib) rfl ps 3 w _ (((Turned.refl _ w).alloc A).alloc B)
  have hr := rowIs_setCells ps 3 _ f ((hf.alloc A).alloc B)
  refine ⟨⟨⟨n, row, bs, hn, ht.holds hh (Ne.symm h1) (Ne.symm h2) (Ne.symm h3) (fun g hg e => h4 (by rw [hg, e]))⟩, ⟨_, hr, ?_⟩, h1, h2, h3, h4⟩, ht, ?_⟩
  · simpa using hf2
  · intro j v hj
    obtain ⟨hlt, hv⟩ := List.getElem?_eq_some_iff.1 hj
    rw [add_plain, hr.cell (by omega), if_pos (by omega), show 3 + j - 3 = j by omega]
    simp [List.getD, hj]

/-- what a put leaves -/
def Put (ib wb rb b m : Nat) (go : Option Nat) (all : List Value) (w : World) (e : Ending) (w' : World) : Prop :=
  e = .returned (.tuple #[]) ∧ ∃ go2, Wr ib wb rb b m go2 all w' ∧ Turned (fun i => i = ib ∨ i = wb ∨ i = rb ∨ i = b ∨ some i = go) w w' ∧ (go2 = go ∨ ∃ r, go2 = some r ∧ w.heap.size ≤ r)

/-- behind bufio's Write -/
theorem put_end {ib wb rb b m n : Nat} {go : Option Nat} {row : Array Value} {bs all ps : List Value} {w w1 w2 : World} {e : Ending} (hn : n % m = 0) (h4096 : 4096 % m = 0) (hw : Wr ib wb rb b m go all w1) (ht : Turned (fun i => i = ib) w w1)
    (hh : Holds wb rb b n go row bs all w1) (hwr : WroteB wb rb b m n go all ps w1 e w2) :
    e = .returned (.tuple #[.int .i64 m, .nilIface]) ∧ Put ib wb rb b m go (all ++ ps) w (.returned (.tuple #[])) w2 := by
  obtain ⟨rfl, n2, go2, row2, bs2, hh2, hn2, ht2, hg2⟩ := hwr
  obtain ⟨-, ⟨f, hf, hf2⟩, h1, h2, h3, h4⟩ := hw
  have hiblt := hf.lt
  have hib2 : w2.heap[ib]? = w1.heap[ib]? := ht2.block ib hiblt (by rintro (e | e | e | e); exact h1 e; exact h2 e; exact h3 e; exact h4 e)
  refine ⟨rfl, rfl, go2, ⟨⟨n2, row2, bs2, ?_, hh2⟩, ⟨f, hf.of_block hib2, hf2⟩, h1, h2, h3, ?_⟩, ?_, ?_⟩
  · rcases hn2 with e | ⟨e1, e2⟩
    · rw [e, Nat.add_mod_right, hn]
    · rw [e2, Nat.mod_self]
  · rintro e
    rcases hg2 with e' | ⟨r, e', hr⟩
    · exact h4 (e.trans e')
    · rw [e'] at e
      simp only [Option.some.injEq] at e
      omega
  · refine (ht.mono (fun i hi => .inl hi)).trans ht2 fun i hi => .inl (.inr hi)
  · rcases hg2 with e' | ⟨r, e', hr⟩
    · exact .inl e'
    · exact .inr ⟨r, e', Nat.le_trans ht.size hr⟩

theorem be4_one (v : Int) : ∀ u ∈ be4 v, u.oneCell' = true := by intro u hu; simp [be4] at hu; rcases hu with rfl | rfl | rfl | rfl <;> rfl
theorem be8_one (v : Int) : ∀ u ∈ be8 v, u.oneCell' = true := by intro u hu; simp [be8] at hu; rcases hu with rfl | rfl | rfl | rfl | rfl | rfl | rfl | rfl <;> rfl

theorem Wr.cell2 {ib wb rb b m : Nat} {go : Option Nat} {all : List Value} {w : World} (h : Wr ib wb rb b m go all w) : w.cell? ⟨ib, 2, none⟩ = some (.pointer (some ⟨wb, 0, none⟩)) := by
  obtain ⟨-, ⟨f, hf, hf2⟩, -⟩ := h
  rw [hf.cell (by omega), hf2]

/-- bufio's Write of m bytes that lie in the struct's own array -/
theorem put_core (ib wb rb b m : Nat) (go : Option Nat) (all ps : List Value) (w w1 : World) (hm : m = 4 ∨ m = 8) (hps : ps.length = m) (h1 : ∀ v ∈ ps, v.oneCell' = true) (hlim : all.length ≤ 536870912)
    (h : Wr ib wb rb b m go all w1 ∧ Turned (fun i => i = ib) w w1 ∧ ∀ j v, ps[j]? = some v → w1.cell? ((⟨ib, 3, none⟩ : Addr).add j) = some v) :
    Calls Tryd.prog 18 #[.pointer (some ⟨wb, 0, none⟩), .slice (some ⟨ib, 3, none⟩) m 8] w1 fun e w2 => e = .returned (.tuple #[.int .i64 m, .nilIface]) ∧ Put ib wb rb b m go (all ++ ps) w (.returned (.tuple #[])) w2 := by
  obtain ⟨hw, ht, hsrc⟩ := h
  obtain ⟨⟨n, row, bs, hn, hh⟩, ⟨f, hf, hf2⟩, e1, e2, e3, e4⟩ := id hw
  have hn4 := hh.bw.nle
  refine (bwrite_walk wb rb b ib m n go row bs all ps w1 hh (by omega) (by omega) hps ?_ hlim hsrc h1 e1 e2 e3 e4 hf.lt).mono fun e w2 hwr => ?_
  · rcases hm with rfl | rfl <;> omega
  · exact put_end hn (by rcases hm with rfl | rfl <;> rfl) hw ht hh hwr

set_option maxHeartbeats 1000000 in
theorem put32_walk (ib wb rb b : Nat) (go : Option Nat) (all : List Value) (v : Nat) (w : World) (hv : v < 4294967296) (h : Wr ib wb rb b 4 go all w) (hlim : all.length ≤ 536870912) :
    Calls Tryd.prog 13 #[.pointer (some ⟨ib, 0, none⟩), .int .u32 v] w (Put ib wb rb b 4 go (all ++ be4 v) w) := by
  have c2 := h.cell2
  obtain ⟨f, hf, hf2⟩ := h.2.1
  have HA := hide (app32_walk ib v f w.drew hv hf)
  have HE := hide (app_end (k := 4) (ps := be4 v) (w := w.drew) h.drew rfl (by omega) (.cells #[] 61) (.cells (be4 v).toArray 5))
  have HC := fun w1 h => hide (put_core ib wb rb b 4 go all (be4 v) w.drew w1 (.inl rfl) rfl (be4_one _) hlim h)
  clear h hf hf2
  go_enter Tryd.func13, Tryd.ntmps13
  go_wp2_with fail
  go_region_held3 (fun w' => w'.cell? ⟨ib, 2, none⟩ = some (.pointer (some ⟨wb, 0, none⟩))) (go_keep)
      ((first | (go_at_call 19; refine HA.out.mono ?_; rintro e w1 ⟨rfl, h1⟩; have H1 := hide h1; have d2 : w1.cell? ⟨ib, 2, none⟩ = some (.pointer (some ⟨wb, 0, none⟩)) := (show w1.cell? _ = _ by rw [h1]; exact HE.out.1.cell2); clear h1) | (go_at_call 18; refine (HC w1 (by rw [H1.out]; exact HE.out)).out.mono ?_; rintro e w2 ⟨rfl, hput⟩; have HP := hide hput; have d3 : w2.cell? ⟨ib, 2, none⟩ = some (.pointer (some ⟨wb, 0, none⟩)) := (show w2.cell? _ = _ by obtain ⟨-, go2, hw2, -⟩ := hput; exact hw2.cell2); clear hput)))
  go_wp2
  go_end0
  obtain ⟨-, go2, q1, q2, q3⟩ := HP.out
  exact ⟨rfl, go2, q1, (Turned.refl _ w).drew.trans q2 (fun i hi => .inl hi), q3⟩

set_option maxHeartbeats 1000000 in
theorem put64_walk (ib wb rb b : Nat) (go : Option Nat) (all : List Value) (v : Nat) (w : World) (hv : v < 18446744073709551616) (h : Wr ib wb rb b 8 go all w) (hlim : all.length ≤ 536870912) :
    Calls Tryd.prog 16 #[.pointer (some ⟨ib, 0, none⟩), .int .u64 v] w (Put ib wb rb b 8 go (all ++ be8 v) w) := by
  have c2 := h.cell2
  obtain ⟨f, hf, hf2⟩ := h.2.1
  have HA := hide (app64_walk ib v f w.drew hv hf)
  have HE := hide (app_end (k := 8) (ps := be8 v) (w := w.drew) h.drew rfl (by omega) (.cells #[] 61) (.cells (be8 v).toArray 5))
  have HC := fun w1 h => hide (put_core ib wb rb b 8 go all (be8 v) w.drew w1 (.inr rfl) rfl (be8_one _) hlim h)
  clear h hf hf2
  go_enter Tryd.func16, Tryd.ntmps16
  go_wp2_with fail
  go_region_held3 (fun w' => w'.cell? ⟨ib, 2, none⟩ = some (.pointer (some ⟨wb, 0, none⟩))) (go_keep)
      ((first | (go_at_call 20; refine HA.out.mono ?_; rintro e w1 ⟨rfl, h1⟩; have H1 := hide h1; have d2 : w1.cell? ⟨ib, 2, none⟩ = some (.pointer (some ⟨wb, 0, none⟩)) := (show w1.cell? _ = _ by rw [h1]; exact HE.out.1.cell2); clear h1) | (go_at_call 18; refine (HC w1 (by rw [H1.out]; exact HE.out)).out.mono ?_; rintro e w2 ⟨rfl, hput⟩; have HP := hide hput; have d3 : w2.cell? ⟨ib, 2, none⟩ = some (.pointer (some ⟨wb, 0, none⟩)) := (show w2.cell? _ = _ by obtain ⟨-, go2, hw2, -⟩ := hput; exact hw2.cell2); clear hput)))
  go_wp2
  go_end0
  obtain ⟨-, go2, q1, q2, q3⟩ := HP.out
  exact ⟨rfl, go2, q1, (Turned.refl _ w).drew.trans q2 (fun i hi => .inl hi), q3⟩
end Go.Proofs.Qxb6614306aDoor
