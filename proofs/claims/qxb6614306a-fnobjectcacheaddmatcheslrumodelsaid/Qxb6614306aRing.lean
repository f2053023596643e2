/-
  container/list at this dump: THE RING of a list that lies at cell 4 of block cb, its elements the blocks es: lazyInit, PushFront, PushBack, Back, Remove of the last, Front, Next.
-/
import Derived.Test.Qxb6614306aList
namespace Go.Proofs.Qxb6614306a
open Go.RowKit Go.WideShapes
set_option linter.unusedVariables false

/-- no cell has turned but those that S names -/
structure Wrote (S : Nat → Nat → Prop) (w w' : World) : Prop where
  os : w'.os = w.os
  tape : w'.tape = w.tape
  output : w'.output = w.output
  size : w.heap.size ≤ w'.heap.size
  cell : ∀ b i v, ¬ S b i → Has w b i v → Has w' b i v
  block : ∀ k, k < w.heap.size → (∀ i, ¬ S k i) → w'.heap[k]? = w.heap[k]?

theorem Wrote.refl (S : Nat → Nat → Prop) (w : World) : Wrote S w w := ⟨rfl, rfl, rfl, Nat.le_refl _, fun _ _ _ _ h => h, fun _ _ _ => rfl⟩
theorem Wrote.mono {S T : Nat → Nat → Prop} {w w' : World} (h : Wrote S w w') (k : ∀ b i, b < w.heap.size → S b i → T b i) : Wrote T w w' :=
  ⟨h.os, h.tape, h.output, h.size, fun b i v hT hv => h.cell b i v (fun hS => hT (k b i hv.lt hS)) hv, fun b hb hT => h.block b hb fun i hS => hT i (k b i hb hS)⟩
theorem Wrote.trans {S : Nat → Nat → Prop} {a b c : World} (h : Wrote S a b) (k : Wrote S b c) : Wrote S a c :=
  ⟨k.os.trans h.os, k.tape.trans h.tape, k.output.trans h.output, Nat.le_trans h.size k.size, fun x i v hS hv => k.cell x i v hS (h.cell x i v hS hv), fun x hx hS => (k.block x (Nat.lt_of_lt_of_le hx h.size) hS).trans (h.block x hx hS)⟩
theorem Wrote.drew {S : Nat → Nat → Prop} {w w' : World} (h : Wrote S w w') : Wrote S w w'.drew := ⟨h.os, h.tape, h.output, h.size, h.cell, h.block⟩
theorem Wrote.drewN {S : Nat → Nat → Prop} {w w' : World} (h : Wrote S w w') (n : Nat) : Wrote S w (w'.drewN n) := ⟨h.os, h.tape, h.output, h.size, h.cell, h.block⟩
theorem Wrote.alloc {S : Nat → Nat → Prop} {w w' : World} (h : Wrote S w w') (o : Obj) : Wrote S w (w'.alloc o) :=
  h.trans ⟨rfl, rfl, rfl, by simp, fun b i v _ hv => hv.alloc o, fun k hk _ => Below.heap_alloc _ _ _ hk⟩
theorem Wrote.setCell {S : Nat → Nat → Prop} {w w' : World} (h : Wrote S w w') {b i : Nat} (hb : S b i ∨ w.heap.size ≤ b) (x : Value) : Wrote S w (w'.setCell ⟨b, i, none⟩ x) := by
  refine ⟨h.os, h.tape, h.output, by simpa using h.size, fun c j v hS hv => ?_, fun k hk hS => ?_⟩
  · refine (h.cell c j v hS hv).other ?_ x
    have := hv.lt
    by_cases e : b = c
    · subst e
      exact Or.inr fun e2 => by subst e2; rcases hb with h1 | h1; exact hS h1; omega
    · exact Or.inl e
  · rw [Below.heap_setCell _ _ _ _ (show k ≠ b from fun e => by subst e; rcases hb with h1 | h1; exact hS i h1; omega)]
    exact h.block k hk hS
theorem Wrote.turned {S : Nat → Nat → Prop} {w w' : World} (h : Wrote S w w') {T : Nat → Prop} (hT : ∀ k i, S k i → T k) : Turned T w w' :=
  ⟨h.os, h.tape, h.output, h.size, fun k hk hn => h.block k hk fun i hs => hn (hT k i hs)⟩

/-- a pointer to a node -/
abbrev pt (b o : Nat) : Value := .pointer (some ⟨b, o, none⟩)

/-- the cells that an insertion of e between a and n turns -/
def SIns (lb lo eb ab ao nb no : Nat) (b i : Nat) : Prop := (b = eb ∧ i < 3) ∨ (b = ab ∧ i = ao) ∨ (b = nb ∧ i = no + 1) ∨ (b = lb ∧ i = lo + 4)

structure Inserted (lb lo eb ab ao nb no n : Nat) (w w' : World) : Prop where
  n0 : Has w' eb 0 (pt nb no)
  p0 : Has w' eb 1 (pt ab ao)
  l0 : Has w' eb 2 (pt lb lo)
  na : Has w' ab ao (pt eb 0)
  pn : Has w' nb (no + 1) (pt eb 0)
  len : Has w' lb (lo + 4) (.int .i64 (n + 1))
  frame : Wrote (SIns lb lo eb ab ao nb no) w w'
  size : w'.heap.size = w.heap.size

theorem insert_ok (lb lo eb ab ao nb no n : Nat) (c0 c1 c2 pv : Value) (w : World) (he1 : eb ≠ ab) (he2 : eb ≠ nb) (he3 : eb ≠ lb) (hn : n ≤ 1048576)
    (e0 : Has w eb 0 c0) (e1 : Has w eb 1 c1) (e2 : Has w eb 2 c2) (ha : Has w ab ao (pt nb no)) (hp : Has w nb (no + 1) pv) (hl : Has w lb (lo + 4) (.int .i64 n))
    (hd1 : ab ≠ nb ∨ ao ≠ no + 1) (hd2 : ab ≠ lb ∨ ao ≠ lo + 4) (hd3 : nb ≠ lb ∨ no + 1 ≠ lo + 4) :
    Calls Try.prog 50 #[pt lb lo, pt eb 0, pt ab ao] w fun e w' => e = .returned (pt eb 0) ∧ Inserted lb lo eb ab ao nb no n w w' := by
  refine (insert_walk lb lo eb ab ao nb no n c0 c1 c2 pv w he1 he2 he3 hn e0.cell e1.cell e2.cell (e0.frozen _) (e0.frozen _) (e0.frozen _) ha.cell (ha.frozen _) hp.cell (hp.frozen _) hl.cell (hl.frozen _)
    (by simp; omega) (by simp; omega) (by simp; omega)).mono ?_
  rintro e w' ⟨rfl, rfl⟩
  refine ⟨rfl, ?_, ?_, ?_, ?_, ?_, ?_, ?_, ?_⟩
  · exact (((((e0.other (by omega) _).same _).other (by omega) _).other (by omega) _).other (by omega) _).other (by omega) _
  · exact (((((e1.same _).other (by omega) _).other (by omega) _).other (by omega) _).other (by omega) _).other (by omega) _
  · exact (((((e2.other (by omega) _).other (by omega) _).other (by omega) _).other (by omega) _).same _).other (by omega) _
  · exact (((((ha.other (by omega) _).other (by omega) _).same _).other (by omega) _).other (by omega) _).other (by omega) _
  · exact (((((hp.other (by omega) _).other (by omega) _).other (by omega) _).same _).other (by omega) _).other (by omega) _
  · exact (((((hl.other (by omega) _).other (by omega) _).other (by omega) _).other (by omega) _).other (by omega) _).same _
  · exact ((((((Wrote.refl _ w).setCell (.inl (.inl ⟨rfl, by omega⟩)) _).setCell (.inl (.inl ⟨rfl, by omega⟩)) _).setCell (.inl (.inr (.inl ⟨rfl, rfl⟩))) _).setCell (.inl (.inr (.inr (.inl ⟨rfl, rfl⟩)))) _).setCell (.inl (.inl ⟨rfl, by omega⟩)) _).setCell (.inl (.inr (.inr (.inr ⟨rfl, rfl⟩)))) _
  · simp

structure Removed (lb lo eb ab ao nb no n : Nat) (w w' : World) : Prop where
  na : Has w' ab ao (pt nb no)
  pn : Has w' nb (no + 1) (pt ab ao)
  len : Has w' lb (lo + 4) (.int .i64 n)
  frame : Wrote (SIns lb lo eb ab ao nb no) w w'

theorem remove_ok (lb lo eb ab ao nb no n : Nat) (c2 av pv : Value) (w : World) (he1 : eb ≠ ab) (he2 : eb ≠ nb) (he3 : eb ≠ lb) (hn : n ≤ 1048576)
    (e0 : Has w eb 0 (pt nb no)) (e1 : Has w eb 1 (pt ab ao)) (e2 : Has w eb 2 c2) (ha : Has w ab ao av) (hp : Has w nb (no + 1) pv) (hl : Has w lb (lo + 4) (.int .i64 (n + 1)))
    (hd1 : ab ≠ nb ∨ ao ≠ no + 1) (hd2 : ab ≠ lb ∨ ao ≠ lo + 4) (hd3 : nb ≠ lb ∨ no + 1 ≠ lo + 4) :
    Calls Try.prog 38 #[pt lb lo, pt eb 0] w fun e w' => e = .returned (.tuple #[]) ∧ Removed lb lo eb ab ao nb no n w w' := by
  refine (remove_walk lb lo eb ab ao nb no n c2 w he1 he2 he3 hn e0.cell e1.cell e2.cell (e0.frozen _) (e0.frozen _) (e0.frozen _) av pv ha.cell (ha.frozen _) hp.cell (hp.frozen _) hl.cell (hl.frozen _)
    (by simp; omega) (by simp; omega) (by simp; omega)).mono ?_
  rintro e w' ⟨rfl, rfl⟩
  refine ⟨rfl, ?_, ?_, ?_, ?_⟩
  · exact ((((((ha.same _).other (by omega) _).other (by omega) _).other (by omega) _).other (by omega) _).other (by omega) _).drew.drew
  · exact ((((((hp.other (by omega) _).same _).other (by omega) _).other (by omega) _).other (by omega) _).other (by omega) _).drew.drew
  · exact ((((((hl.other (by omega) _).other (by omega) _).other (by omega) _).other (by omega) _).other (by omega) _).same _).drew.drew
  · exact (((((((Wrote.refl _ w).setCell (.inl (.inr (.inl ⟨rfl, rfl⟩))) _).setCell (.inl (.inr (.inr (.inl ⟨rfl, rfl⟩)))) _).setCell (.inl (.inl ⟨rfl, by omega⟩)) _).setCell (.inl (.inl ⟨rfl, by omega⟩)) _).setCell (.inl (.inl ⟨rfl, by omega⟩)) _).setCell (.inl (.inr (.inr (.inr ⟨rfl, rfl⟩)))) _).drew.drew

/-! ### The chain -/
def Link (w : World) (ab ao bb bo : Nat) : Prop := Has w ab ao (pt bb bo) ∧ Has w bb (bo + 1) (pt ab ao)
def Chain (w : World) : Nat → Nat → List Nat → Nat → Nat → Prop
  | pb, po, [], qb, qo => Link w pb po qb qo
  | pb, po, e :: l, qb, qo => Link w pb po e 0 ∧ Chain w e 0 l qb qo

theorem Chain.split {w : World} : ∀ {l1 : List Nat} {pb po e : Nat} {l2 : List Nat} {qb qo : Nat}, Chain w pb po (l1 ++ e :: l2) qb qo → Chain w pb po l1 e 0 ∧ Chain w e 0 l2 qb qo
  | [], pb, po, e, l2, qb, qo, h => h
  | x :: l1, pb, po, e, l2, qb, qo, h => ⟨⟨h.1, (Chain.split (l1 := l1) h.2).1⟩, (Chain.split (l1 := l1) h.2).2⟩
theorem Chain.join {w : World} : ∀ {l1 : List Nat} {pb po e : Nat} {l2 : List Nat} {qb qo : Nat}, Chain w pb po l1 e 0 → Chain w e 0 l2 qb qo → Chain w pb po (l1 ++ e :: l2) qb qo
  | [], pb, po, e, l2, qb, qo, h, k => ⟨h, k⟩
  | x :: l1, pb, po, e, l2, qb, qo, h, k => ⟨h.1, Chain.join (l1 := l1) h.2 k⟩
theorem Chain.keep {S : Nat → Nat → Prop} {w w' : World} (hw : Wrote S w w') : ∀ {l : List Nat} {pb po qb qo : Nat}, Chain w pb po l qb qo → ¬ S pb po → ¬ S qb (qo + 1) → (∀ e ∈ l, ¬ S e 0 ∧ ¬ S e 1) → Chain w' pb po l qb qo
  | [], pb, po, qb, qo, h, h1, h2, _ => ⟨hw.cell _ _ _ h1 h.1, hw.cell _ _ _ h2 h.2⟩
  | x :: l, pb, po, qb, qo, h, h1, h2, hl => ⟨⟨hw.cell _ _ _ h1 h.1.1, hw.cell _ _ _ (hl x (by simp)).2 h.1.2⟩, Chain.keep hw h.2 (hl x (by simp)).1 h2 fun e he => hl e (by simp [he])⟩
theorem Chain.last {w : World} : ∀ {l : List Nat} {pb po qb qo : Nat}, Chain w pb po l qb qo → ∃ v, Has w qb (qo + 1) v
  | [], _, _, _, _, h => ⟨_, h.2⟩
  | _ :: _, _, _, _, _, h => Chain.last h.2
theorem Chain.first {w : World} : ∀ {l : List Nat} {pb po qb qo : Nat}, Chain w pb po l qb qo → ∃ v, Has w pb po v
  | [], _, _, _, _, h => ⟨_, h.1⟩
  | _ :: _, _, _, _, _, h => ⟨_, h.1.1⟩

/-- the list at cell 4 of block cb holds the elements es -/
structure Ring (cb : Nat) (es : List Nat) (w : World) : Prop where
  len : Has w cb 8 (.int .i64 es.length)
  chain : Chain w cb 4 es cb 4
  own : ∀ e ∈ es, Has w e 2 (pt cb 4)
  nodup : es.Nodup
  ne : ∀ e ∈ es, e ≠ cb

/-- nothing was ever put in -/
structure Unset (cb : Nat) (w : World) : Prop where
  len : Has w cb 8 (.int .i64 0)
  nx : Has w cb 4 (.pointer none)
  pv : Has w cb 5 (.pointer none)

/-- the cells of a list's own -/
def SRing (cb : Nat) (es : List Nat) (b i : Nat) : Prop := (b = cb ∧ (i = 4 ∨ i = 5 ∨ i = 8)) ∨ (b ∈ es ∧ i < 3)

theorem lazy_unset {cb : Nat} {w : World} (h : Unset cb w) : Calls Try.prog 39 #[pt cb 4] w fun e w' => e = .returned (.tuple #[]) ∧ Ring cb [] w' ∧ Wrote (SRing cb []) w w' := by
  refine (lazy_init cb 4 (.pointer none) _ _ w h.nx.cell h.pv.cell h.len.cell (h.nx.frozen _) (h.nx.frozen _) (h.nx.frozen _)).mono ?_
  rintro e w' ⟨rfl, rfl⟩
  refine ⟨rfl, ⟨?_, ⟨?_, ?_⟩, by simp, by simp, by simp⟩, ?_⟩
  · exact ((h.len.other (by omega) _).other (by omega) _).same _
  · exact ((h.nx.same _).other (by omega) _).other (by omega) _
  · exact ((h.pv.other (by omega) _).same _).other (by omega) _
  · exact (((Wrote.refl _ w).setCell (.inl (.inl ⟨rfl, .inl rfl⟩)) _).setCell (.inl (.inl ⟨rfl, .inr (.inl rfl)⟩)) _).setCell (.inl (.inl ⟨rfl, .inr (.inr rfl)⟩)) _

theorem lazy_ring {cb : Nat} {es : List Nat} {w : World} (h : Ring cb es w) : Calls Try.prog 39 #[pt cb 4] w fun e w' => e = .returned (.tuple #[]) ∧ Ring cb es w' ∧ Wrote (SRing cb es) w w' := by
  have hc := h.chain
  cases es with
  | nil =>
    refine (lazy_done cb 4 _ w hc.1.cell).mono ?_
    rintro e w' ⟨rfl, rfl⟩
    exact ⟨rfl, h, Wrote.refl _ _⟩
  | cons x l =>
    refine (lazy_done cb 4 _ w hc.1.1.cell).mono ?_
    rintro e w' ⟨rfl, rfl⟩
    exact ⟨rfl, h, Wrote.refl _ _⟩

/-! ### Putting in -/
/-- what a push hands back: a new element x that bears v; the ring es' x -/
def Pushed (cb : Nat) (es : List Nat) (f : Nat → List Nat) (v : Value) (w : World) (e : Ending) (w' : World) : Prop :=
  ∃ x, w.heap.size ≤ x ∧ e = .returned (pt x 0) ∧ Ring cb (f x) w' ∧ Has w' x 3 v ∧ Wrote (SRing cb es) w w'

/-- the block of a new element -/
abbrev newElem (v : Value) : Obj := .cells #[.pointer none, .pointer none, .pointer none, v] 85

theorem newElem_has (w : World) (v : Value) : Has (w.alloc (newElem v)) w.heap.size 0 (.pointer none) ∧ Has (w.alloc (newElem v)) w.heap.size 1 (.pointer none) ∧ Has (w.alloc (newElem v)) w.heap.size 2 (.pointer none) ∧ Has (w.alloc (newElem v)) w.heap.size 3 v :=
  ⟨⟨_, _, Go.Deep.blk_alloc_new _ _, rfl⟩, ⟨_, _, Go.Deep.blk_alloc_new _ _, rfl⟩, ⟨_, _, Go.Deep.blk_alloc_new _ _, rfl⟩, ⟨_, _, Go.Deep.blk_alloc_new _ _, rfl⟩⟩

/-- insertValue, over insert -/
theorem insertValue_ok (cb ab ao nb no n : Nat) (t : TypeId) (u pv : Value) (w : World) (hn : n ≤ 1048576)
    (ha : Has w ab ao (pt nb no)) (hp : Has w nb (no + 1) pv) (hl : Has w cb 8 (.int .i64 n))
    (hd1 : ab ≠ nb ∨ ao ≠ no + 1) (hd2 : ab ≠ cb ∨ ao ≠ 8) (hd3 : nb ≠ cb ∨ no + 1 ≠ 8) :
    Calls Try.prog 40 #[pt cb 4, .iface t u, pt ab ao] w fun e w' => e = .returned (pt w.heap.size 0) ∧ Inserted cb 4 w.heap.size ab ao nb no n (w.alloc (newElem (.iface t u))) w' := by
  have hnew := newElem_has w (.iface t u)
  have la := ha.lt
  have lp := hp.lt
  have ll := hl.lt
  have hc := insert_ok cb 4 w.heap.size ab ao nb no n _ _ _ pv (w.alloc (newElem (.iface t u))) (by omega) (by omega) (by omega) hn hnew.1 hnew.2.1 hnew.2.2.1 (ha.alloc _) (hp.alloc _) (hl.alloc _) hd1 hd2 hd3
  go_enter Try.func40, Try.ntmps40
  go_wp2_with (go_at_call 50; refine hc.mono ?_; rintro e w' ⟨rfl, h⟩)
  go_ret
  exact ⟨rfl, h⟩

theorem Ring.lt {cb : Nat} {es : List Nat} {w : World} (h : Ring cb es w) {e : Nat} (he : e ∈ es) : e < w.heap.size := (h.own e he).lt

theorem iv_front {cb : Nat} {es : List Nat} {w : World} (h : Ring cb es w) (hn : es.length ≤ 1048576) (t : TypeId) (u : Value) :
    Calls Try.prog 40 #[pt cb 4, .iface t u, pt cb 4] w (Pushed cb es (fun x => x :: es) (.iface t u) w) := by
  have hcl := h.len.lt
  have hnew := newElem_has w (.iface t u)
  have hc := h.chain
  cases es with
  | nil =>
    refine (insertValue_ok cb cb 4 cb 4 0 t u _ w (by omega) hc.1 hc.2 h.len (by omega) (by omega) (by omega)).mono ?_
    rintro e w' ⟨rfl, k⟩
    have k' : Wrote (SIns cb 4 w.heap.size cb 4 cb 4) w w' := ((Wrote.refl _ w).alloc _).trans k.frame
    refine ⟨w.heap.size, Nat.le_refl _, rfl, ⟨k.len, ⟨⟨k.na, k.p0⟩, ⟨k.n0, k.pn⟩⟩, ?_, by simp, ?_⟩, k.frame.cell _ _ _ (by unfold SIns; omega) hnew.2.2.2, k'.mono ?_⟩
    · intro e he
      simp only [List.mem_cons, List.not_mem_nil, or_false] at he
      exact he ▸ k.l0
    · intro e he
      simp only [List.mem_cons, List.not_mem_nil, or_false] at he
      omega
    · intro b i hb hS
      unfold SIns at hS
      unfold SRing
      omega
  | cons y l =>
    have hy := h.ne y (by simp)
    have hyl := h.lt (e := y) (by simp)
    have hnd := List.nodup_cons.1 h.nodup
    refine (insertValue_ok cb cb 4 y 0 (y :: l).length t u _ w (by omega) hc.1.1 hc.1.2 h.len (by omega) (by omega) (by omega)).mono ?_
    rintro e w' ⟨rfl, k⟩
    have k' : Wrote (SIns cb 4 w.heap.size cb 4 y 0) w w' := ((Wrote.refl _ w).alloc _).trans k.frame
    refine ⟨w.heap.size, Nat.le_refl _, rfl, ⟨?_, ⟨⟨k.na, k.p0⟩, ⟨k.n0, k.pn⟩, Chain.keep k' hc.2 (by unfold SIns; omega) (by unfold SIns; omega) ?_⟩, ?_, ?_, ?_⟩, k.frame.cell _ _ _ (by unfold SIns; omega) hnew.2.2.2, k'.mono ?_⟩
    · have := k.len
      rw [List.length_cons (a := w.heap.size)]
      exact this
    · intro e he
      have h1 := h.lt (e := e) (by simp [he])
      have h2 := h.ne e (by simp [he])
      have h3 : e ≠ y := fun x => hnd.1 (x ▸ he)
      unfold SIns
      constructor <;> omega
    · intro e he
      rcases List.mem_cons.1 he with rfl | he
      · exact k.l0
      · have h1 := h.lt he
        have h2 := h.ne e he
        exact k'.cell _ _ _ (by unfold SIns; omega) (h.own e he)
    · exact List.nodup_cons.2 ⟨fun hm => absurd (h.lt hm) (Nat.lt_irrefl _), h.nodup⟩
    · intro e he
      rcases List.mem_cons.1 he with rfl | he
      · omega
      · exact h.ne e he
    · intro b i hb hS
      unfold SIns at hS
      unfold SRing
      rcases hS with hS | hS | ⟨rfl, hS⟩ | hS
      · omega
      · omega
      · exact .inr ⟨by simp, by omega⟩
      · omega

theorem iv_back_none {cb : Nat} {w : World} (h : Ring cb [] w) (t : TypeId) (u : Value) :
    Calls Try.prog 40 #[pt cb 4, .iface t u, pt cb 4] w (Pushed cb [] (fun x => [] ++ [x]) (.iface t u) w) := iv_front h (by simp) t u

theorem iv_back_some {cb : Nat} {l : List Nat} {y : Nat} {w : World} (h : Ring cb (l ++ [y]) w) (hn : (l ++ [y]).length ≤ 1048576) (t : TypeId) (u : Value) :
    Calls Try.prog 40 #[pt cb 4, .iface t u, pt y 0] w (Pushed cb (l ++ [y]) (fun x => (l ++ [y]) ++ [x]) (.iface t u) w) := by
  have hcl := h.len.lt
  have hnew := newElem_has w (.iface t u)
  obtain ⟨hc1, hc2⟩ := Chain.split h.chain
  have hy := h.ne y (by simp)
  have hyl := h.lt (e := y) (by simp)
  have hnd := h.nodup
  rw [List.nodup_append] at hnd
  refine (insertValue_ok cb y 0 cb 4 (l ++ [y]).length t u _ w (by omega) hc2.1 hc2.2 h.len (by omega) (by omega) (by omega)).mono ?_
  rintro e w' ⟨rfl, k⟩
  have k' : Wrote (SIns cb 4 w.heap.size y 0 cb 4) w w' := ((Wrote.refl _ w).alloc _).trans k.frame
  refine ⟨w.heap.size, Nat.le_refl _, rfl, ⟨?_, ?_, ?_, ?_, ?_⟩, k.frame.cell _ _ _ (by unfold SIns; omega) hnew.2.2.2, k'.mono ?_⟩
  · have e : ((l ++ [y]) ++ [w.heap.size]).length = (l ++ [y]).length + 1 := List.length_append
    show Has w' cb 8 (.int .i64 (((l ++ [y]) ++ [w.heap.size]).length : Nat))
    rw [e]
    exact k.len
  · refine Chain.join (Chain.join (Chain.keep k' hc1 (by unfold SIns; omega) (by unfold SIns; omega) ?_) ⟨k.na, k.p0⟩) ⟨k.n0, k.pn⟩
    intro e he
    have h1 := h.lt (e := e) (by simp [he])
    have h2 := h.ne e (by simp [he])
    have h3 : e ≠ y := hnd.2.2 e he y (by simp)
    unfold SIns
    constructor <;> omega
  · intro e he
    rcases List.mem_append.1 he with he | he
    · have h1 := h.lt he
      have h2 := h.ne e he
      exact k'.cell _ _ _ (by unfold SIns; omega) (h.own e he)
    · simp only [List.mem_cons, List.not_mem_nil, or_false] at he
      exact he ▸ k.l0
  · rw [List.nodup_append]
    refine ⟨h.nodup, by simp, fun a ha b hb => ?_⟩
    simp only [List.mem_cons, List.not_mem_nil, or_false] at hb
    have := h.lt ha
    omega
  · intro e he
    rcases List.mem_append.1 he with he | he
    · exact h.ne e he
    · simp only [List.mem_cons, List.not_mem_nil, or_false] at he
      omega
  · intro b i hb hS
    unfold SIns at hS
    unfold SRing
    rcases hS with hS | ⟨rfl, hS⟩ | hS | hS
    · omega
    · exact .inr ⟨by simp, by omega⟩
    · omega
    · omega

/-! ### The last one taken out -/
structure Popped (cb : Nat) (l : List Nat) (y : Nat) (w w' : World) : Prop where
  ring : Ring cb l w'
  frame : Wrote (SRing cb (l ++ [y])) w w'

theorem remove_last {cb : Nat} {l : List Nat} {y : Nat} {w : World} (h : Ring cb (l ++ [y]) w) (hn : (l ++ [y]).length ≤ 1048576) :
    Calls Try.prog 38 #[pt cb 4, pt y 0] w fun e w' => e = .returned (.tuple #[]) ∧ Popped cb l y w w' := by
  obtain ⟨hc1, hc2⟩ := Chain.split h.chain
  have hy := h.ne y (by simp)
  have hnd := h.nodup
  rw [List.nodup_append] at hnd
  have hlen : Has w cb (4 + 4) (.int .i64 (l.length + 1)) := by
    have := h.len
    rw [List.length_append] at this
    exact this
  have hll : l.length ≤ 1048576 := by rw [List.length_append] at hn; omega
  rcases List.eq_nil_or_concat l with rfl | ⟨m, p, rfl⟩
  · refine (remove_ok cb 4 y cb 4 cb 4 0 _ _ _ w hy hy hy (by omega) hc2.1 hc1.2 (h.own y (by simp)) hc1.1 hc2.2 hlen (by omega) (by omega) (by omega)).mono ?_
    rintro e w' ⟨rfl, k⟩
    refine ⟨rfl, ⟨k.len, ⟨k.na, k.pn⟩, by simp, by simp, by simp⟩, k.frame.mono ?_⟩
    intro b i hb hS
    unfold SIns at hS
    unfold SRing
    rcases hS with ⟨rfl, hS⟩ | hS | hS | hS
    · exact .inr ⟨by simp, hS⟩
    · omega
    · omega
    · omega
  · rw [List.concat_eq_append] at *
    obtain ⟨hd1, hd2⟩ := Chain.split hc1
    have hp := h.ne p (by simp)
    have hpy : p ≠ y := hnd.2.2 p (by simp) y (by simp)
    have hnd1 := hnd.1
    rw [List.nodup_append] at hnd1
    refine (remove_ok cb 4 y p 0 cb 4 (m ++ [p]).length _ _ _ w (Ne.symm hpy) hy hy (by omega) hc2.1 hd2.2 (h.own y (by simp)) hd2.1 hc2.2 hlen (by omega) (by omega) (by omega)).mono ?_
    rintro e w' ⟨rfl, k⟩
    refine ⟨rfl, ⟨k.len, Chain.join (Chain.keep k.frame hd1 (by unfold SIns; omega) (by unfold SIns; omega) ?_) ⟨k.na, k.pn⟩, ?_, hnd.1, fun e he => h.ne e (List.mem_append_left _ he)⟩, k.frame.mono ?_⟩
    · intro e he
      have h2 := h.ne e (by simp [he])
      have h3 : e ≠ y := hnd.2.2 e (by simp [he]) y (by simp)
      have h4 : e ≠ p := hnd1.2.2 e he p (by simp)
      unfold SIns
      constructor <;> omega
    · intro e he
      have h2 := h.ne e (List.mem_append_left _ he)
      have h3 : e ≠ y := hnd.2.2 e he y (by simp)
      exact k.frame.cell _ _ _ (by unfold SIns; omega) (h.own e (List.mem_append_left _ he))
    · intro b i hb hS
      unfold SIns at hS
      unfold SRing
      rcases hS with ⟨rfl, hS⟩ | ⟨rfl, hS⟩ | hS | hS
      · exact .inr ⟨by simp, hS⟩
      · exact .inr ⟨by simp, by omega⟩
      · omega
      · omega

theorem Remove_last {cb : Nat} {l : List Nat} {y : Nat} {v : Value} {w : World} (h : Ring cb (l ++ [y]) w) (hn : (l ++ [y]).length ≤ 1048576) (hv : Has w y 3 v) :
    Calls Try.prog 32 #[pt cb 4, pt y 0] w fun e w' => e = .returned v ∧ Popped cb l y w w' := by
  have hq := eql_list ⟨cb, 4, none⟩ w
  have hl := (h.own y (by simp)).cell
  have hne := h.ne y (by simp)
  have hc := remove_last h hn
  have hval : ∀ w', Popped cb l y w w' → w'.cell? ⟨y, 3, none⟩ = some v := fun w' k => (k.frame.cell _ _ _ (by unfold SRing; omega) hv).cell
  clear h hv
  go_enter Try.func32, Try.ntmps32
  go_wp2_with (go_at_call 38; refine hc.mono ?_; rintro e w' ⟨rfl, k⟩; have hv' := hval w' k)
  go_ret
  exact ⟨rfl, k⟩

theorem Back_last {cb : Nat} {l : List Nat} {y : Nat} {w : World} (h : Ring cb (l ++ [y]) w) (hn : (l ++ [y]).length ≤ 1048576) :
    Calls Try.prog 33 #[pt cb 4] w fun e w' => e = .returned (pt y 0) ∧ w' = w := by
  have hlen : Has w cb (4 + 4) (.int .i64 (l.length + 1)) := by
    have := h.len
    rw [List.length_append] at this
    exact this
  rw [List.length_append] at hn
  exact back_some cb 4 l.length _ w (by omega) hlen.cell (Chain.split h.chain).2.2.cell

/-- the list holds es, or was never used -/
def Listed (cb : Nat) (es : List Nat) (w : World) : Prop := Ring cb es w ∨ (es = [] ∧ Unset cb w)

theorem Listed.len {cb : Nat} {es : List Nat} {w : World} (h : Listed cb es w) : Has w cb 8 (.int .i64 es.length) := by
  rcases h with h | ⟨rfl, h⟩
  · exact h.len
  · exact h.len

theorem Listed.ring {cb : Nat} {es : List Nat} {w : World} (h : Listed cb es w) (hne : es ≠ []) : Ring cb es w := by
  rcases h with h | ⟨rfl, h⟩
  · exact h
  · exact absurd rfl hne

theorem lazy_ok {cb : Nat} {es : List Nat} {w : World} (h : Listed cb es w) : Calls Try.prog 39 #[pt cb 4] w fun e w' => e = .returned (.tuple #[]) ∧ Ring cb es w' ∧ Wrote (SRing cb es) w w' := by
  rcases h with h | ⟨rfl, h⟩
  · exact lazy_ring h
  · exact lazy_unset h

theorem push_front {cb : Nat} {es : List Nat} {w : World} (h : Listed cb es w) (hn : es.length ≤ 1048576) (t : TypeId) (u : Value) :
    Calls Try.prog 34 #[pt cb 4, .iface t u] w (Pushed cb es (fun x => x :: es) (.iface t u) w) := by
  have hl := lazy_ok h
  clear h
  go_enter Try.func34, Try.ntmps34
  go_wp2_with (first
    | (go_at_call 39; refine hl.mono ?_; rintro e w1 ⟨rfl, hr, hw⟩)
    | (go_at_call 40; refine (iv_front hr hn t u).mono ?_; rintro e w2 ⟨x, hx, rfl, h1, h2, h3⟩))
  go_ret
  exact ⟨x, Nat.le_trans hw.size hx, rfl, h1, h2, hw.trans h3⟩

theorem push_back {cb : Nat} {es : List Nat} {w : World} (h : Listed cb es w) (hn : es.length ≤ 1048576) (t : TypeId) (u : Value) :
    Calls Try.prog 35 #[pt cb 4, .iface t u] w (Pushed cb es (fun x => es ++ [x]) (.iface t u) w) := by
  have hl := lazy_ok h
  clear h
  rcases List.eq_nil_or_concat es with rfl | ⟨l, y, rfl⟩
  · go_enter Try.func35, Try.ntmps35
    go_wp2_with (first
      | (go_at_call 39; refine hl.mono ?_; rintro e w1 ⟨rfl, hr, hw⟩; have hp := hr.chain.2.cell)
      | (go_at_call 40; refine (iv_back_none hr t u).mono ?_; rintro e w2 ⟨x, hx, rfl, h1, h2, h3⟩))
    go_ret
    exact ⟨x, Nat.le_trans hw.size hx, rfl, h1, h2, hw.trans h3⟩
  · rw [List.concat_eq_append] at *
    go_enter Try.func35, Try.ntmps35
    go_wp2_with (first
      | (go_at_call 39; refine hl.mono ?_; rintro e w1 ⟨rfl, hr, hw⟩; have hp := (Chain.split hr.chain).2.2.cell)
      | (go_at_call 40; refine (iv_back_some hr hn t u).mono ?_; rintro e w2 ⟨x, hx, rfl, h1, h2, h3⟩))
    go_ret
    exact ⟨x, Nat.le_trans hw.size hx, rfl, h1, h2, hw.trans h3⟩

/-- a pointer to the first of these, or nil -/
def headPt : List Nat → Value
  | [] => .pointer none
  | y :: _ => pt y 0

theorem front_ok {cb : Nat} {es : List Nat} {w : World} (h : Listed cb es w) (hn : es.length ≤ 1048576) : Calls Try.prog 27 #[pt cb 4] w fun e w' => e = .returned (headPt es) ∧ w' = w := by
  cases es with
  | nil => exact front_none cb 4 w h.len.cell
  | cons y l =>
    have hr := h.ring (by simp)
    exact front_some cb 4 l.length _ w (by simp only [List.length_cons] at hn; omega) (by have := hr.len.cell; rw [List.length_cons] at this; exact this) hr.chain.1.1.cell

theorem next_ok {cb : Nat} {l1 l2 : List Nat} {y : Nat} {w : World} (h : Ring cb (l1 ++ y :: l2) w) : Calls Try.prog 28 #[pt y 0] w fun e w' => e = .returned (headPt l2) ∧ w' = w := by
  have hc := (Chain.split h.chain).2
  have ho := h.own y (by simp)
  cases l2 with
  | nil => exact next_end cb 4 y w hc.1.cell ho.cell
  | cons z l =>
    have hz := h.ne z (by simp)
    exact next_on cb 4 y z w (neq_elem_other (h.own z (by simp)) h.len 0 4 hz) hc.1.1.cell ho.cell
end Go.Proofs.Qxb6614306a
