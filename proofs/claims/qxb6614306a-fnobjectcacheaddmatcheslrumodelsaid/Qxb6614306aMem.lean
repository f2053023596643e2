/-
  WHICH BLOCKS TURN ('Turned'); A MAP KEYED BY int64 that the call itself makes: its keys alone are told ('MapIs'): look-up with ok, store of a new key, delete of a key that is there, len.
-/
import Derived.Test.Qxb6614306aBytes
import Derived.Maps.OwnSet
import Derived.ChangeMaps4
import Derived.Lib.Buffer
namespace Go.Proofs.Qxb6614306a
open Go.RowKit Go.WideShapes Go.MapKept
open Go.ChangeMaps (setBlock)
set_option linter.unusedVariables false

/-- of the blocks of w none but those that T names has turned -/
structure Turned (T : Nat → Prop) (w w' : World) : Prop where
  os : w'.os = w.os
  tape : w'.tape = w.tape
  output : w'.output = w.output
  size : w.heap.size ≤ w'.heap.size
  block : ∀ k, k < w.heap.size → ¬ T k → w'.heap[k]? = w.heap[k]?

theorem Turned.refl (T : Nat → Prop) (w : World) : Turned T w w := ⟨rfl, rfl, rfl, Nat.le_refl _, fun _ _ _ => rfl⟩
theorem Turned.trans {T U : Nat → Prop} {a b c : World} (h : Turned T a b) (k : Turned U b c) (hU : ∀ i, U i → T i ∨ a.heap.size ≤ i) : Turned T a c :=
  ⟨k.os.trans h.os, k.tape.trans h.tape, k.output.trans h.output, Nat.le_trans h.size k.size, fun i hi hT => by
    rw [k.block i (Nat.lt_of_lt_of_le hi h.size) (fun hu => by rcases hU i hu with h1 | h1; exact hT h1; omega)]
    exact h.block i hi hT⟩
theorem Turned.mono {T U : Nat → Prop} {w w' : World} (h : Turned T w w') (hU : ∀ i, T i → U i) : Turned U w w' := ⟨h.os, h.tape, h.output, h.size, fun k hk hu => h.block k hk fun ht => hu (hU k ht)⟩
theorem Turned.drew {T : Nat → Prop} {w w' : World} (h : Turned T w w') : Turned T w w'.drew := ⟨h.os, h.tape, h.output, h.size, h.block⟩
theorem Turned.drewN {T : Nat → Prop} {w w' : World} (h : Turned T w w') (n : Nat) : Turned T w (w'.drewN n) := ⟨h.os, h.tape, h.output, h.size, h.block⟩
theorem Turned.alloc {T : Nat → Prop} {w w' : World} (h : Turned T w w') (o : Obj) : Turned T w (w'.alloc o) :=
  h.trans (U := fun _ => False) ⟨rfl, rfl, rfl, by simp, fun k hk _ => Below.heap_alloc _ _ _ hk⟩ (fun _ h => h.elim)
theorem Turned.setCell {T : Nat → Prop} {w w' : World} (h : Turned T w w') {a : Addr} (ha : T a.block ∨ w.heap.size ≤ a.block) (v : Value) : Turned T w (w'.setCell a v) :=
  h.trans (U := fun k => k = a.block) ⟨rfl, rfl, rfl, by simp [World.setCell], fun k _ hk => Below.heap_setCell _ _ _ _ hk⟩ (fun i hi => by subst hi; exact ha)
theorem heap_setBlock_other {w : World} {b k : Nat} {o : Obj} (h : k ≠ b) : (setBlock w b o).heap[k]? = w.heap[k]? := by
  show (w.heap.setIfInBounds b o)[k]? = _
  rw [Array.getElem?_setIfInBounds, if_neg (Ne.symm h)]
theorem heap_setBlock_same {w : World} {b : Nat} {o : Obj} (h : b < w.heap.size) : (setBlock w b o).heap[b]? = some o := by
  show (w.heap.setIfInBounds b o)[b]? = _
  simp [h]
theorem size_setBlock (w : World) (b : Nat) (o : Obj) : (setBlock w b o).heap.size = w.heap.size := by
  show (w.heap.setIfInBounds b o).size = _
  simp
theorem Turned.setBlock {T : Nat → Prop} {w w' : World} (h : Turned T w w') {b : Nat} (ha : T b ∨ w.heap.size ≤ b) (o : Obj) : Turned T w (ChangeMaps.setBlock w' b o) :=
  h.trans (U := fun k => k = b) ⟨rfl, rfl, rfl, by rw [size_setBlock]; exact Nat.le_refl _, fun k _ hk => heap_setBlock_other hk⟩ (fun i hi => by subst hi; exact ha)
theorem Turned.below {T : Nat → Prop} {w w' w2 : World} (h : Turned T w w') (hb : Below w'.heap.size w' w2) : Turned T w w2 :=
  h.trans (U := fun _ => False) ⟨hb.os, hb.tape, hb.output, hb.size, fun k hk _ => hb.block k hk⟩ (fun _ h => h.elim)
theorem Turned.toBelow {T : Nat → Prop} {w w' : World} (h : Turned T w w') {B : Nat} (hB : B ≤ w.heap.size) (hT : ∀ i, T i → B ≤ i) : Below B w w' :=
  ⟨h.os, h.tape, h.output, h.size, fun k hk => h.block k (by omega) fun ht => by have := hT k ht; omega⟩

/-! ### The map -/
/-- block mb is a map whose keys are K, in the order of their coming -/
def MapIs (mb : Nat) (K : List Int) (w : World) : Prop := ∃ es clock, w.heap[mb]? = some (.map es clock) ∧ es.toList.map (·.key) = K.map (Value.int .i64)

theorem MapIs.lt {mb : Nat} {K : List Int} {w : World} (h : MapIs mb K w) : mb < w.heap.size := by
  obtain ⟨es, clock, hb, -⟩ := h
  exact (Array.getElem?_eq_some_iff.1 hb).1

theorem MapIs.of_block {mb : Nat} {K : List Int} {w w' : World} (h : MapIs mb K w) (e : w'.heap[mb]? = w.heap[mb]?) : MapIs mb K w' := by
  obtain ⟨es, clock, hb, hk⟩ := h
  exact ⟨es, clock, e.trans hb, hk⟩

theorem mapIs_new (w : World) : MapIs w.heap.size [] (w.alloc (.map #[] 0)) := ⟨#[], 0, Go.Deep.blk_alloc_new _ _, rfl⟩

theorem isKey_i64 (n : Int) : IsKey (.int .i64) (.int .i64 n) := rfl

theorem keys_are {es : Array MapEntry} {K : List Int} (h : es.toList.map (·.key) = K.map (Value.int .i64)) : ∀ x ∈ es.toList, IsKey (.int .i64) x.key := by
  intro x hx
  have : x.key ∈ K.map (Value.int .i64) := by rw [← h]; exact List.mem_map_of_mem hx
  obtain ⟨n, -, e⟩ := List.mem_map.1 this
  rw [← e]
  exact isKey_i64 n

theorem mem_keys {es : Array MapEntry} {K : List Int} (h : es.toList.map (·.key) = K.map (Value.int .i64)) (n : Int) : (∃ x ∈ es.toList, x.key = .int .i64 n) ↔ n ∈ K := by
  constructor
  · rintro ⟨x, hx, e⟩
    have : x.key ∈ K.map (Value.int .i64) := by rw [← h]; exact List.mem_map_of_mem hx
    obtain ⟨m, hm, e'⟩ := List.mem_map.1 this
    rw [e] at e'
    simp only [Value.int.injEq, true_and] at e'
    exact e' ▸ hm
  · intro hn
    have : Value.int .i64 n ∈ es.toList.map (·.key) := by rw [h]; exact List.mem_map_of_mem hn
    obtain ⟨x, hx, e⟩ := List.mem_map.1 this
    exact ⟨x, hx, e⟩

theorem map_look {mb : Nat} {K : List Int} {w : World} (h : MapIs mb K w) (n : Int) :
    ∃ v, ∀ W : World, W.heap[mb]? = w.heap[mb]? → (Instr.lookup 82 (.map (some mb)) (.int .i64 n) true).run Try.prog W = .ok (.tuple #[v, .bool (decide (n ∈ K))]) W := by
  obtain ⟨es, clock, hb, hk⟩ := h
  rcases findNow_spec (isKey_i64 n) es.toList 0 (keys_are hk) with ⟨h1, h2⟩ | ⟨j, e0, h1, h2, h3⟩
  · have hn : n ∉ K := fun hn => by
      obtain ⟨x, hx, e⟩ := (mem_keys hk n).2 hn
      exact h2 x hx e
    refine ⟨.pointer none, fun W hW => ?_⟩
    have hbW : W.heap[mb]? = some (.map es clock) := hW.trans hb
    simp [Instr.lookup, run_underlying Try.underlying82, MapKept.run_getObj_map hbW, run_checkKey Try.underlying2 (isKey_i64 n), run_findKey Try.underlying2 h1, Try.zeroValue51, Result.andThen, hn]
  · have hn : n ∈ K := (mem_keys hk n).1 ⟨e0, List.mem_of_getElem? h2, h3⟩
    refine ⟨e0.val, fun W hW => ?_⟩
    have hbW : W.heap[mb]? = some (.map es clock) := hW.trans hb
    simp [Instr.lookup, run_underlying Try.underlying82, MapKept.run_getObj_map hbW, run_checkKey Try.underlying2 (isKey_i64 n), run_findKey Try.underlying2 h1, Result.andThen, hn]

theorem map_look_nil (n : Int) (W : World) : (Instr.lookup 82 (.map none) (.int .i64 n) true).run Try.prog W = .ok (.tuple #[.pointer none, .bool false]) W := by
  have h1 : Instr.findNow (.int .i64) (.int .i64 n) [] 0 = some none := rfl
  simp [Instr.lookup, run_underlying Try.underlying82, run_checkKey Try.underlying2 (isKey_i64 n), run_findKey Try.underlying2 h1, Try.zeroValue51, Result.andThen]

theorem map_store {mb : Nat} {K : List Int} {w : World} (h : MapIs mb K w) (n : Int) (hn : n ∉ K) (v : Value) :
    ∃ o, (∀ W : World, W.heap[mb]? = w.heap[mb]? → (Instr.mapUpdate 82 (.map (some mb)) (.int .i64 n) v).run Try.prog W = .ok () (setBlock W mb o)) ∧ ∀ W : World, W.heap[mb]? = w.heap[mb]? → MapIs mb (K ++ [n]) (setBlock W mb o) := by
  obtain ⟨es, clock, hb, hk⟩ := h
  have hlt : ∀ W : World, W.heap[mb]? = w.heap[mb]? → mb < W.heap.size := fun W hW => (Array.getElem?_eq_some_iff.1 (hW.trans hb)).1
  rcases findNow_spec (isKey_i64 n) es.toList 0 (keys_are hk) with ⟨h1, h2⟩ | ⟨j, e0, h1, h2, h3⟩
  · refine ⟨.map (es.push ⟨.int .i64 n, v, clock⟩) (clock + 1), fun W hW => ?_, fun W hW => ?_⟩
    · have hbW : W.heap[mb]? = some (.map es clock) := hW.trans hb
      simp [Instr.mapUpdate, run_underlying Try.underlying82, MapKept.run_getObj_map hbW, run_checkKey Try.underlying2 (isKey_i64 n), run_findKey Try.underlying2 h1, MapKept.run_setObj_map _ hbW, Result.andThen, setBlock]
    · exact ⟨_, _, heap_setBlock_same (hlt W hW), by simp [hk]⟩
  · exact absurd ((mem_keys hk n).1 ⟨e0, List.mem_of_getElem? h2, h3⟩) hn

theorem erase_keys : ∀ {l : List MapEntry} {K : List Int} {j : Nat} {e0 : MapEntry} {n : Int}, l.map (·.key) = K.map (Value.int .i64) → K.Nodup → l[j]? = some e0 → e0.key = .int .i64 n → (l.eraseIdx j).map (·.key) = (K.erase n).map (Value.int .i64)
  | [], K, j, e0, n, _, _, h, _ => by simp at h
  | x :: l, [], j, e0, n, h, _, _, _ => by simp at h
  | x :: l, k :: K, 0, e0, n, h, hd, h0, hn => by
    simp only [List.map_cons, List.cons.injEq] at h
    simp only [List.getElem?_cons_zero, Option.some.injEq] at h0
    subst h0
    rw [hn] at h
    have hkn : n = k := by simpa using h.1
    subst hkn
    simp [h.2]
  | x :: l, k :: K, j + 1, e0, n, h, hd, h0, hn => by
    simp only [List.map_cons, List.cons.injEq] at h
    simp only [List.getElem?_cons_succ] at h0
    have hmem : Value.int .i64 n ∈ l.map (·.key) := by rw [← hn]; exact List.mem_map_of_mem (List.mem_of_getElem? h0)
    rw [h.2] at hmem
    have hnK : n ∈ K := by obtain ⟨m, hm, e⟩ := List.mem_map.1 hmem; simp at e; exact e ▸ hm
    have hne : k ≠ n := fun e => (List.nodup_cons.1 hd).1 (e ▸ hnK)
    simp only [List.eraseIdx_cons_succ, List.map_cons]
    rw [List.erase_cons_tail (by simpa using hne), List.map_cons, h.1, erase_keys h.2 (List.nodup_cons.1 hd).2 h0 hn]

theorem map_drop {mb : Nat} {K : List Int} {w : World} (h : MapIs mb K w) (hK : K.Nodup) (n : Int) (hn : n ∈ K) (ty : TypeId) :
    ∃ o, (∀ W : World, W.heap[mb]? = w.heap[mb]? → (Builtin.delete_ #[82, 2] ty #[.map (some mb), .int .i64 n]).run Try.prog W = .ok (.tuple #[]) (setBlock W mb o)) ∧ ∀ W : World, W.heap[mb]? = w.heap[mb]? → MapIs mb (K.erase n) (setBlock W mb o) := by
  obtain ⟨es, clock, hb, hk⟩ := h
  have hlt : ∀ W : World, W.heap[mb]? = w.heap[mb]? → mb < W.heap.size := fun W hW => (Array.getElem?_eq_some_iff.1 (hW.trans hb)).1
  rcases findNow_spec (isKey_i64 n) es.toList 0 (keys_are hk) with ⟨h1, h2⟩ | ⟨j, e0, h1, h2, h3⟩
  · obtain ⟨x, hx, e⟩ := (mem_keys hk n).2 hn
    exact absurd e (h2 x hx)
  · have hjs : j < es.size := by have := (List.getElem?_eq_some_iff.1 h2).1; simpa using this
    have hsub : (es.eraseIdxIfInBounds j).toList = es.toList.eraseIdx j := by
      unfold Array.eraseIdxIfInBounds
      rw [dif_pos hjs]
      simp
    refine ⟨.map (es.eraseIdxIfInBounds j) clock, fun W hW => ?_, fun W hW => ?_⟩
    · have hbW : W.heap[mb]? = some (.map es clock) := hW.trans hb
      simp [Builtin.delete_, run_underlying Try.underlying82, MapKept.run_getObj_map hbW, run_checkKey Try.underlying2 (isKey_i64 n), run_findKey Try.underlying2 h1, MapKept.run_setObj_map _ hbW, Result.andThen, setBlock]
    · exact ⟨_, _, heap_setBlock_same (hlt W hW), by rw [hsub]; exact erase_keys hk hK h2 h3⟩

theorem map_len {mb : Nat} {K : List Int} {w : World} (h : MapIs mb K w) (ty : TypeId) : (Builtin.len_ #[82] ty #[.map (some mb)]).run Try.prog w = .ok (.int .i64 K.length) w := by
  obtain ⟨es, clock, hb, hk⟩ := h
  have hl : es.size = K.length := by have := congrArg List.length hk; simpa using this
  simp [Builtin.len_, run_underlying Try.underlying82, MapKept.run_getObj_map hb, Result.andThen, hl]
  rfl
end Go.Proofs.Qxb6614306a
