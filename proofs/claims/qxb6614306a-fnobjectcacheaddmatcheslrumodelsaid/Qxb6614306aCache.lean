/-
  WHAT AN objectCache HOLDS ('Kept'), with no walk: what taking the last object out and putting one in do to it.
-/
import Derived.Test.Qxb6614306aRing
namespace Go.Proofs.Qxb6614306a
open Go.RowKit Go.WideShapes
open Go.ChangeMaps (setBlock)
set_option linter.unusedVariables false

/-- an object kept: its element's block, its own, its offset, its content's length -/
structure Ent where
  e : Nat
  o : Nat
  off : Int
  len : Nat

def total : List Ent → Nat
  | [] => 0
  | x :: l => x.len + 128 + total l

theorem total_append : ∀ (a b : List Ent), total (a ++ b) = total a + total b
  | [], b => by simp [total]
  | x :: a, b => by simp only [List.cons_append, total, total_append a b]; omega
theorem total_perm {a b : List Ent} (h : a.Perm b) : total a = total b := by
  induction h with
  | nil => rfl
  | cons x _ ih => simp only [total, ih]
  | swap x y l => simp only [total]; omega
  | trans _ _ h1 h2 => exact h1.trans h2

/-- the map that goes with these offsets; nil only where there is none -/
def MapFor (Own : Nat → Prop) : Option Nat → List Int → World → Prop
  | none, l, _ => l = []
  | some mb, l, w => Own mb ∧ ∃ K, MapIs mb K w ∧ K.Perm l

structure Kept (Own : Nat → Prop) (cb : Nat) (m : Int) (es : List Ent) (w : World) : Prop where
  mu : Has w cb 0 (.int .i32 m)
  bytes : Has w cb 2 (.int .u64 (total es : Nat))
  list : Listed cb (es.map (·.e)) w
  val : ∀ x ∈ es, Has w x.e 3 (.iface 47 (pt x.o 0))
  off : ∀ x ∈ es, Has w x.o 0 (.int .i64 x.off)
  con : ∀ x ∈ es, ∃ ao c, Has w x.o 2 (.slice ao x.len c)
  apart : ∀ x ∈ es, ∀ y ∈ es, x.o ≠ y.e
  ocb : ∀ x ∈ es, x.o ≠ cb
  offs : (es.map (·.off)).Nodup
  own : Own cb ∧ ∀ x ∈ es, Own x.e
  map : ∃ mo, Has w cb 3 (.map mo) ∧ MapFor Own mo (es.map (·.off)) w

theorem Has.ne_map {w : World} {b i mb : Nat} {v : Value} {K : List Int} (h : Has w b i v) (k : MapIs mb K w) : b ≠ mb := by
  rintro rfl
  obtain ⟨c, t, hb, _⟩ := h
  obtain ⟨es, cl, hm, _⟩ := k
  rw [hb] at hm
  simp at hm

theorem Wrote.cellOne (w : World) (b i : Nat) (x : Value) : Wrote (fun b' i' => b' = b ∧ i' = i) w (w.setCell ⟨b, i, none⟩ x) := (Wrote.refl _ w).setCell (.inl ⟨rfl, rfl⟩) x
theorem Wrote.setBlock (w : World) (b : Nat) (o : Obj) : Wrote (fun b' _ => b' = b) w (ChangeMaps.setBlock w b o) :=
  ⟨rfl, rfl, rfl, by rw [size_setBlock]; exact Nat.le_refl _, fun c i v hS hv => hv.setBlock hS o, fun k hk hS => heap_setBlock_other (hS 0)⟩

theorem Listed.keep {S : Nat → Nat → Prop} {w w' : World} (hw : Wrote S w w') {cb : Nat} {es : List Nat} (h : Listed cb es w) (h4 : ¬ S cb 4) (h5 : ¬ S cb 5) (h8 : ¬ S cb 8) (he : ∀ e ∈ es, ∀ i, i < 3 → ¬ S e i) : Listed cb es w' := by
  rcases h with h | ⟨rfl, h⟩
  · exact .inl ⟨hw.cell _ _ _ h8 h.len, Chain.keep hw h.chain h4 h5 (fun e hm => ⟨he e hm 0 (by omega), he e hm 1 (by omega)⟩), fun e hm => hw.cell _ _ _ (he e hm 2 (by omega)) (h.own e hm), h.nodup, h.ne⟩
  · exact .inr ⟨rfl, hw.cell _ _ _ h8 h.len, hw.cell _ _ _ h4 h.nx, hw.cell _ _ _ h5 h.pv⟩

theorem MapFor.keep {Own : Nat → Prop} {mo : Option Nat} {l : List Int} {w w' : World} (h : MapFor Own mo l w) (hb : ∀ mb, mo = some mb → w'.heap[mb]? = w.heap[mb]?) : MapFor Own mo l w' := by
  cases mo with
  | none => exact h
  | some mb =>
    obtain ⟨h1, K, h2, h3⟩ := h
    exact ⟨h1, K, h2.of_block (hb mb rfl), h3⟩

theorem Kept.list_ne {Own : Nat → Prop} {cb : Nat} {m : Int} {es : List Ent} {w : World} (h : Kept Own cb m es w) {x : Ent} (hx : x ∈ es) : x.e ≠ cb := by
  have hm : x.e ∈ es.map (·.e) := List.mem_map_of_mem (f := Ent.e) hx
  exact (h.list.ring (List.ne_nil_of_mem hm)).ne _ hm

/-- one cell of the cache's own row turns: the lock's -/
theorem Kept.lock {Own : Nat → Prop} {cb : Nat} {m : Int} {es : List Ent} {w : World} (h : Kept Own cb m es w) (m' : Int) : Kept Own cb m' es (w.setCell ⟨cb, 0, none⟩ (.int .i32 m')) := by
  have hw := Wrote.cellOne w cb 0 (.int .i32 m')
  obtain ⟨mo, hm1, hm2⟩ := h.map
  have hne : ∀ x ∈ es, x.e ≠ cb := fun x hx => h.list_ne hx
  refine ⟨h.mu.same _, h.bytes.other (by omega) _, h.list.keep hw (by omega) (by omega) (by omega) ?_, fun x hx => (h.val x hx).other (by omega) _, fun x hx => (h.off x hx).other (.inl (Ne.symm (h.ocb x hx))) _, fun x hx => ?_, h.apart, h.ocb, h.offs, h.own, mo, hm1.other (by omega) _, hm2.keep ?_⟩
  · intro e he i hi hS
    obtain ⟨x, hx, rfl⟩ := List.mem_map.1 he
    exact hne x hx hS.1
  · obtain ⟨ao, c, hc⟩ := h.con x hx
    exact ⟨ao, c, hc.other (.inl (Ne.symm (h.ocb x hx))) _⟩
  · rintro mb rfl
    obtain ⟨_, K, hK, _⟩ := hm2
    exact Below.heap_setCell _ _ _ _ (Ne.symm (hm1.ne_map hK))

theorem Kept.drew {Own : Nat → Prop} {cb : Nat} {m : Int} {es : List Ent} {w : World} (h : Kept Own cb m es w) : Kept Own cb m es w.drew := by
  have hw : Wrote (fun _ _ => False) w w.drew := (Wrote.refl _ w).drew
  obtain ⟨mo, hm1, hm2⟩ := h.map
  exact ⟨h.mu, h.bytes, h.list.keep hw (by simp) (by simp) (by simp) (by simp), h.val, h.off, h.con, h.apart, h.ocb, h.offs, h.own, mo, hm1, hm2.keep fun _ _ => rfl⟩

/-- THE LAST ONE OUT: out of the list (w1), out of the map (o), its cost off the count -/
theorem Kept.pop {Own : Nat → Prop} {cb : Nat} {m : Int} {es : List Ent} {x : Ent} {w w1 : World} (h : Kept Own cb m (es ++ [x]) w) (hp : Popped cb (es.map (·.e)) x.e w w1) {mb : Nat} {K : List Int} {o : Obj}
    (hcm : Has w cb 3 (.map (some mb))) (hM : MapIs mb K w) (hown : Own mb) (hK : K.Perm ((es ++ [x]).map (·.off))) (hM' : MapIs mb (K.erase x.off) (setBlock w1 mb o)) :
    Kept Own cb m es ((setBlock w1 mb o).setCell ⟨cb, 2, none⟩ (.int .u64 (total es : Nat))) ∧ Turned Own w ((setBlock w1 mb o).setCell ⟨cb, 2, none⟩ (.int .u64 (total es : Nat))) := by
  have hx : x ∈ es ++ [x] := by simp
  have hin : ∀ y ∈ es, y ∈ es ++ [x] := fun y hy => by simp [hy]
  have hne : ∀ y ∈ es ++ [x], y.e ≠ cb := fun y hy => h.list_ne hy
  have hwP := hp.frame
  have keep0 : ∀ {b i v}, ¬ SRing cb (es.map (·.e) ++ [x.e]) b i → Has w b i v → ¬ (b = cb ∧ i = 2) → Has ((setBlock w1 mb o).setCell ⟨cb, 2, none⟩ (.int .u64 (total es : Nat))) b i v := by
    intro b i v hS hv hn
    refine ((hwP.cell _ _ _ hS hv).setBlock (hv.ne_map hM) o).other ?_ _
    by_cases e : cb = b
    · subst e
      exact .inr fun e2 => hn ⟨rfl, e2.symm⟩
    · exact .inl e
  have hcb1 := hp.ring.len
  have hSobj : ∀ y ∈ es ++ [x], ∀ i, ¬ SRing cb (es.map (·.e) ++ [x.e]) y.o i := by
    rintro y hy i (⟨h1, _⟩ | ⟨h1, _⟩)
    · exact h.ocb y hy h1
    · have : y.o ∈ (es ++ [x]).map (·.e) := by simpa using h1
      obtain ⟨z, hz, e⟩ := List.mem_map.1 this
      exact h.apart y hy z hz e.symm
  have hw2 := Wrote.setBlock w1 mb o
  have hw3 := Wrote.cellOne (setBlock w1 mb o) cb 2 (.int .u64 (total es : Nat))
  have hcbm : cb ≠ mb := hcm.ne_map hM
  refine ⟨⟨keep0 (by unfold SRing; rintro (h1 | ⟨h1, _⟩); omega; have : cb ∈ (es ++ [x]).map (·.e) := by simpa using h1
                     obtain ⟨z, hz, e⟩ := List.mem_map.1 this; exact hne z hz e) h.mu (by omega), ?_, ?_, fun y hy => ?_, fun y hy => ?_, fun y hy => ?_, fun y hy z hz => h.apart y (hin y hy) z (hin z hz), fun y hy => h.ocb y (hin y hy), ?_, ⟨h.own.1, fun y hy => h.own.2 y (hin y hy)⟩, some mb, ?_, hown, K.erase x.off, ?_, ?_⟩, ?_⟩
  · refine Has.same (v := .int .u64 (total (es ++ [x]) : Nat)) ?_ _
    refine (hwP.cell _ _ _ ?_ h.bytes).setBlock hcbm o
    unfold SRing
    rintro (h1 | ⟨h1, _⟩)
    · omega
    · have : cb ∈ (es ++ [x]).map (·.e) := by simpa using h1
      obtain ⟨z, hz, e⟩ := List.mem_map.1 this
      exact hne z hz e
  · have hr : Listed cb (es.map (·.e)) w1 := .inl hp.ring
    have hrow : ∀ e ∈ es.map (·.e), e ≠ mb := fun e he => by
      obtain ⟨y, hy, rfl⟩ := List.mem_map.1 he
      exact (h.val y (hin y hy)).ne_map hM
    refine (hr.keep hw2 (by omega) (by omega) (by omega) (fun e he i _ => hrow e he)).keep hw3 (by omega) (by omega) (by omega) (fun e he i _ hS => ?_)
    obtain ⟨y, hy, rfl⟩ := List.mem_map.1 he
    exact hne y (hin y hy) hS.1
  · refine keep0 (by unfold SRing; have := hne y (hin y hy); omega) (h.val y (hin y hy)) (by have := hne y (hin y hy); omega)
  · exact keep0 (hSobj y (hin y hy) _) (h.off y (hin y hy)) (by have := h.ocb y (hin y hy); omega)
  · obtain ⟨ao, c, hc⟩ := h.con y (hin y hy)
    exact ⟨ao, c, keep0 (hSobj y (hin y hy) _) hc (by have := h.ocb y (hin y hy); omega)⟩
  · have := h.offs
    rw [List.map_append, List.nodup_append] at this
    exact this.1
  · refine keep0 ?_ hcm (by omega)
    unfold SRing
    rintro (h1 | ⟨h1, _⟩)
    · omega
    · have : cb ∈ (es ++ [x]).map (·.e) := by simpa using h1
      obtain ⟨z, hz, e⟩ := List.mem_map.1 this
      exact hne z hz e
  · exact hM'.of_block (Below.heap_setCell _ _ _ _ (Ne.symm hcbm))
  · have h1 := hK.erase x.off
    have h2 : ((es ++ [x]).map (·.off)).erase x.off = es.map (·.off) := by
      have hd := h.offs
      rw [List.map_append, List.nodup_append] at hd
      rw [List.map_append, List.erase_append_right]
      · simp
      · intro hm
        exact hd.2.2 _ hm x.off (by simp) rfl
    rw [h2] at h1
    exact h1
  · refine ((hwP.turned (T := Own) ?_).setBlock (.inl hown) o).setCell (.inl h.own.1) _
    rintro k i (⟨rfl, _⟩ | ⟨h1, _⟩)
    · exact h.own.1
    · have : k ∈ (es ++ [x]).map (·.e) := by simpa using h1
      obtain ⟨z, hz, rfl⟩ := List.mem_map.1 this
      exact h.own.2 z hz

/-- ONE IN: a new element x in the list (w1), its key in the map (o), its cost on the count -/
theorem Kept.push {Own : Nat → Prop} {cb : Nat} {m : Int} {es es' : List Ent} {w w1 : World} (h : Kept Own cb m es w) {x ob len : Nat} {off : Int} {ao : Option Addr} {c : Nat} (hx : w.heap.size ≤ x) (hp : es'.Perm (⟨x, ob, off, len⟩ :: es))
    (hr : Ring cb (es'.map (·.e)) w1) (hv : Has w1 x 3 (.iface 47 (pt ob 0))) (hw : Wrote (SRing cb (es.map (·.e))) w w1) {mb : Nat} {K : List Int} {o : Obj} (hOwn : ∀ k, w.heap.size ≤ k → Own k)
    (hcm : Has w cb 3 (.map (some mb))) (hM : MapIs mb K w) (hown : Own mb) (hK : K.Perm (es.map (·.off))) (hM' : MapIs mb (K ++ [off]) (setBlock w1 mb o)) (hnew : off ∉ es.map (·.off))
    (ho : Has w ob 0 (.int .i64 off)) (hc : Has w ob 2 (.slice ao len c)) (hocb : ob ≠ cb) (hoe : ob ∉ es.map (·.e)) :
    Kept Own cb m es' ((setBlock w1 mb o).setCell ⟨cb, 2, none⟩ (.int .u64 (total es' : Nat))) ∧ Turned Own w ((setBlock w1 mb o).setCell ⟨cb, 2, none⟩ (.int .u64 (total es' : Nat))) := by
  have hmem : ∀ y ∈ es', y = ⟨x, ob, off, len⟩ ∨ y ∈ es := fun y hy => by have := hp.mem_iff.1 hy; simpa using this
  have hne : ∀ y ∈ es, y.e ≠ cb := fun y hy => h.list_ne hy
  have hcbs := h.mu.lt
  have hcbe : cb ∉ es.map (·.e) := fun hm => by
    obtain ⟨z, hz, e⟩ := List.mem_map.1 hm
    exact hne z hz e
  have hcbm : cb ≠ mb := hcm.ne_map hM
  have hmlt := hM.lt
  have keep0 : ∀ {b i v}, ¬ SRing cb (es.map (·.e)) b i → Has w b i v → ¬ (b = cb ∧ i = 2) → Has ((setBlock w1 mb o).setCell ⟨cb, 2, none⟩ (.int .u64 (total es' : Nat))) b i v := by
    intro b i v hS hv hn
    refine ((hw.cell _ _ _ hS hv).setBlock (hv.ne_map hM) o).other ?_ _
    by_cases e : cb = b
    · subst e
      exact .inr fun e2 => hn ⟨rfl, e2.symm⟩
    · exact .inl e
  have hSobj : ∀ y ∈ es, ∀ i, ¬ SRing cb (es.map (·.e)) y.o i := by
    rintro y hy i (⟨h1, _⟩ | ⟨h1, _⟩)
    · exact h.ocb y hy h1
    · obtain ⟨z, hz, e⟩ := List.mem_map.1 h1
      exact h.apart y hy z hz e.symm
  have hSob : ∀ i, ¬ SRing cb (es.map (·.e)) ob i := by
    rintro i (⟨h1, _⟩ | ⟨h1, _⟩)
    · exact hocb h1
    · exact hoe h1
  have hScb : ∀ i, i < 4 → ¬ SRing cb (es.map (·.e)) cb i := by
    rintro i hi (⟨_, h1⟩ | ⟨h1, _⟩)
    · omega
    · exact hcbe h1
  have holt := ho.lt
  refine ⟨⟨keep0 (hScb 0 (by omega)) h.mu (by omega), ?_, ?_, fun y hy => ?_, fun y hy => ?_, fun y hy => ?_, fun y hy z hz => ?_, fun y hy => ?_, ?_, ⟨h.own.1, fun y hy => ?_⟩, some mb, keep0 (hScb 3 (by omega)) hcm (by omega), hown, K ++ [off], ?_, ?_⟩, ?_⟩
  · refine Has.same (v := .int .u64 (total es : Nat)) ?_ _
    exact (hw.cell _ _ _ (hScb 2 (by omega)) h.bytes).setBlock hcbm o
  · have hl : Listed cb (es'.map (·.e)) w1 := .inl hr
    have hrow : ∀ y ∈ es', y.e ≠ mb := fun y hy => by
      rcases hmem y hy with rfl | hy
      · show x ≠ mb
        omega
      · exact (h.val y hy).ne_map hM
    have hrcb : ∀ e ∈ es'.map (·.e), e ≠ cb := hr.ne
    refine (hl.keep (Wrote.setBlock w1 mb o) hcbm hcbm hcbm (fun e he i _ => ?_)).keep (Wrote.cellOne _ cb 2 _) (by omega) (by omega) (by omega) (fun e he i _ hS => hrcb e he hS.1)
    obtain ⟨y, hy, rfl⟩ := List.mem_map.1 he
    exact hrow y hy
  · rcases hmem y hy with rfl | hy
    · exact (hv.setBlock (show x ≠ mb by omega) o).other (.inl (show cb ≠ x by omega)) _
    · exact keep0 (by unfold SRing; have := hne y hy; omega) (h.val y hy) (by have := hne y hy; omega)
  · rcases hmem y hy with rfl | hy
    · exact keep0 (hSob _) ho (fun hh => hocb hh.1)
    · exact keep0 (hSobj y hy _) (h.off y hy) (by have := h.ocb y hy; omega)
  · rcases hmem y hy with rfl | hy
    · exact ⟨ao, c, keep0 (hSob _) hc (fun hh => hocb hh.1)⟩
    · obtain ⟨ao, c, hc⟩ := h.con y hy
      exact ⟨ao, c, keep0 (hSobj y hy _) hc (by have := h.ocb y hy; omega)⟩
  · rcases hmem y hy with rfl | hy
    · rcases hmem z hz with rfl | hz
      · show ob ≠ x
        omega
      · intro e
        have e' : ob = z.e := e
        exact hoe (e' ▸ List.mem_map_of_mem (f := Ent.e) hz)
    · rcases hmem z hz with rfl | hz
      · show y.o ≠ x
        have := (h.off y hy).lt
        omega
      · exact h.apart y hy z hz
  · rcases hmem y hy with rfl | hy
    · exact hocb
    · exact h.ocb y hy
  · have := hp.map (·.off)
    rw [this.nodup_iff]
    exact List.nodup_cons.2 ⟨hnew, h.offs⟩
  · rcases hmem y hy with rfl | hy
    · exact hOwn x hx
    · exact h.own.2 y hy
  · exact hM'.of_block (Below.heap_setCell _ _ _ _ (Ne.symm hcbm))
  · have h1 := (hp.map (·.off)).symm
    exact ((List.perm_append_singleton off K).trans (hK.cons off)).trans h1
  · refine ((hw.turned (T := Own) ?_).setBlock (.inl hown) o).setCell (.inl h.own.1) _
    rintro k i (⟨rfl, _⟩ | ⟨h1, _⟩)
    · exact h.own.1
    · obtain ⟨z, hz, rfl⟩ := List.mem_map.1 h1
      exact h.own.2 z hz

/-- the map, made where it is nil -/
theorem Kept.mkmap {Own : Nat → Prop} {cb : Nat} {m : Int} {es : List Ent} {w : World} (h : Kept Own cb m es w) (hcm : Has w cb 3 (.map none)) (hOwn : ∀ k, w.heap.size ≤ k → Own k) :
    Kept Own cb m es ((w.alloc (.map #[] 0)).setCell ⟨cb, 3, none⟩ (.map (some w.heap.size))) ∧ Has ((w.alloc (.map #[] 0)).setCell ⟨cb, 3, none⟩ (.map (some w.heap.size))) cb 3 (.map (some w.heap.size)) ∧ Turned Own w ((w.alloc (.map #[] 0)).setCell ⟨cb, 3, none⟩ (.map (some w.heap.size))) := by
  obtain ⟨mo, hm1, hm2⟩ := h.map
  have e : mo = none := by have := hm1.uniq hcm; simpa using this
  subst e
  have hnil : es.map (·.off) = [] := hm2
  have hes : es = [] := by simpa using hnil
  subst hes
  have hlt := hcm.lt
  have hw : Wrote (fun b i => b = cb ∧ i = 3) w ((w.alloc (.map #[] 0)).setCell ⟨cb, 3, none⟩ (.map (some w.heap.size))) := ((Wrote.refl _ w).alloc _).setCell (.inl ⟨rfl, rfl⟩) _
  have hs : Has ((w.alloc (.map #[] 0)).setCell ⟨cb, 3, none⟩ (.map (some w.heap.size))) cb 3 (.map (some w.heap.size)) := (hcm.alloc _).same _
  refine ⟨⟨hw.cell _ _ _ (by omega) h.mu, hw.cell _ _ _ (by omega) h.bytes, h.list.keep hw (by omega) (by omega) (by omega) (by simp), by simp, by simp, by simp, by simp, by simp, by simp, ⟨h.own.1, by simp⟩, some w.heap.size, hs, hOwn _ (Nat.le_refl _), [], ?_, List.Perm.nil⟩, hs, ?_⟩
  · exact (mapIs_new w).of_block (Below.heap_setCell _ _ _ _ (by show w.heap.size ≠ cb; omega))
  · exact ((Turned.refl Own w).alloc _).setCell (.inl h.own.1) _

/-- what a look into the map tells -/
theorem Kept.look {Own : Nat → Prop} {cb : Nat} {m : Int} {es : List Ent} {w : World} (h : Kept Own cb m es w) (n : Int) :
    ∃ mo v, Has w cb 3 (.map mo) ∧ ∀ W : World, W.heap = w.heap → (Instr.lookup 82 (.map mo) (.int .i64 n) true).run Try.prog W = .ok (.tuple #[v, .bool (decide (n ∈ es.map (·.off)))]) W := by
  obtain ⟨mo, hm1, hm2⟩ := h.map
  cases mo with
  | none =>
    refine ⟨none, .pointer none, hm1, fun W _ => ?_⟩
    have e : es.map (·.off) = [] := hm2
    rw [map_look_nil, e]
    simp
  | some mb =>
    obtain ⟨_, K, hK, hP⟩ := hm2
    obtain ⟨v, hv⟩ := map_look hK n
    refine ⟨some mb, v, hm1, fun W hW => ?_⟩
    rw [hv W (by rw [hW])]
    have : decide (n ∈ K) = decide (n ∈ es.map (·.off)) := by
      rw [decide_eq_decide]
      exact hP.mem_iff
    rw [this]
end Go.Proofs.Qxb6614306a
