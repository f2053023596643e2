/-
  One eviction, one push: what the cache holds behind them (no walk but madeObject.cost's).
-/
import Derived.Test.Qxb6614306aCache
import Derived.Test.Qxb6614306aLocks
import Derived.Test.Qxb6614306aAdd
import Derived.Deep.DrawnRows
import Derived.Deep.CutRange
import Derived.Deep.LoopGhost
import Derived.Deep.RegionHeld3
import Derived.BigQuiet
namespace Go.Proofs.Qxb6614306a
open Go.RowKit Go.WideShapes
open Go.MuLone
open Go.ChangeMaps (setBlock)
set_option linter.unusedVariables false


/-- how many of es stay, where there is room for 'room' -/
def Cut (es : List Ent) (room k : Nat) : Prop := k ≤ es.length ∧ total (es.take k) ≤ room ∧ (k = es.length ∨ room < total (es.take (k + 1)))

/-- taken in -/
def Took (Own : Nat → Prop) (cb : Nat) (es : List Ent) (ob : Nat) (off : Int) (len lim : Nat) (read : Bool) (w : World) (e : Ending) (w' : World) : Prop :=
  e = .returned (.bool true) ∧ ∃ k x, Cut es (lim - (len + 128)) k ∧ Kept Own cb 0 (if read then ⟨x, ob, off, len⟩ :: es.take k else es.take k ++ [⟨x, ob, off, len⟩]) w' ∧ Turned Own w w'

theorem assert_made (o : Nat) (w : World) : (Instr.typeAssert (.iface 47 (pt o 0)) 20 47 false).run Try.prog w = .ok (pt o 0) w := by kernel_rfl

/-- what a cell of another block holds, behind an eviction -/
theorem pop_other {cb : Nat} {l : List Nat} {y : Nat} {w w1 : World} (hp : Popped cb l y w w1) {mb : Nat} {K : List Int} (hM : MapIs mb K w) (o : Obj) (u : Value) {b i : Nat} {v : Value} (hv : Has w b i v) (h1 : b ≠ cb) (h2 : b ∉ l ++ [y]) :
    Has ((setBlock w1 mb o).setCell ⟨cb, 2, none⟩ u) b i v :=
  ((hp.frame.cell _ _ _ (by rintro (⟨h3, _⟩ | ⟨h3, _⟩); exact h1 h3; exact h2 h3) hv).setBlock (hv.ne_map hM) o).other (.inl (Ne.symm h1)) _

theorem take_snoc : ∀ (es : List Ent) (p : Nat), p < es.length → ∃ x, es.take (p + 1) = es.take p ++ [x]
  | [], p, h => absurd h (Nat.not_lt_zero _)
  | y :: es, 0, _ => ⟨y, by simp⟩
  | y :: es, p + 1, h => by
    obtain ⟨x, hx⟩ := take_snoc es p (by simpa using h)
    exact ⟨x, by rw [List.take_succ_cons, hx, List.take_succ_cons, List.cons_append]⟩

theorem Popped.drew {cb : Nat} {l : List Nat} {y : Nat} {w w1 : World} (h : Popped cb l y w w1) : Popped cb l y w w1.drew :=
  ⟨⟨h.ring.len, Chain.keep (S := fun _ _ => False) (Wrote.refl _ w1).drew h.ring.chain (by simp) (by simp) (by simp), h.ring.own, h.ring.nodup, h.ring.ne⟩, h.frame.drew⟩

theorem cost_let (ob len c n : Nat) (ao : Option Addr) (w : World) (hc : w.cell? ⟨ob, 2, none⟩ = some (.slice ao len c)) (hl : len ≤ 2199023255552) (hn : Hid (n = len + 128)) : Calls Try.prog 29 #[pt ob 0] w fun e w' => e = .returned (.int .u64 n) ∧ w = w' := by
  have hi : (len : Int) + 128 = (n : Int) := by have := hn.out; omega
  go_enter Try.func29, Try.ntmps29
  go_wp2
  go_ret
  exact ⟨rfl, rfl⟩

/-- what the eviction of the last element needs, all in letters -/
structure Last (Own : Nat → Prop) (cb : Nat) (ks : List Ent) (xe xo : Nat) (xoff : Int) (xl T tp cx mb : Nat) (w : World) : Prop where
  kept : Kept Own cb 1 (ks ++ [⟨xe, xo, xoff, xl⟩]) w
  tot : T = tp + cx
  tpe : tp = total ks
  cxe : cx = xl + 128
  map : Has w cb 3 (.map (some mb))

theorem wrap64 (n : Nat) (h : n ≤ 1099511627776) : IntKind.u64.wrap (n : Int) = (n : Int) := by
  simp [IntKind.wrap, IntKind.bits, IntKind.signed]
  omega

theorem with_letter {α : Type _} {F : α → Prop} (x : α) (h : ∀ y, Hid (y = x) → F y) : F x := h x rfl

/-- what holds behind a push and the entry into the map -/
theorem Kept.pushed {Own : Nat → Prop} {cb ob len T T2 mb c x : Nat} {ao : Option Addr} {off : Int} {ks ks' : List Ent} {w w1 : World} (h : Kept Own cb 1 ks w) (hm : Has w cb 3 (.map (some mb))) (hT : T = total ks) (hT2 : T2 = T + (len + 128))
    (ho : Has w ob 0 (.int .i64 off)) (hc : Has w ob 2 (.slice ao len c)) (hocb : ob ≠ cb) (hoe : ob ∉ ks.map (·.e)) (hin : off ∉ ks.map (·.off)) (hOwn : ∀ k, w.heap.size ≤ k → Own k)
    (hx : w.drew.heap.size ≤ x) (hp : ks'.Perm (⟨x, ob, off, len⟩ :: ks)) (hr : Ring cb (ks'.map (·.e)) w1) (hv : Has w1 x 3 (.iface 47 (pt ob 0))) (hw : Wrote (SRing cb (ks.map (·.e))) w.drew w1) :
    ∃ o, w1.cell? ⟨cb, 3, none⟩ = some (.map (some mb)) ∧ w1.cell? ⟨ob, 0, none⟩ = some (.int .i64 off) ∧ (Instr.mapUpdate 82 (.map (some mb)) (.int .i64 off) (pt x 0)).run Try.prog w1 = .ok () (setBlock w1 mb o) ∧
      (setBlock w1 mb o).cell? ⟨cb, 3, none⟩ = some (.map (some mb)) ∧ (setBlock w1 mb o).cell? ⟨ob, 0, none⟩ = some (.int .i64 off) ∧
      (setBlock w1 mb o).cell? ⟨cb, 2, none⟩ = some (.int .u64 (T : Int)) ∧ (setBlock w1 mb o).frozen? ⟨cb, 2, none⟩ = false ∧
      Hid (Kept Own cb 1 ks' ((setBlock w1 mb o).setCell ⟨cb, 2, none⟩ (.int .u64 (T2 : Int)))) ∧ Hid (Turned Own w ((setBlock w1 mb o).setCell ⟨cb, 2, none⟩ (.int .u64 (T2 : Int)))) := by
  obtain ⟨mo, hm1', hm2⟩ := h.map
  obtain rfl : mo = some mb := by have := hm1'.uniq hm; simpa using this
  obtain ⟨hown, K, hKm, hP⟩ := hm2
  have hMd : MapIs mb K w.drew := hKm
  have hScb : ∀ i, i < 4 → ¬ SRing cb (ks.map (·.e)) cb i := by
    rintro i hi (⟨_, h1⟩ | ⟨h1, _⟩)
    · omega
    · obtain ⟨z, hz, e⟩ := List.mem_map.1 h1
      exact h.list_ne hz e
  have hSo : ∀ i, ¬ SRing cb (ks.map (·.e)) ob i := by
    rintro i (⟨h1, _⟩ | ⟨h1, _⟩)
    · exact hocb h1
    · exact hoe h1
  have hK1 : MapIs mb K w1 := hMd.of_block (hw.block mb hMd.lt (by
    rintro i (⟨h1, _⟩ | ⟨h1, _⟩)
    · exact hm.ne_map hKm h1.symm
    · obtain ⟨z, hz, e⟩ := List.mem_map.1 h1
      exact (h.val z hz).ne_map hKm e))
  have hinK : off ∉ K := fun hk => hin (hP.mem_iff.1 hk)
  obtain ⟨o, hst, hM'⟩ := map_store hK1 off hinK (pt x 0)
  have nb : cb ≠ mb := hm.ne_map hKm
  have no : ob ≠ mb := ho.ne_map hKm
  have g3 := hw.cell _ _ _ (hScb 3 (by omega)) hm.drew
  have g2 := hw.cell _ _ _ (hScb 2 (by omega)) h.drew.bytes
  have go := hw.cell _ _ _ (hSo 0) ho.drew
  rw [← hT] at g2
  have hT' : total ks' = T2 := by rw [total_perm hp, hT2, hT]; simp only [total]; omega
  have push := Kept.push h.drew (o := o) hx hp hr hv hw hOwn hm.drew hMd hown hP (hM' w1 rfl) hin ho.drew hc.drew hocb hoe
  rw [hT'] at push
  exact ⟨o, g3.cell, go.cell, hst w1 rfl, (g3.setBlock nb o).cell, (go.setBlock no o).cell, (g2.setBlock nb o).cell, (g2.setBlock nb o).frozen 2, push.1, ⟨push.2.os, push.2.tape, push.2.output, push.2.size, push.2.block⟩⟩

/-- the world behind one eviction -/
def evicted (w1 : World) (cb mb tp : Nat) (o : Obj) : World := ((setBlock w1.drew mb o).setCell ⟨cb, 2, none⟩ (.int .u64 (tp : Int))).drew

theorem Last.popped {Own : Nat → Prop} {cb : Nat} {ks : List Ent} {xe xo : Nat} {xoff : Int} {xl T tp cx mb : Nat} {w w1 : World} (h : Last Own cb ks xe xo xoff xl T tp cx mb w) (hp : Popped cb (ks.map (·.e)) xe w.drew w1) :
    ∃ o ao' c', w1.cell? ⟨cb, 2 + 1, none⟩ = some (.map (some mb)) ∧ w1.cell? ⟨xo, 0, none⟩ = some (.int .i64 xoff) ∧
      (Builtin.delete_ #[82, 2] 0 #[.map (some mb), .int .i64 xoff]).run Try.prog w1.drew = .ok (.tuple #[]) (setBlock w1.drew mb o) ∧
      (setBlock w1.drew mb o).cell? ⟨cb, 2, none⟩ = some (.int .u64 (T : Int)) ∧ (setBlock w1.drew mb o).frozen? ⟨cb, 2, none⟩ = false ∧ (setBlock w1.drew mb o).cell? ⟨xo, 2, none⟩ = some (.slice ao' xl c') ∧ xo ≠ cb ∧
      Hid (Kept Own cb 1 ks (evicted w1 cb mb tp o)) ∧ Hid (Turned Own w (evicted w1 cb mb tp o)) ∧ Hid (∀ b i v, Has w b i v → b ≠ cb → b ∉ (ks.map (·.e)) ++ [xe] → Has (evicted w1 cb mb tp o) b i v) := by
  obtain ⟨hK, hT, htp, hcx, hm1⟩ := h
  have hxm : (⟨xe, xo, xoff, xl⟩ : Ent) ∈ ks ++ [⟨xe, xo, xoff, xl⟩] := by simp
  have htot : total (ks ++ [⟨xe, xo, xoff, xl⟩]) = T := by rw [total_append, hT, htp, hcx]; rfl
  obtain ⟨mo, hm1', hm2⟩ := hK.map
  obtain rfl : mo = some mb := by have := hm1'.uniq hm1; simpa using this
  obtain ⟨hown, K, hKm, hP⟩ := hm2
  have hKn : K.Nodup := hP.nodup_iff.2 hK.offs
  have hxK : xoff ∈ K := hP.mem_iff.2 (List.mem_map_of_mem (f := Ent.off) hxm)
  obtain ⟨ao', c', hxc⟩ := hK.con _ hxm
  have hxo : Has w xo 0 (.int .i64 xoff) := hK.off _ hxm
  have hxc' : Has w xo 2 (.slice ao' xl c') := hxc
  have hfr := hp.frame
  have hn2 : xo ≠ cb := hK.ocb _ hxm
  have hn : xo ∉ ks.map (·.e) ++ [xe] := fun hm => by
    have : xo ∈ (ks ++ [(⟨xe, xo, xoff, xl⟩ : Ent)]).map (·.e) := by simpa using hm
    obtain ⟨z, hz, e⟩ := List.mem_map.1 this
    exact hK.apart _ hxm z hz e.symm
  have hScb : ∀ i, i < 4 → ¬ SRing cb (ks.map (·.e) ++ [xe]) cb i := by
    rintro i hi (⟨_, h1⟩ | ⟨h1, _⟩)
    · omega
    · have : cb ∈ (ks ++ [(⟨xe, xo, xoff, xl⟩ : Ent)]).map (·.e) := by simpa using h1
      obtain ⟨z, hz, e⟩ := List.mem_map.1 this
      exact hK.list_ne hz e
  have hSx : ∀ i, ¬ SRing cb (ks.map (·.e) ++ [xe]) xo i := by
    rintro i (⟨h1, _⟩ | ⟨h1, _⟩)
    · exact hn2 h1
    · exact hn h1
  have hMd : MapIs mb K w.drew := hKm
  have hK1 : MapIs mb K w1 := hMd.of_block (hfr.block mb hMd.lt (by
    rintro i (⟨h1, _⟩ | ⟨h1, _⟩)
    · exact hm1.ne_map hKm h1.symm
    · have : mb ∈ (ks ++ [(⟨xe, xo, xoff, xl⟩ : Ent)]).map (·.e) := by simpa using h1
      obtain ⟨z, hz, e⟩ := List.mem_map.1 this
      exact (hK.val z hz).ne_map hKm e))
  have g3 := hfr.cell _ _ _ (hScb 3 (by omega)) hm1.drew
  have g2 := hfr.cell _ _ _ (hScb 2 (by omega)) hK.drew.bytes
  rw [htot] at g2
  have go := hfr.cell _ _ _ (hSx 0) hxo.drew
  have gc := hfr.cell _ _ _ (hSx 2) hxc'.drew
  obtain ⟨o, hd, hMd'⟩ := map_drop hK1 hKn xoff hxK 0
  have nb : cb ≠ mb := hm1.ne_map hKm
  have nx : xo ≠ mb := hxo.ne_map hKm
  have hM' : MapIs mb (K.erase xoff) (setBlock w1.drew mb o) := hMd' w1.drew rfl
  have pop := Kept.pop hK.drew hp.drew (mb := mb) (K := K) (o := o) hm1.drew hMd hown hP hM'
  rw [← htp] at pop
  refine ⟨o, ao', c', g3.cell, go.cell, hd w1.drew rfl, (g2.drew.setBlock nb o).cell, (g2.drew.setBlock nb o).frozen 2, (gc.drew.setBlock nx o).cell, hn2, pop.1.drew, ?_, ?_⟩
  · exact ⟨pop.2.os, pop.2.tape, pop.2.output, pop.2.size, pop.2.block⟩
  · intro b i v hv h1 h2
    exact (pop_other hp.drew hMd o _ hv.drew h1 h2).drew

end Go.Proofs.Qxb6614306a
