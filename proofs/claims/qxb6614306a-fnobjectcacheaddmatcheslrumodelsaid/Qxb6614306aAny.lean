/-
  ZZobjectCacheAdd (17) in one contract; what it means for the list; the cache under what only makes new memory.
-/
import Derived.Test.Qxb6614306aWrap
namespace Go.Proofs.Qxb6614306a
open Go.RowKit Go.WideShapes
open Go.ChangeMaps (setBlock)
set_option linter.unusedVariables false

/-- what an add makes of the list -/
def Added (es : List Ent) (off : Int) (len lim ob : Nat) (read ans : Bool) (es' : List Ent) : Prop :=
  (ans = false ∧ es' = es ∧ (lim < len + 128 ∨ (read = false ∧ lim < total es + (len + 128)) ∨ off ∈ es.map (·.off))) ∨
  (ans = true ∧ len + 128 ≤ lim ∧ off ∉ es.map (·.off) ∧ (read = true ∨ total es + (len + 128) ≤ lim) ∧ ∃ k x, Cut es (lim - (len + 128)) k ∧ es' = if read then ⟨x, ob, off, len⟩ :: es.take k else es.take k ++ [⟨x, ob, off, len⟩])

/-- the add's contract -/
def Adds (Own : Nat → Prop) (cb : Nat) (es : List Ent) (off : Int) (len lim ob : Nat) (read : Bool) (w : World) (e : Ending) (w' : World) : Prop :=
  ∃ ans es', e = .returned (.bool ans) ∧ Added es off len lim ob read ans es' ∧ Kept Own cb 0 es' w' ∧ Turned Own w w'

theorem add_all {Own : Nat → Prop} (cb ob len c lim : Nat) (ao : Option Addr) (off : Int) (read : Bool) (es : List Ent) (w : World) (h : Kept Own cb 0 es w) (ho : Has w ob 0 (.int .i64 off)) (hc : Has w ob 2 (.slice ao len c)) (hocb : ob ≠ cb) (hoe : ob ∉ es.map (·.e)) (hl : len ≤ 1048576) (hes : es.length ≤ 1048575) (ht : total es ≤ 1099511627776)
    (hOwn : ∀ k, w.heap.size ≤ k → Own k) (hlim : lim < 18446744073709551616) : Calls Try.prog 26 #[pt cb 0, pt ob 0, .int .u64 lim, .bool read] w (Adds Own cb es off len lim ob read w) := by
  have refuse : (lim < len + 128 ∨ (read = false ∧ lim < total es + (len + 128)) ∨ off ∈ es.map (·.off)) → ∀ e w', Refused Own cb es w e w' → Adds Own cb es off len lim ob read w e w' := fun why e w' ⟨h1, h2, h3⟩ => ⟨false, es, h1, .inl ⟨rfl, rfl, why⟩, h2, h3⟩
  by_cases hbig : lim < len + 128
  · exact (add_big cb ob len c lim ao off read es w h hc.cell hl hbig).mono (refuse (.inl hbig))
  · by_cases hfull : read = false ∧ lim < total es + (len + 128)
    · obtain ⟨rfl, hf⟩ := hfull
      exact (add_full cb ob len c lim ao off es w h hc.cell hl ht (by omega) hlim hf).mono (refuse (.inr (.inl ⟨rfl, hf⟩)))
    · have hroom : read = true ∨ total es + (len + 128) ≤ lim := by
        cases read with
        | true => exact .inl rfl
        | false =>
          refine .inr ?_
          by_cases h2 : lim < total es + (len + 128)
          · exact absurd ⟨rfl, h2⟩ hfull
          · omega
      by_cases hin : off ∈ es.map (·.off)
      · exact (add_present cb ob len c lim ao off read es w h ho hc hocb hl ht (by omega) hlim hroom hin).mono (refuse (.inr (.inr hin)))
      · have took : ∀ e w', Took Own cb es ob off len lim read w e w' → Adds Own cb es off len lim ob read w e w' := fun e w' ⟨h1, k, x, h2, h3, h4⟩ => ⟨true, _, h1, .inr ⟨rfl, by omega, hin, hroom, k, x, h2, rfl⟩, h3, h4⟩
        cases read with
        | true => exact (add_done cb ob len c lim (len + 128) ao off es w h ho hc hocb hoe hl hes ht hOwn rfl (by omega) (by omega) hlim hin).mono took
        | false =>
          have hr : total es + (len + 128) ≤ lim := by simpa using hroom
          exact (add_back cb ob len c lim (len + 128) ao off es w h ho hc hocb hoe hl hes ht hOwn rfl (by omega) (by omega) hlim hin hr).mono took

theorem add_zz {Own : Nat → Prop} (cb ob len c lim : Nat) (ao : Option Addr) (off : Int) (read : Bool) (es : List Ent) (w : World) (h : Kept Own cb 0 es w) (ho : Has w ob 0 (.int .i64 off)) (hc : Has w ob 2 (.slice ao len c)) (hocb : ob ≠ cb) (hoe : ob ∉ es.map (·.e)) (hl : len ≤ 1048576) (hes : es.length ≤ 1048575) (ht : total es ≤ 1099511627776)
    (hOwn : ∀ k, w.heap.size ≤ k → Own k) (hlim : lim < 18446744073709551616) : Calls Try.prog 17 #[pt cb 0, pt ob 0, .int .u64 lim, .bool read] w (Adds Own cb es off len lim ob read w) := by
  have H := hide (add_all cb ob len c lim ao off read es w h ho hc hocb hoe hl hes ht hOwn hlim)
  clear h ho hc hocb hoe hl hes ht hOwn
  go_enter Try.func17, Try.ntmps17
  go_wp2_with fail
  refine H.out.mono ?_
  rintro e w1 ⟨ans, es', rfl, h1, h2, h3⟩
  have H1 := hide h1
  have H2 := hide h2
  have H3 := hide h3
  clear h1 h2 h3
  go_wp2
  go_ret
  exact ⟨ans, es', rfl, H1.out, H2.out, H3.out⟩

theorem Added.len {es es' : List Ent} {off : Int} {len lim ob : Nat} {read ans : Bool} (h : Added es off len lim ob read ans es') : es'.length ≤ es.length + 1 := by
  rcases h with ⟨_, rfl, _⟩ | ⟨_, _, _, _, k, x, hc, rfl⟩
  · omega
  · have := hc.1
    split <;> simp <;> omega

theorem total_take_le (es : List Ent) (k : Nat) : total (es.take k) ≤ total es := by
  have h1 : total (es.take k) + total (es.drop k) = total es := by rw [← total_append, List.take_append_drop]
  omega

theorem Added.total {es es' : List Ent} {off : Int} {len lim ob : Nat} {read ans : Bool} (h : Added es off len lim ob read ans es') : total es' ≤ total es + (len + 128) := by
  rcases h with ⟨_, rfl, _⟩ | ⟨_, _, _, _, k, x, hc, rfl⟩
  · omega
  · have := total_take_le es k
    cases read with
    | true => simp only [if_true, Qxb6614306a.total]; omega
    | false => simp only [Bool.false_eq_true, if_false, total_append, Qxb6614306a.total]; omega

theorem Added.offs {es es' : List Ent} {off : Int} {len lim ob : Nat} {read ans : Bool} (h : Added es off len lim ob read ans es') {n : Int} (hn : n ∈ es'.map (·.off)) : n = off ∨ n ∈ es.map (·.off) := by
  rcases h with ⟨_, rfl, _⟩ | ⟨_, _, _, _, k, x, hc, rfl⟩
  · exact .inr hn
  · obtain ⟨z, hz, rfl⟩ := List.mem_map.1 hn
    have : z = ⟨x, ob, off, len⟩ ∨ z ∈ es.take k := by
      cases read with
      | true => simpa using hz
      | false => simp at hz; rcases hz with h | h; exact .inr h; exact .inl h
    rcases this with rfl | h
    · exact .inl rfl
    · exact .inr (List.mem_map.2 ⟨z, List.mem_of_mem_take h, rfl⟩)

theorem Has.below {w w' : World} {b i : Nat} {v : Value} (h : Has w b i v) (g : Below w.heap.size w w') : Has w' b i v := h.of_block (g.block b h.lt)

theorem wrote_below {w w' : World} (g : Below w.heap.size w w') : Wrote (fun _ _ => False) w w' := ⟨g.os, g.tape, g.output, g.size, fun b i v _ h => h.below g, fun k hk _ => g.block k hk⟩

/-- what only makes new memory leaves the cache alone -/
theorem Kept.below {Own : Nat → Prop} {cb : Nat} {m : Int} {es : List Ent} {w w' : World} (h : Kept Own cb m es w) (g : Below w.heap.size w w') : Kept Own cb m es w' := by
  obtain ⟨mo, hm1, hm2⟩ := h.map
  refine ⟨h.mu.below g, h.bytes.below g, h.list.keep (wrote_below g) (fun h => h) (fun h => h) (fun h => h) (fun _ _ _ _ h => h), fun x hx => (h.val x hx).below g, fun x hx => (h.off x hx).below g, fun x hx => ?_, h.apart, h.ocb, h.offs, h.own, mo, hm1.below g, hm2.keep fun mb e => ?_⟩
  · obtain ⟨ao, c, hc⟩ := h.con x hx
    exact ⟨ao, c, hc.below g⟩
  · subst e
    obtain ⟨_, K, hK, _⟩ := hm2
    exact g.block mb hK.lt

/-- other blocks of one's own -/
theorem Kept.own_to {Own Own' : Nat → Prop} {cb : Nat} {m : Int} {es : List Ent} {w : World} (h : Kept Own cb m es w) (hO : ∀ k, k < w.heap.size → Own k → Own' k) : Kept Own' cb m es w := by
  obtain ⟨mo, hm1, hm2⟩ := h.map
  refine ⟨h.mu, h.bytes, h.list, h.val, h.off, h.con, h.apart, h.ocb, h.offs, ⟨hO _ h.mu.lt h.own.1, fun x hx => hO _ (h.val x hx).lt (h.own.2 x hx)⟩, mo, hm1, ?_⟩
  cases mo with
  | none => exact hm2
  | some mb =>
    obtain ⟨h1, K, hK, hP⟩ := hm2
    exact ⟨hO _ hK.lt h1, K, hK, hP⟩

/-- a new cache holds nothing -/
theorem kept_new {Own : Nat → Prop} (w : World) (c : Array Value) (h0 : c[0]? = some (.int .i32 0)) (h2 : c[2]? = some (.int .u64 0)) (h3 : c[3]? = some (.map none)) (h4 : c[4]? = some (.pointer none)) (h5 : c[5]? = some (.pointer none)) (h8 : c[8]? = some (.int .i64 0)) (hO : Own w.heap.size) :
    Kept Own w.heap.size 0 [] (w.alloc (.cells c 89)) := by
  have has : ∀ i v, c[i]? = some v → Has (w.alloc (.cells c 89)) w.heap.size i v := fun i v hv => ⟨c, 89, Go.Deep.blk_alloc_new _ _, hv⟩
  exact ⟨has _ _ h0, has _ _ h2, .inr ⟨rfl, has _ _ h8, has _ _ h4, has _ _ h5⟩, fun _ h => by simp at h, fun _ h => by simp at h, fun _ h => by simp at h, fun _ h => by simp at h, fun _ h => by simp at h, by simp, ⟨hO, fun _ h => by simp at h⟩, none, has _ _ h3, rfl⟩
end Go.Proofs.Qxb6614306a
