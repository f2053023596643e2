/-
  objectCache.add (26) over what the cache holds; madeObject.cost (29).
-/
import Derived.Test.Qxb6614306aCache
import Derived.Test.Qxb6614306aLocks
import Derived.Deep.LoopGhost
import Derived.BigQuiet
namespace Go.Proofs.Qxb6614306a
open Go.RowKit Go.WideShapes
open Go.MuLone
open Go.ChangeMaps (setBlock)
set_option linter.unusedVariables false

theorem cost_ok (ob len c : Nat) (ao : Option Addr) (w : World) (hc : w.cell? ⟨ob, 2, none⟩ = some (.slice ao len c)) (hl : len ≤ 1048576) : Calls Try.prog 29 #[pt ob 0] w fun e w' => e = .returned (.int .u64 (len + 128)) ∧ w = w' := by
  go_enter Try.func29, Try.ntmps29
  go_wp2
  go_ret
  exact ⟨rfl, rfl⟩

/-- turned away: the cache holds what it held -/
def Refused (Own : Nat → Prop) (cb : Nat) (es : List Ent) (w : World) (e : Ending) (w' : World) : Prop := e = .returned (.bool false) ∧ Kept Own cb 0 es w' ∧ Turned Own w w'

set_option maxRecDepth 100000 in
set_option maxHeartbeats 1600000 in
theorem add_big {Own : Nat → Prop} (cb ob len c lim : Nat) (ao : Option Addr) (off : Int) (read : Bool) (es : List Ent) (w : World) (h : Kept Own cb 0 es w) (hc : w.cell? ⟨ob, 2, none⟩ = some (.slice ao len c)) (hl : len ≤ 1048576)
    (hbig : lim < len + 128) : Calls Try.prog 26 #[pt cb 0, pt ob 0, .int .u64 lim, .bool read] w (Refused Own cb es w) := by
  have HK := hide h
  clear h
  go_enter_defers Try.func26, Try.ntmps26
  go_wp2_with (go_at_call 29; refine (cost_ok ob len c ao _ hc hl).mono ?_; rintro e w' ⟨rfl, rfl⟩)
  exact ⟨_, results_tmp rfl _ _ _, rfl, HK.out, Turned.refl _ _⟩

set_option maxHeartbeats 1600000 in
set_option maxRecDepth 100000 in
theorem add_full {Own : Nat → Prop} (cb ob len c lim : Nat) (ao : Option Addr) (off : Int) (es : List Ent) (w : World) (h : Kept Own cb 0 es w) (hc : w.cell? ⟨ob, 2, none⟩ = some (.slice ao len c)) (hl : len ≤ 1048576) (ht : total es ≤ 1099511627776)
    (hfit : len + 128 ≤ lim) (hlim : lim < 18446744073709551616) (hbig : lim < total es + (len + 128)) : Calls Try.prog 26 #[pt cb 0, pt ob 0, .int .u64 lim, .bool false] w (Refused Own cb es w) := by
  have HK := hide h
  have h0 := h.mu.cell
  have h2 := h.bytes.cell
  have f0 := h.mu.frozen 0
  clear h
  go_enter_defers Try.func26, Try.ntmps26
  go_wp2_with (first
    | (go_at_call 29; refine (cost_ok ob len c ao _ hc hl).mono ?_; rintro e w' ⟨rfl, rfl⟩)
    | (go_at_call 30; refine (lock_free Try.muLib ⟨cb, 0, none⟩ _ h0 f0).mono ?_; rintro e w' ⟨rfl, rfl⟩))
  refine leaves_cons (f := 31) (args := #[.pointer (some ⟨cb, 0, none⟩)]) (by simp) (by simp [go_sem]) ?_
  have k := HK.out.lock 1
  refine (unlock_deferred Try.muLib ⟨cb, 0, none⟩ .returning _ k.mu.cell (k.mu.frozen 0)).mono ?_
  rintro e u' w'' ⟨rfl, rfl, rfl⟩
  exact ⟨_, results_tmp rfl _ _ _, rfl, k.lock 0, ((Turned.refl _ _).setCell (.inl k.own.1) _).setCell (.inl k.own.1) _⟩

set_option maxHeartbeats 1600000 in
set_option maxRecDepth 100000 in
theorem add_present {Own : Nat → Prop} (cb ob len c lim : Nat) (ao : Option Addr) (off : Int) (read : Bool) (es : List Ent) (w : World) (h : Kept Own cb 0 es w) (ho : Has w ob 0 (.int .i64 off)) (hc : Has w ob 2 (.slice ao len c)) (hocb : ob ≠ cb) (hl : len ≤ 1048576) (ht : total es ≤ 1099511627776)
    (hfit : len + 128 ≤ lim) (hlim : lim < 18446744073709551616) (hroom : read = true ∨ total es + (len + 128) ≤ lim) (hin : off ∈ es.map (·.off)) : Calls Try.prog 26 #[pt cb 0, pt ob 0, .int .u64 lim, .bool read] w (Refused Own cb es w) := by
  have HK := hide h
  have h0 := h.mu.cell
  have f0 := h.mu.frozen 0
  have k := h.lock 1
  have hcc := hc.cell
  have h2 := k.bytes.cell
  have hoo := (ho.other (b' := cb) (i' := 0) (.inl (Ne.symm hocb)) (.int .i32 1)).cell
  obtain ⟨mo, v, h3, hlk⟩ := k.look off
  have h3c := h3.cell
  have hl1 := hlk (w.setCell ⟨cb, 0, none⟩ (.int .i32 1)).drew rfl
  have hl0 := hlk (w.setCell ⟨cb, 0, none⟩ (.int .i32 1)) rfl
  rw [show decide (off ∈ es.map (·.off)) = true from decide_eq_true hin] at hl0 hl1
  have HO := hide k.own.1
  clear h ho hc k h3 hlk
  cases read with
  | true =>
    go_enter_defers Try.func26, Try.ntmps26
    go_wp2_with (first
      | (go_at_call 29; refine (cost_ok ob len c ao _ hcc hl).mono ?_; rintro e w' ⟨rfl, rfl⟩)
      | (go_at_call 30; refine (lock_free Try.muLib ⟨cb, 0, none⟩ _ h0 f0).mono ?_; rintro e w' ⟨rfl, rfl⟩))
    go_region
    go_wp2
    refine leaves_cons (f := 31) (args := #[.pointer (some ⟨cb, 0, none⟩)]) (by simp) (by simp [go_sem]) ?_
    have k := (HK.out.lock 1).drew
    refine (unlock_deferred Try.muLib ⟨cb, 0, none⟩ .returning _ k.mu.cell (k.mu.frozen 0)).mono ?_
    rintro e u' w'' ⟨rfl, rfl, rfl⟩
    exact ⟨_, results_tmp rfl _ _ _, rfl, k.lock 0, (((Turned.refl _ _).setCell (.inl k.own.1) _).drew).setCell (.inl k.own.1) _⟩
  | false =>
    have hroom' : total es + (len + 128) ≤ lim := by simpa using hroom
    clear hroom
    go_enter_defers Try.func26, Try.ntmps26
    go_wp2_with (first
      | (go_at_call 29; refine (cost_ok ob len c ao _ hcc hl).mono ?_; rintro e w' ⟨rfl, rfl⟩)
      | (go_at_call 30; refine (lock_free Try.muLib ⟨cb, 0, none⟩ _ h0 f0).mono ?_; rintro e w' ⟨rfl, rfl⟩))
    go_region
    go_wp2
    refine leaves_cons (f := 31) (args := #[.pointer (some ⟨cb, 0, none⟩)]) (by simp) (by simp [go_sem]) ?_
    have k := (HK.out.lock 1).drew
    refine (unlock_deferred Try.muLib ⟨cb, 0, none⟩ .returning _ k.mu.cell (k.mu.frozen 0)).mono ?_
    rintro e u' w'' ⟨rfl, rfl, rfl⟩
    exact ⟨_, results_tmp rfl _ _ _, rfl, k.lock 0, (((Turned.refl _ _).setCell (.inl k.own.1) _).drew).setCell (.inl k.own.1) _⟩
end Go.Proofs.Qxb6614306a
