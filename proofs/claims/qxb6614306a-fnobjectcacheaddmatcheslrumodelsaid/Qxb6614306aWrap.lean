/-
  The exported hands on the cache: 16 (a new one), 18 (a new object), 19 (bytes), 20 (the map's length), 21 (front), 22 (next), 23 (an element's offset).
-/
import Derived.Test.Qxb6614306aAddDone
import Derived.Test.Qxb6614306aAddBack
namespace Go.Proofs.Qxb6614306a
open Go.RowKit Go.WideShapes
open Go.ChangeMaps (setBlock)
set_option linter.unusedVariables false

/-- a new cache's cells -/
def newCache : Array Value := #[.int .i32 0, .int .u32 0, .int .u64 0, .map none, .pointer none, .pointer none, .pointer none, .nilIface, .int .i64 0]

theorem cache_new (w : World) : Calls Try.prog 16 #[] w fun e w' => ∃ c, e = .returned (pt w.heap.size 0) ∧ w' = w.alloc (.cells c 89) ∧ c[0]? = some (.int .i32 0) ∧ c[2]? = some (.int .u64 0) ∧ c[3]? = some (.map none) ∧ c[4]? = some (.pointer none) ∧ c[5]? = some (.pointer none) ∧ c[8]? = some (.int .i64 0) := by
  go_enter Try.func16, Try.ntmps16
  go_wp2
  go_ret
  exact ⟨_, rfl, rfl, rfl, rfl, rfl, rfl, rfl, rfl⟩

theorem made_new (off : Int) (ao : Option Addr) (len c : Nat) (w : World) : Calls Try.prog 18 #[.int .i64 off, .slice ao len c] w fun e w' => ∃ cs, e = .returned (pt w.heap.size 0) ∧ w' = w.alloc (.cells cs 92) ∧ cs[0]? = some (.int .i64 off) ∧ cs[2]? = some (.slice ao len c) := by
  go_enter Try.func18, Try.ntmps18
  go_wp2
  go_ret
  exact ⟨_, rfl, rfl, rfl, rfl⟩

theorem bytes_ok (cb T : Nat) (w : World) (h : w.cell? ⟨cb, 2, none⟩ = some (.int .u64 (T : Int))) : Calls Try.prog 19 #[pt cb 0] w fun e w' => e = .returned (.int .u64 (T : Int)) ∧ w' = w := by
  go_enter Try.func19, Try.ntmps19
  go_wp2
  go_ret
  exact ⟨rfl, rfl⟩

theorem mapLen_nil (cb : Nat) (w : World) (h : w.cell? ⟨cb, 3, none⟩ = some (.map none)) : Calls Try.prog 20 #[pt cb 0] w fun e w' => e = .returned (.int .i64 ((0 : Nat) : Int)) ∧ w' = w := by
  go_enter Try.func20, Try.ntmps20
  go_wp2
  go_ret
  exact ⟨rfl, rfl⟩

theorem mapLen_some (cb mb n : Nat) (w : World) (h : w.cell? ⟨cb, 3, none⟩ = some (.map (some mb))) (hl : ∀ ty, (Builtin.len_ #[82] ty #[.map (some mb)]).run Try.prog w = .ok (.int .i64 (n : Int)) w) : Calls Try.prog 20 #[pt cb 0] w fun e w' => e = .returned (.int .i64 (n : Int)) ∧ w' = w := by
  go_enter Try.func20, Try.ntmps20
  go_wp2
  go_ret
  exact ⟨rfl, rfl⟩

/-- the map's length: as many as the list -/
theorem mapLen_ok {Own : Nat → Prop} {cb n : Nat} {m : Int} {es : List Ent} {w : World} (h : Kept Own cb m es w) (hn : n = es.length) : Calls Try.prog 20 #[pt cb 0] w fun e w' => e = .returned (.int .i64 (n : Int)) ∧ w' = w := by
  obtain ⟨mo, hm1, hm2⟩ := h.map
  cases mo with
  | none =>
    have e : es.map (·.off) = [] := hm2
    have e2 : es = [] := by simpa using e
    subst e2
    subst hn
    exact mapLen_nil cb w hm1.cell
  | some mb =>
    obtain ⟨_, K, hK, hP⟩ := hm2
    have e : K.length = n := by rw [hP.length_eq, List.length_map, hn]
    exact mapLen_some cb mb n w hm1.cell (fun ty => by rw [map_len hK ty, e])

theorem front_zz {cb : Nat} {es : List Nat} {w : World} (h : Listed cb es w) (hn : es.length ≤ 1048576) : Calls Try.prog 21 #[pt cb 0] w fun e w' => e = .returned (headPt es) ∧ w' = w := by
  have H := hide (front_ok h hn)
  clear h
  go_enter Try.func21, Try.ntmps21
  go_wp2_with fail
  refine H.out.mono ?_
  rintro e w1 ⟨rfl, rfl⟩
  go_wp2
  go_ret
  exact ⟨rfl, rfl⟩

theorem next_zz {cb : Nat} {l1 l2 : List Nat} {y : Nat} {w : World} (h : Ring cb (l1 ++ y :: l2) w) : Calls Try.prog 22 #[pt y 0] w fun e w' => e = .returned (headPt l2) ∧ w' = w := by
  have H := hide (next_ok h)
  clear h
  go_enter Try.func22, Try.ntmps22
  go_wp2_with fail
  refine H.out.mono ?_
  rintro e w1 ⟨rfl, rfl⟩
  go_wp2
  go_ret
  exact ⟨rfl, rfl⟩

theorem offset_zz (y o : Nat) (off : Int) (w : World) (h1 : w.cell? ⟨y, 3, none⟩ = some (.iface 47 (pt o 0))) (h2 : w.cell? ⟨o, 0, none⟩ = some (.int .i64 off)) : Calls Try.prog 23 #[pt y 0] w fun e w' => e = .returned (.int .i64 off) ∧ w' = w := by
  have hta := assert_made o
  go_enter Try.func23, Try.ntmps23
  go_wp2
  go_ret
  exact ⟨rfl, rfl⟩
end Go.Proofs.Qxb6614306a
