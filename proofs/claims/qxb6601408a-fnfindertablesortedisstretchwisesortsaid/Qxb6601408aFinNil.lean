/-
  The same functions at a nil slice.
-/
import Derived.Test.Qxb6601408aFinFirst
namespace Go.Proofs.Qxb6601408a.Fin
open Go.RowKit
set_option linter.unusedVariables false

def Idle (w : World) (e : Ending) (w' : World) : Prop := e = .returned (.tuple #[]) ∧ w' = w

set_option maxHeartbeats 1000000 in
theorem ins_nil (w : World) : Calls Try.prog 27 #[.slice none 0 0, .int .i64 0, .int .i64 0] w (Idle w) := by
  go_enter Try.func27, Try.ntmps27
  go_wp2_with fail
  go_loopw [6] (fun iv wq => iv = .int .i64 1 ∧ w = wq) (fun _ _ => 0)
  case atStart => exact ⟨rfl, rfl⟩
  case round =>
    obtain ⟨rfl, rfl⟩ := hrel
    go_wp2_with fail
    go_end0
    exact ⟨rfl, rfl⟩
set_option maxRecDepth 100000 in
set_option maxHeartbeats 1000000 in
theorem pdq_nil (w : World) : Calls Try.prog 25 #[.slice none 0 0, .int .i64 0, .int .i64 0, .int .i64 0] w (Idle w) := by
  go_enter Try.func25, Try.ntmps25
  go_wp2_with fail
  go_loopw [1, 2, 3, 8, 9] (fun av bv lv pv qv wq => av = .int .i64 0 ∧ bv = .int .i64 0 ∧ lv = .int .i64 0 ∧ pv = .bool true ∧ qv = .bool true ∧ w = wq) (fun _ _ _ _ _ _ => 0)
  case atStart => exact ⟨rfl, rfl, rfl, rfl, rfl, rfl⟩
  case round =>
    obtain ⟨rfl, rfl, rfl, rfl, rfl, rfl⟩ := hrel
    go_wp2_with fail
    refine (ins_nil _).mono ?_
    rintro e w2 ⟨rfl, rfl⟩
    go_wp2_with fail
    go_end0
    exact ⟨rfl, rfl⟩
set_option maxHeartbeats 1000000 in
theorem sort_nil (w : World) : Calls Try.prog 23 #[.slice none 0 0] w (Idle w) := by
  go_enter Try.func23, Try.ntmps23
  go_wp2_with fail
  refine (len_c 0 _ (by omega) (by omega)).mono ?_
  rintro e w1 ⟨rfl, rfl⟩
  have e0 : ((Lib.bitLen (0 : Int).toNat : Nat) : Int) = 0 := by decide +kernel
  rw [e0]
  go_wp2_with fail
  refine (pdq_nil _).mono ?_
  rintro e w2 ⟨rfl, rfl⟩
  go_wp2_with fail
  go_end0
  exact ⟨rfl, rfl⟩
set_option maxHeartbeats 1000000 in
theorem msort_nil (w : World) : Calls Try.prog 17 #[.slice none 0 0] w (Idle w) := by
  go_enter Try.func17, Try.ntmps17
  go_wp2_with fail
  go_end0
  exact ⟨rfl, rfl⟩
def BelowAns (w : World) (e : Ending) (w' : World) : Prop := (∃ r : Bool, e = .returned (.bool r)) ∧ RowKit.Below w.heap.size w w'
set_option maxHeartbeats 1000000 in
theorem bytes14_c (A : Option Addr) (n cap : Nat) (sa xa ca : Array Value) (w : World) : Calls Try.prog 14 #[.slice A n cap, .agg sa, .agg xa, .agg ca] w (BelowAns w) := by
  go_enter Try.func14, Try.ntmps14
  go_upto_region 1 with fail
  obtain ⟨w1, hw1, hb1, hb2, hb3, hb4, hb5⟩ := boxed3 w sa xa ca
  rw [← hw1]
  have HB : Hid (RowKit.Below w.heap.size w w1) := hb4
  clear hw1 hb1 hb2 hb3 hb4 hb5
  by_cases hc : n ≤ 1048576
  · go_wp2_with fail
    go_ret
    exact ⟨⟨true, rfl⟩, HB⟩
  · go_wp2_with fail
    go_ret
    exact ⟨⟨false, rfl⟩, HB⟩
set_option maxHeartbeats 1000000 in
theorem bytes19_c (A : Option Addr) (n cap : Nat) (sa xa ca : Array Value) (w : World) : Calls Try.prog 19 #[.slice A n cap, .agg sa, .agg xa, .agg ca] w (BelowAns w) := by
  go_enter Try.func19, Try.ntmps19
  go_upto_region 1 with fail
  obtain ⟨w1, hw1, hb1, hb2, hb3, hb4, hb5⟩ := boxed3 w sa xa ca
  rw [← hw1]
  have HB : Hid (RowKit.Below w.heap.size w w1) := hb4
  clear hw1 hb1 hb2 hb3 hb4 hb5
  by_cases hc : n ≤ 1048576
  · go_wp2_with fail
    go_ret
    exact ⟨⟨true, rfl⟩, HB⟩
  · go_wp2_with fail
    go_ret
    exact ⟨⟨false, rfl⟩, HB⟩
end Go.Proofs.Qxb6601408a.Fin
