/-
  The walk of cloneU64.
-/
import Derived.Test.Qxb6601408aFinTop
namespace Go.Proofs.Qxb6601408a.Fin
open Go.RowKit
set_option linter.unusedVariables false

/-- a new slice that holds y -/
def Cloned (n : Nat) (y : Nat → Int) (w : World) (e : Ending) (w' : World) : Prop :=
  e = .returned (.slice (some ⟨w.heap.size, 0, none⟩) n n) ∧ RowKit.Below w.heap.size w w' ∧ Hold w' w.heap.size 0 n y ∧ w.heap.size < w'.heap.size

theorem below_keep {g o k : Nat} {u w w' : World} (h : RowKit.Below u.heap.size u w) (hk : Keep g o k w w') (hg : u.heap.size ≤ g) : RowKit.Below u.heap.size u w' :=
  h.trans ⟨hk.os, hk.tape, hk.output, hk.size, fun i hi => hk.block i (by have := h.size; omega) (by omega)⟩

set_option maxHeartbeats 1000000 in
theorem clone_c (b off n cap : Nat) (y : Nat → Int) (w : World) (hn : n ≤ 65536) (hy : ∀ j, j < n → w.cell? ⟨b, off + j, none⟩ = some (.int .u64 (y j))) (hb : 0 < n → b < w.heap.size) :
    Calls Try.prog 16 #[.slice (some ⟨b, off, none⟩) n cap] w (Cloned n y w) := by
  have HY : Hid (∀ j, j < n → w.cell? ⟨b, off + j, none⟩ = some (.int .u64 (y j))) := hy
  clear hy
  have hnil := fun w => Lib.run_eql_slice_nil (P := Try.prog) w 33 26 (some ⟨b, off, none⟩) n cap 0 0 Try.underlying33
  obtain ⟨i0, hi, hz0, hz1, hz2⟩ := info_parts info26
  go_enter Try.func16, Try.ntmps16
  go_wp2_with (first | (at_make; refine wpList_make_full _ rfl (.tmp 7) (.tmp 7) 33 rfl w.heap.size 26 i0 (.int .u64 0) 1 Try.underlying33 hi hz0 hz1 .i64 .i64 _ _ n rfl rfl rfl rfl (by rw [hz2]; omega) (by unfold maxLen; omega) (Nat.le_refl _) ?_; intro w1 hown hgrow; have HO : Hid (w1.ownsRow w.heap.size 26 1 (.slice (some ⟨w.heap.size, 0, none⟩) n n) n (madeCells (Value.int .u64 0).cells (n * 1)).toList) := hown; have HB : Hid (RowKit.Below w.heap.size w w1) := (RowKit.Below.refl _ _).grown hgrow (Nat.le_refl _) (by simp); have HZ : Hid (w.heap.size < w1.heap.size) := (hown.lt w.heap.size rfl).2; clear hown hgrow hnil) | (refine wpList_copy_hold rfl (.tmp 9) (.tmp 10) rfl (some ⟨w.heap.size, 0, none⟩) (some ⟨b, off, none⟩) n n n cap rfl rfl w.heap.size 0 n y (Nat.min_self n).symm (fun _ => rfl) (fun h0 => ⟨_, rfl, fun j hj => by rw [Addr.add_lit, HB.out.cell (by exact hb h0)]; exact HY.out j hj⟩) (fun j hj => by rw [Nat.zero_add, HO.out.cellAt j (by omega), List.getElem?_eq_getElem (by rw [HO.out.1]; omega)]; rfl) (fun j hj => by rw [Nat.zero_add]; exact HO.out.frozenAt j) ?_; intro w2 HK2 HH2))
  go_ret
  exact ⟨rfl, below_keep HB.out HK2.out (Nat.le_refl _), HH2, Nat.lt_of_lt_of_le HZ.out HK2.out.size⟩
set_option maxHeartbeats 1000000 in
theorem clone_nil_c (w : World) : Calls Try.prog 16 #[.slice none 0 0] w fun e w' => e = .returned (.slice none 0 0) ∧ w' = w := by
  have hnil := fun w => Lib.run_eql_slice_nil (P := Try.prog) w 33 26 none 0 0 0 0 Try.underlying33
  go_enter Try.func16, Try.ntmps16
  go_wp2_with fail
  go_ret
  exact ⟨rfl, rfl⟩
end Go.Proofs.Qxb6601408a.Fin
