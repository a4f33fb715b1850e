/-
  The walks of the helpers that copy: cloneInt32s, ZZNewMinTree, ZZMinTreeLows, ZZMinTreeAdds.
-/
import Derived.Test.Qxb6601508aTreeWalks
namespace Go.Proofs.Qxb6601508a.Tree
open Go.RowKit

theorem info21 : (Try.prog.info? 21).map (fun i => (i.zero, i.size, i.bytes)) = some (some (.int .i32 0), 1, 4) := by kernel_rfl
theorem info54 : (Try.prog.info? 54).map (fun i => (i.zero, i.size, i.bytes)) = some (some (.agg #[.int .i32 0, .int .i32 0]), 2, 8) := by kernel_rfl

/-- a new slice of n int32s that reads as z says -/
def Copied (n : Nat) (z : Nat → Int) (w : World) (e : Ending) (w' : World) : Prop :=
  ∃ B, e = .returned (.slice (some ⟨B, 0, none⟩) n n) ∧ w.heap.size ≤ B ∧ B < w'.heap.size ∧ (∀ j, j < n → w'.cell? ⟨B, j, none⟩ = some (.int .i32 (z j))) ∧ Below w.heap.size w w'

theorem row_lt {w : World} {base e size n cap : Nat} {B : Nat} {xs : List Value} (h : w.ownsRow base e size (.slice (some ⟨B, 0, none⟩) n cap) n xs) : B < w.heap.size := by
  rcases h.2 with ⟨h, _⟩ | ⟨g, cp, cur, hv, _, hh, _⟩
  · simp at h
  · simp at hv
    rw [← hv.1] at hh
    exact (Array.getElem?_eq_some_iff.1 hh).1

set_option maxHeartbeats 1000000 in
theorem clone_c (b off n cap : Nat) (z : Nat → Int) (w : World) (hb : b < w.heap.size) (hn : n ≤ 1048576)
    (hy : ∀ j, j < n → w.cell? ⟨b, off + j, none⟩ = some (.int .i32 (z j))) :
    Calls Try.prog 16 #[.slice (some ⟨b, off, none⟩) n cap] w (Copied n z w) := by
  have HY : Hid (∀ j, j < n → w.cell? ⟨b, off + j, none⟩ = some (.int .i32 (z j))) := hy
  clear hy
  have hnil := fun w => Lib.run_eql_slice_nil (P := Try.prog) w 25 21 (some ⟨b, off, none⟩) n cap 0 0 Try.underlying25
  obtain ⟨i0, hi, hz0, hz1, hz2⟩ := info_parts info21
  go_enter Try.func16, Try.ntmps16
  go_wp2_with (at_make; refine wpList_make_full _ rfl (.tmp 8) (.tmp 8) 25 rfl w.heap.size 21 i0 (.int .i32 0) 1 Try.underlying25 hi hz0 hz1 .i64 .i64 _ _ n rfl rfl rfl rfl (by rw [hz2]; omega) (by unfold maxLen; omega) (Nat.le_refl _) ?_; intro w1 hown hgrow)
  have HO : Hid (w1.ownsRow w.heap.size 21 1 (.slice (some ⟨w.heap.size, 0, none⟩) n n) n (madeCells (Value.int .i32 0).cells (n * 1)).toList) := hown
  have HB : Hid (Below w.heap.size w w1) := (Below.refl _ _).grown hgrow (Nat.le_refl _) (by simp)
  clear hown hgrow hnil hi hz0 hz1 hz2
  go_loopw [4] (fun i wr => ∃ (k : Nat) (xs : List Value), k ≤ n ∧ i = .int .i64 k ∧ Hid (wr.ownsRow w.heap.size 21 1 (.slice (some ⟨w.heap.size, 0, none⟩) n n) n xs) ∧ Hid (∀ j, j < k → xs[j]? = some (.int .i32 (z j))) ∧ Hid (Below w.heap.size w wr)) (fun i _ => n - (intOf i).toNat)
  case atStart => exact ⟨0, _, Nat.zero_le _, rfl, HO, fun j hj => absurd hj (Nat.not_lt_zero _), HB⟩
  case round =>
    obtain ⟨k, xs, hk, rfl, hown, hxs, hbel⟩ := hrel
    by_cases hlt : k < n
    · have g1 : wr.cell? ⟨b, off + k, none⟩ = some (.int .i32 (z k)) := by rw [hbel.out.cell (by exact hb)]; exact HY k hlt
      have g2 := hown.out.frozenAt k
      obtain ⟨u0, g3⟩ : ∃ u0, wr.cell? ⟨w.heap.size, k, none⟩ = some u0 := by
        rw [hown.out.cellAt k (by omega)]
        have := hown.out.1
        exact ⟨xs[k]'(by omega), List.getElem?_eq_getElem (by omega)⟩
      have hlen := hown.out.1
      have HS : Hid ((wr.setCell ⟨w.heap.size, k, none⟩ (.int .i32 (z k))).ownsRow w.heap.size 21 1 (.slice (some ⟨w.heap.size, 0, none⟩) n n) n (xs.set k (.int .i32 (z k)))) := (hown.out.stored k _).1
      have HX : Hid (∀ j, j < k + 1 → (xs.set k (.int .i32 (z k)))[j]? = some (.int .i32 (z j))) := fun j hj => by
        by_cases e : j = k
        · subst e; rw [List.getElem?_set_self (by omega)]
        · rw [List.getElem?_set_ne (by omega)]; exact hxs j (by omega)
      generalize z k = c at *
      go_wp2_with fail
      go_roundw
      case rel => exact ⟨k + 1, _, by omega, by go_num, HS, HX, hbel.out.setCell (Nat.le_refl _) _⟩
      case measure => simp [intOf]; omega
    · obtain rfl : k = n := by omega
      go_wp2_with fail
      go_ret
      exact ⟨w.heap.size, rfl, Nat.le_refl _, row_lt hown.out, fun j hj => by rw [hown.out.cellAt j (by omega)]; exact hxs j hj, hbel⟩

def Made (n : Int) (size : Nat) (low add : Nat → Int) (w : World) (e : Ending) (w' : World) : Prop :=
  ∃ T N, e = .returned (.pointer (some ⟨T, 0, none⟩)) ∧ w.heap.size ≤ N ∧ N < w'.heap.size ∧ w.heap.size ≤ T ∧ T < w'.heap.size ∧ At w' T N n size low add ∧ Below w.heap.size w w'

set_option maxHeartbeats 1000000 in
theorem new_c (b1 o1 c1 b2 o2 c2 size : Nat) (n : Int) (low add : Nat → Int) (w : World) (hb1 : b1 < w.heap.size) (hb2 : b2 < w.heap.size) (hs : size ≤ 65536)
    (hl : ∀ j, j < 2 * size → w.cell? ⟨b1, o1 + j, none⟩ = some (.int .i32 (low j))) (ha : ∀ j, j < 2 * size → w.cell? ⟨b2, o2 + j, none⟩ = some (.int .i32 (add j))) :
    Calls Try.prog 17 #[.int .i64 n, .int .i64 size, .slice (some ⟨b1, o1, none⟩) (2 * size) c1, .slice (some ⟨b2, o2, none⟩) (2 * size) c2] w (Made n size low add w) := by
  have HL : Hid (∀ j, j < 2 * size → w.cell? ⟨b1, o1 + j, none⟩ = some (.int .i32 (low j))) := hl
  have HA : Hid (∀ j, j < 2 * size → w.cell? ⟨b2, o2 + j, none⟩ = some (.int .i32 (add j))) := ha
  clear hl ha
  obtain ⟨i0, hi, hz0, hz1, hz2⟩ := info_parts info54
  go_enter Try.func17, Try.ntmps17
  go_wp2_with (at_make; refine wpList_make_full _ rfl (.tmp 12) (.tmp 12) 52 rfl w.heap.size 54 i0 (.agg #[.int .i32 0, .int .i32 0]) 2 Try.underlying52 hi hz0 hz1 .i64 .i64 _ _ (2 * size) rfl rfl (by omega) (by omega) (by rw [hz2]; omega) (by unfold maxLen; omega) (Nat.le_refl _) ?_; intro w1 hown hgrow)
  have HO : Hid (w1.ownsRow w.heap.size 54 2 (.slice (some ⟨w.heap.size, 0, none⟩) (2 * size) (2 * size)) (2 * size) (madeCells (Value.agg #[.int .i32 0, .int .i32 0]).cells (2 * size * 2)).toList) := hown
  have HB : Hid (Below w.heap.size w w1) := (Below.refl _ _).grown hgrow (Nat.le_refl _) (by simp)
  clear hown hgrow hi hz0 hz1 hz2
  go_loopw [16] (fun i wr => ∃ (k : Nat) (xs : List Value), k ≤ 2 * size ∧ i = .int .i64 k ∧ Hid (wr.ownsRow w.heap.size 54 2 (.slice (some ⟨w.heap.size, 0, none⟩) (2 * size) (2 * size)) (2 * size) xs) ∧ Hid (∀ j, j < k → xs[j * 2]? = some (.int .i32 (low j)) ∧ xs[j * 2 + 1]? = some (.int .i32 (add j))) ∧ Hid (Below w.heap.size w wr)) (fun i _ => 2 * size - (intOf i).toNat)
  case atStart => exact ⟨0, _, Nat.zero_le _, rfl, HO, fun j hj => absurd hj (Nat.not_lt_zero _), HB⟩
  case round =>
    obtain ⟨k, xs, hk, rfl, hown, hxs, hbel⟩ := hrel
    by_cases hlt : k < 2 * size
    · have g1 : wr.cell? ⟨b1, o1 + k, none⟩ = some (.int .i32 (low k)) := by rw [hbel.out.cell (by exact hb1)]; exact HL k hlt
      have g2 : wr.cell? ⟨b2, o2 + k, none⟩ = some (.int .i32 (add k)) := by rw [hbel.out.cell (by exact hb2)]; exact HA k hlt
      have f1 := hown.out.frozenAt (k * 2)
      have f2 := hown.out.frozenAt (k * 2 + 1)
      have hlen := hown.out.1
      obtain ⟨u0, g3⟩ : ∃ u0, wr.cell? ⟨w.heap.size, k * 2, none⟩ = some u0 := by
        rw [hown.out.cellAt (k * 2) (by omega)]
        exact ⟨xs[k * 2]'(by omega), List.getElem?_eq_getElem (by omega)⟩
      obtain ⟨u1, g4⟩ : ∃ u1, wr.cell? ⟨w.heap.size, k * 2 + 1, none⟩ = some u1 := by
        rw [hown.out.cellAt (k * 2 + 1) (by omega)]
        exact ⟨xs[k * 2 + 1]'(by omega), List.getElem?_eq_getElem (by omega)⟩
      go_wp2_with fail
      go_region
      go_wp2_with fail
      go_roundw
      case rel =>
        refine ⟨k + 1, (xs.set (k * 2) (.int .i32 (low k))).set (k * 2 + 1) (.int .i32 (add k)), by omega, by go_num, World.ownsRow.drew ((hown.out.stored (k * 2) _).1.stored (k * 2 + 1) _).1, fun j hj => ?_, ((hbel.out.setCell (Nat.le_refl _) _).setCell (Nat.le_refl _) _).drew⟩
        by_cases e : j = k
        · subst e
          exact ⟨by rw [List.getElem?_set_ne (by omega), List.getElem?_set_self (by omega)], by rw [List.getElem?_set_self (by rw [List.length_set]; omega)]⟩
        · have := hxs j (by omega)
          exact ⟨by rw [List.getElem?_set_ne (by omega), List.getElem?_set_ne (by omega)]; exact this.1, by rw [List.getElem?_set_ne (by omega), List.getElem?_set_ne (by omega)]; exact this.2⟩
      case measure => simp [intOf]; omega
    · obtain rfl : k = 2 * size := by omega
      have hB := row_lt hown.out
      go_wp2_with fail
      go_ret
      refine ⟨wr.heap.size, w.heap.size, rfl, Nat.le_refl _, by simp; omega, by omega, by simp, ⟨by simp, by simp, by simp, fun j hj => ?_, fun j hj => ?_, fun j => ?_, by omega⟩, hbel.out.alloc (by omega) _⟩
      · rw [World.cell?_alloc_lt _ _ _ hB, hown.out.cellAt (j * 2) (by omega)]; exact (hxs j hj).1
      · rw [World.cell?_alloc_lt _ _ _ hB, hown.out.cellAt (j * 2 + 1) (by omega)]; exact (hxs j hj).2
      · rw [World.frozen?_alloc_old _ _ _ (by show w.heap.size ≠ wr.heap.size; omega)]; exact hown.out.frozenAt j
end Go.Proofs.Qxb6601508a.Tree
