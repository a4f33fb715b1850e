/-
  The walks of the sort's smaller functions at uint64: Less, insertionSort, siftDown, heapSort, reverseRange.
-/
import Derived.Test.Qxb6601408aRows
import Derived.Test.Qxb6601408aSortPlain
import Derived.WalkKit
import Derived.WalkSpells
import Derived.WalkLawsBesides
import Derived.Deep.QuietTactic
import Derived.BigQuiet
import Derived.BigRegion
namespace Go.Proofs.Qxb6601408a.Fin
open Go.RowKit
set_option linter.unusedVariables false

/-- the n cells from (blk, off) on read as d says, and may be written -/
structure Hold (w : World) (blk off n : Nat) (d : Nat → Int) : Prop where
  cell : ∀ t, t < n → w.cell? ⟨blk, off + t, none⟩ = some (.int .u64 (d t))
  loose : ∀ t, t < n → w.frozen? ⟨blk, off + t, none⟩ = false

/-- w' is w but for those n cells and for new blocks -/
structure Keep (blk off n : Nat) (w w' : World) : Prop where
  os : w'.os = w.os
  tape : w'.tape = w.tape
  output : w'.output = w.output
  size : w.heap.size ≤ w'.heap.size
  block : ∀ k, k < w.heap.size → k ≠ blk → w'.heap[k]? = w.heap[k]?
  cell : ∀ i, (i < off ∨ off + n ≤ i) → w'.cell? ⟨blk, i, none⟩ = w.cell? ⟨blk, i, none⟩
  frozen : ∀ i, w'.frozen? ⟨blk, i, none⟩ = w.frozen? ⟨blk, i, none⟩

theorem Keep.refl (blk off n : Nat) (w : World) : Keep blk off n w w := ⟨rfl, rfl, rfl, Nat.le_refl _, fun _ _ _ => rfl, fun _ _ => rfl, fun _ => rfl⟩
theorem Keep.trans {blk off n : Nat} {u v w : World} (h : Keep blk off n u v) (k : Keep blk off n v w) : Keep blk off n u w :=
  ⟨k.os.trans h.os, k.tape.trans h.tape, k.output.trans h.output, Nat.le_trans h.size k.size, fun i hi hb => (k.block i (by have := h.size; omega) hb).trans (h.block i hi hb), fun i hi => (k.cell i hi).trans (h.cell i hi), fun i => (k.frozen i).trans (h.frozen i)⟩
theorem Keep.drewN {blk off n : Nat} {u w : World} (h : Keep blk off n u w) (k : Nat) : Keep blk off n u (w.drewN k) := ⟨h.os, h.tape, h.output, h.size, h.block, h.cell, h.frozen⟩
theorem Keep.drew {blk off n : Nat} {u w : World} (h : Keep blk off n u w) : Keep blk off n u w.drew := ⟨h.os, h.tape, h.output, h.size, h.block, h.cell, h.frozen⟩
theorem Keep.setCell {blk off n : Nat} {u w : World} (h : Keep blk off n u w) (i : Nat) (hi : i < n) (v : Value) : Keep blk off n u (w.setCell ⟨blk, off + i, none⟩ v) :=
  h.trans ⟨rfl, rfl, rfl, by simp [World.setCell], fun k _ hb => Below.heap_setCell _ _ _ _ hb, fun k hk => World.cell?_setCell_other _ _ _ _ (by intro e; injection e with _ e1; omega), fun k => World.frozen?_setCell _ _ _ _⟩
theorem Keep.alloc {blk off n : Nat} {u w : World} (h : Keep blk off n u w) (hb : blk < w.heap.size) (o : Obj) : Keep blk off n u (w.alloc o) :=
  h.trans ⟨rfl, rfl, rfl, by simp, fun k hk _ => Below.heap_alloc _ _ _ hk, fun k hk => World.cell?_alloc_lt _ _ _ hb, fun k => World.frozen?_alloc_old _ _ _ (by show blk ≠ w.heap.size; omega)⟩
theorem Keep.far {blk off n : Nat} {w w' : World} (h : Keep blk off n w w') {p : Addr} (hp : p.block < w.heap.size) (hne : p.block ≠ blk) : w'.cell? p = w.cell? p := World.cell?_of_block (w := w) (h.block p.block hp hne)
theorem Keep.mono {blk off n off' n' : Nat} {w w' : World} (h : Keep blk off' n' w w') (h1 : off ≤ off') (h2 : off' + n' ≤ off + n) : Keep blk off n w w' :=
  ⟨h.os, h.tape, h.output, h.size, h.block, fun i hi => h.cell i (by omega), h.frozen⟩

theorem Hold.drewN {w : World} {blk off n : Nat} {d : Nat → Int} (h : Hold w blk off n d) (k : Nat) : Hold (w.drewN k) blk off n d := ⟨h.cell, h.loose⟩
theorem Hold.drew {w : World} {blk off n : Nat} {d : Nat → Int} (h : Hold w blk off n d) : Hold w.drew blk off n d := ⟨h.cell, h.loose⟩
theorem Hold.alloc {w : World} {blk off n : Nat} {d : Nat → Int} (h : Hold w blk off n d) (hb : blk < w.heap.size) (o : Obj) : Hold (w.alloc o) blk off n d :=
  ⟨fun t ht => by rw [World.cell?_alloc_lt _ _ _ hb]; exact h.cell t ht, fun t ht => by rw [World.frozen?_alloc_old _ _ _ (by show blk ≠ w.heap.size; omega)]; exact h.loose t ht⟩
theorem Hold.congr {w : World} {blk off n : Nat} {d d' : Nat → Int} (h : Hold w blk off n d) (e : ∀ t, t < n → d' t = d t) : Hold w blk off n d' := ⟨fun t ht => by rw [e t ht]; exact h.cell t ht, h.loose⟩
theorem Hold.set {w : World} {blk off n : Nat} {d : Nat → Int} (h : Hold w blk off n d) (i : Nat) (hi : i < n) (x : Int) : Hold (w.setCell ⟨blk, off + i, none⟩ (.int .u64 x)) blk off n (upd d i x) := by
  refine ⟨fun t ht => ?_, fun t ht => by rw [World.frozen?_setCell]; exact h.loose t ht⟩
  by_cases e : t = i
  · subst e; rw [World.cell?_setCell_same _ _ _ (h.cell t ht), upd_same]
  · rw [World.cell?_setCell_other _ _ _ _ (by intro k; injection k with _ k1; omega), upd_ne _ _ _ _ e]; exact h.cell t ht
theorem Hold.sw {w : World} {blk off n : Nat} {d : Nat → Int} (h : Hold w blk off n d) (i j : Nat) (hi : i < n) (hj : j < n) {x y : Int} (hx : x = d j) (hy : y = d i) :
    Hold ((w.setCell ⟨blk, off + i, none⟩ (.int .u64 x)).setCell ⟨blk, off + j, none⟩ (.int .u64 y)) blk off n (Fin.sw d i j) := by
  subst hx hy; exact (h.set i hi _).set j hj _
theorem Keep.sw {blk off n : Nat} {u w : World} (h : Keep blk off n u w) (i j : Nat) (hi : i < n) (hj : j < n) (x y : Value) : Keep blk off n u ((w.setCell ⟨blk, off + i, none⟩ x).setCell ⟨blk, off + j, none⟩ y) :=
  (h.setCell i hi x).setCell j hj y

set_option maxHeartbeats 400000 in
theorem less_c (x y : Int) (w : World) : Calls Try.prog 33 #[.int .u64 x, .int .u64 y] w fun e w' => e = .returned (.bool (decide (x < y))) ∧ w' = w := by
  go_enter Try.func33, Try.ntmps33
  go_wp2
  go_ret
  exact ⟨rfl, rfl⟩

theorem quiet2 {P : Program} {f : FuncId} {args : Array Value} {w : World} {k n : Nat} {v : Value}
    (h : Calls P f args (w.drewN (k + n)) fun e w' => e = .returned v ∧ w' = w.drewN (k + n)) : Calls P f args (w.drewN (k + n)) fun e w'' => e = .returned v ∧ ∃ m, w'' = w.drewN (k + m) :=
  h.mono fun _ _ ⟨he, hm⟩ => ⟨he, n, hm⟩

/-- the call ended; the row reads as d' says, of which P; nothing else turned -/
def Did (blk off n : Nat) (P : (Nat → Int) → Prop) (w : World) (e : Ending) (w' : World) : Prop :=
  e = .returned (.tuple #[]) ∧ Keep blk off n w w' ∧ ∃ d', Hold w' blk off n d' ∧ P d'

set_option maxHeartbeats 1000000 in
theorem ins_c (blk off n cap a b : Nat) (d : Nat → Int) (w : World) (h : Hold w blk off n d) (hab : a ≤ b) (hb : b ≤ n) (hn : n ≤ 65536) :
    Calls Try.prog 27 #[.slice (some ⟨blk, off, none⟩) n cap, .int .i64 a, .int .i64 b] w (Did blk off n (fun d' => Perm a b d d' ∧ Sorted a b d') w) := by
  have H0 : Hid (Hold w blk off n d) := h
  clear h
  go_enter Try.func27, Try.ntmps27
  go_wp2_with fail
  go_loopw [6] (fun iv wr => ∃ (i : Nat) (d1 : Nat → Int), iv = .int .i64 i ∧ a < i ∧ i ≤ b + 1 ∧ Hid (Keep blk off n w wr) ∧ Hid (Hold wr blk off n d1) ∧ Hid (Perm a b d d1) ∧ Hid (Sorted a i d1)) (fun iv _ => b + 1 - (intOf iv).toNat)
  case atStart => exact ⟨a + 1, d, by go_num, by omega, by omega, Keep.refl _ _ _ _, H0, Perm.refl _ _ _, Sorted.one _ _⟩
  case round =>
    obtain ⟨i, d1, rfl, hai, hib, hk, hh, hp, hs⟩ := hrel
    by_cases hlt : i < b
    · go_wp2_with fail
      go_loopw [7] (fun jv wq => ∃ (j : Nat) (d2 : Nat → Int), jv = .int .i64 j ∧ a ≤ j ∧ j ≤ i ∧ Hid (Keep blk off n w wq) ∧ Hid (Hold wq blk off n d2) ∧ Hid (Perm a b d d2) ∧ Hid (Ins a i j d2)) (fun jv _ => (intOf jv).toNat)
      case atStart => exact ⟨i, d1, rfl, by omega, Nat.le_refl _, hk, hh, hp, Ins.start hs⟩
      case round =>
        obtain ⟨j, d2, rfl, haj, hji, hk2, hh2, hp2, hin⟩ := hrel
        clear hk hh hp hs H0
        by_cases hja : a < j
        · obtain ⟨x, hx⟩ : ∃ x, x = d2 j := ⟨_, rfl⟩
          obtain ⟨y, hy⟩ : ∃ y, y = d2 (j - 1) := ⟨_, rfl⟩
          have c1 : wr.cell? ⟨blk, off + j, none⟩ = some (.int .u64 x) := by rw [hx]; exact hh2.out.cell j (by omega)
          have c2 : wr.cell? ⟨blk, off + (j - 1), none⟩ = some (.int .u64 y) := by rw [hy]; exact hh2.out.cell (j - 1) (by omega)
          have f1 := hh2.out.loose j (by omega)
          have f2 := hh2.out.loose (j - 1) (by omega)
          have HX : Hid (x = d2 j) := hx
          have HY : Hid (y = d2 (j - 1)) := hy
          have hjn : (j : Int) < n := by omega
          have hjn2 : (j : Int) - 1 < n := by omega
          have dj : decide ((a : Int) < j) = true := decide_eq_true (by omega)
          have dj' : decide (a < j) = true := decide_eq_true (by omega)
          clear hx hy
          by_cases hl : x < y
          · have t1 : decide (x < y) = true := decide_eq_true hl
            go_wp2_with fail
            go_quiet ((go_at_call 33; first | exact Calls.quiet_of_same (less_c _ _ _) | exact quiet2 (less_c _ _ _)))
            go_wp2_with fail
            go_region
            go_wp2_with fail
            go_roundw
            case rel =>
              exact ⟨j - 1, Fin.sw d2 j (j - 1), by congr 1; omega, by omega, by omega, (hk2.out.drewN _).sw j (j - 1) (by omega) (by omega) _ _, (hh2.out.drewN _).sw j (j - 1) (by omega) (by omega) HY.out HX.out,
                hp2.out.trans (Perm.sw _ _ _ (by omega) (by omega) (by omega) (by omega)), hin.out.step hja hji (by rw [← HX.out, ← HY.out]; exact hl)⟩
            case measure => simp [intOf]; omega
          · have t1 : decide (x < y) = false := decide_eq_false hl
            have HS : Hid (Sorted a (i + 1) d2) := hin.out.stop hji (.inr (by rw [← HX.out, ← HY.out]; exact hl))
            go_wp2_with fail
            go_quiet ((go_at_call 33; first | exact Calls.quiet_of_same (less_c _ _ _) | exact quiet2 (less_c _ _ _)))
            go_wp2_with fail
            go_roundw
            case rel => exact ⟨i + 1, d2, by go_num, by omega, by omega, hk2.out.drewN _, hh2.out.drewN _, hp2, HS⟩
            case measure => simp [intOf]; omega
        · have dj' : decide (a < j) = false := decide_eq_false (by omega)
          have HS : Hid (Sorted a (i + 1) d2) := hin.out.stop hji (.inl (by omega))
          go_wp2_with fail
          go_quiet ((go_at_call 33; first | exact Calls.quiet_of_same (less_c _ _ _) | exact quiet2 (less_c _ _ _)))
          go_wp2_with fail
          go_roundw
          case rel => exact ⟨i + 1, d2, by go_num, by omega, by omega, hk2.out.drewN _, hh2.out.drewN _, hp2, HS⟩
          case measure => simp [intOf]; omega
    · go_wp2_with fail
      go_end0
      exact ⟨rfl, hk, d1, hh, hp, hs.out.sub (Nat.le_refl _) (by omega)⟩

set_option maxHeartbeats 1000000 in
theorem rev_c (blk off n cap a b : Nat) (d : Nat → Int) (w : World) (h : Hold w blk off n d) (hab : a < b) (hb : b ≤ n) (hn : n ≤ 65536) :
    Calls Try.prog 31 #[.slice (some ⟨blk, off, none⟩) n cap, .int .i64 a, .int .i64 b] w (Did blk off n (fun d' => Perm a b d d') w) := by
  have H0 : Hid (Hold w blk off n d) := h
  clear h
  go_enter Try.func31, Try.ntmps31
  go_wp2_with fail
  go_loopw [6, 7] (fun iv jv wr => ∃ (i j : Nat) (d1 : Nat → Int), iv = .int .i64 i ∧ jv = .int .i64 j ∧ a ≤ i ∧ j < b ∧ i ≤ b ∧ Hid (Keep blk off n w wr) ∧ Hid (Hold wr blk off n d1) ∧ Hid (Perm a b d d1)) (fun _ jv _ => (intOf jv).toNat)
  case atStart => exact ⟨a, b - 1, d, rfl, by congr 1; omega, Nat.le_refl _, by omega, by omega, Keep.refl _ _ _ _, H0, Perm.refl _ _ _⟩
  case round =>
    obtain ⟨i, j, d1, rfl, rfl, hai, hjb, hib, hk, hh, hp⟩ := hrel
    clear H0
    by_cases hlt : i < j
    · obtain ⟨x, hx⟩ : ∃ x, x = d1 i := ⟨_, rfl⟩
      obtain ⟨y, hy⟩ : ∃ y, y = d1 j := ⟨_, rfl⟩
      have c1 : wr.cell? ⟨blk, off + i, none⟩ = some (.int .u64 x) := by rw [hx]; exact hh.out.cell i (by omega)
      have c2 : wr.cell? ⟨blk, off + j, none⟩ = some (.int .u64 y) := by rw [hy]; exact hh.out.cell j (by omega)
      have f1 := hh.out.loose i (by omega)
      have f2 := hh.out.loose j (by omega)
      have HX : Hid (x = d1 i) := hx
      have HY : Hid (y = d1 j) := hy
      clear hx hy
      go_wp2_with fail
      go_region
      go_wp2_with fail
      go_roundw
      case rel =>
        exact ⟨i + 1, j - 1, Fin.sw d1 i j, by go_num, by congr 1; omega, by omega, by omega, by omega, (hk.out.sw i j (by omega) (by omega) _ _).drew, (hh.out.sw i j (by omega) (by omega) HY.out HX.out).drew, hp.out.trans (Perm.sw _ _ _ (by omega) (by omega) (by omega) (by omega))⟩
      case measure => simp [intOf]; omega
    · go_wp2_with fail
      go_end0
      exact ⟨rfl, hk, d1, hh, hp⟩

set_option maxHeartbeats 1000000 in
theorem sift_c (blk off n cap lo hi f : Nat) (d : Nat → Int) (w : World) (h : Hold w blk off n d) (hf : f + hi ≤ n) (hn : n ≤ 65536) (hlo : lo ≤ 65536) (hs : Heap f hi (lo + 1) d) (lov hiv : Int) (e1 : lov = lo) (e2 : hiv = hi) :
    Calls Try.prog 38 #[.slice (some ⟨blk, off, none⟩) n cap, .int .i64 lov, .int .i64 hiv, .int .i64 f] w (Did blk off n (fun d' => Perm f (f + hi) d d' ∧ Heap f hi lo d') w) := by
  subst e1 e2
  have H0 : Hid (Hold w blk off n d) := h
  have HS : Hid (Heap f hi (lo + 1) d) := hs
  clear h hs
  go_enter Try.func38, Try.ntmps38
  go_wp2_with fail
  go_loopw [8] (fun rv wr => ∃ (r : Nat) (d1 : Nat → Int), rv = .int .i64 r ∧ r ≤ 65536 ∧ Hid (Keep blk off n w wr) ∧ Hid (Hold wr blk off n d1) ∧ Hid (Perm f (f + hi) d d1) ∧ Hid (Sift f hi lo r d1)) (fun rv _ => 65537 - (intOf rv).toNat)
  case atStart => exact ⟨lo, d, rfl, hlo, Keep.refl _ _ _ _, H0, Perm.refl _ _ _, Sift.start HS⟩
  case round =>
    obtain ⟨r, d1, rfl, hr, hk, hh, hp, hsf⟩ := hrel
    clear H0 HS
    by_cases hc1 : 2 * r + 1 < hi
    · obtain ⟨x0, hx0⟩ : ∃ x, x = d1 (f + r) := ⟨_, rfl⟩
      obtain ⟨x1, hx1⟩ : ∃ x, x = d1 (f + (2 * r + 1)) := ⟨_, rfl⟩
      have c0 : wr.cell? ⟨blk, off + (f + r), none⟩ = some (.int .u64 x0) := by rw [hx0]; exact hh.out.cell _ (by omega)
      have c1 : wr.cell? ⟨blk, off + (f + (2 * r + 1)), none⟩ = some (.int .u64 x1) := by rw [hx1]; exact hh.out.cell _ (by omega)
      have f0 := hh.out.loose (f + r) (by omega)
      have f1 := hh.out.loose (f + (2 * r + 1)) (by omega)
      have HX0 : Hid (x0 = d1 (f + r)) := hx0
      have HX1 : Hid (x1 = d1 (f + (2 * r + 1))) := hx1
      clear hx0 hx1
      have i0 : (f : Int) + r < n := by omega
      have i1 : (f : Int) + (2 * r + 1) < n := by omega
      by_cases hc2 : 2 * r + 2 < hi
      · obtain ⟨x2, hx2⟩ : ∃ x, x = d1 (f + (2 * r + 1 + 1)) := ⟨_, rfl⟩
        have c2 : wr.cell? ⟨blk, off + (f + (2 * r + 1) + 1), none⟩ = some (.int .u64 x2) := by rw [hx2]; exact hh.out.cell _ (by omega)
        have c2' : wr.cell? ⟨blk, off + (f + (2 * r + 1 + 1)), none⟩ = some (.int .u64 x2) := c2
        have f2 := hh.out.loose (f + (2 * r + 1 + 1)) (by omega)
        have HX2 : Hid (x2 = d1 (f + (2 * r + 1 + 1))) := hx2
        clear hx2
        have i2 : (f : Int) + (2 * r + 1) + 1 < n := by omega
        have i3 : (f : Int) + (2 * r + 1 + 1) < n := by omega
        have dg : decide (2 * (r : Int) + 1 + 1 < hi) = true := decide_eq_true (by omega)
        by_cases hm : x1 < x2
        · have t1 : decide (x1 < x2) = true := decide_eq_true hm
          have HMX : Hid (∀ c', c' < hi → (c' = 2 * r + 1 ∨ c' = 2 * r + 2) → d1 (f + c') ≤ d1 (f + (2 * r + 1 + 1))) := fun c' h1 h2 => by
            have a1 := HX1.out; have a2 := HX2.out
            rcases h2 with rfl | rfl
            · omega
            · exact Int.le_refl _
          by_cases hq : x0 < x2
          · have t2 : decide (x0 < x2) = true := decide_eq_true hq
            go_wp2_with fail
            go_quiet ((go_at_call 33; first | exact Calls.quiet_of_same (less_c _ _ _) | exact quiet2 (less_c _ _ _)))
            go_wp2_with fail
            go_quiet ((go_at_call 33; first | exact Calls.quiet_of_same (less_c _ _ _) | exact quiet2 (less_c _ _ _)))
            go_wp2_with fail
            go_region
            go_wp2_with fail
            go_roundw
            case rel =>
              exact ⟨2 * r + 1 + 1, Fin.sw d1 (f + r) (f + (2 * r + 1 + 1)), by go_num, by omega, (hk.out.drewN _).sw (f + r) (f + (2 * r + 1 + 1)) (by omega) (by omega) _ _, (hh.out.drewN _).sw (f + r) (f + (2 * r + 1 + 1)) (by omega) (by omega) HX2.out HX0.out,
                hp.out.trans (Perm.sw _ _ _ (by omega) (by omega) (by omega) (by omega)), hsf.out.step (by omega) (by omega) (by rw [← HX0.out, ← HX2.out]; exact hq) (fun c' h1 h2 => HMX.out c' h1 h2)⟩
            case measure => simp [intOf]; omega
          · have t2 : decide (x0 < x2) = false := decide_eq_false hq
            go_wp2_with fail
            go_quiet ((go_at_call 33; first | exact Calls.quiet_of_same (less_c _ _ _) | exact quiet2 (less_c _ _ _)))
            go_wp2_with fail
            go_quiet ((go_at_call 33; first | exact Calls.quiet_of_same (less_c _ _ _) | exact quiet2 (less_c _ _ _)))
            go_wp2_with fail
            go_end0
            refine ⟨rfl, (hk.out.drewN _).drewN _, d1, (hh.out.drewN _).drewN _, hp, hsf.out.stop fun c' h1 h2 => ?_⟩
            have hm' : d1 (f + c') ≤ d1 (f + (2 * r + 1 + 1)) := HMX.out c' h1 h2
            have e0 := HX0.out
            have e1 := HX2.out
            omega
        · have t1 : decide (x1 < x2) = false := decide_eq_false hm
          have HMX : Hid (∀ c', c' < hi → (c' = 2 * r + 1 ∨ c' = 2 * r + 2) → d1 (f + c') ≤ d1 (f + (2 * r + 1))) := fun c' h1 h2 => by
            have a1 := HX1.out; have a2 := HX2.out
            rcases h2 with rfl | rfl
            · exact Int.le_refl _
            · show d1 (f + (2 * r + 1 + 1)) ≤ _; omega
          by_cases hq : x0 < x1
          · have t2 : decide (x0 < x1) = true := decide_eq_true hq
            go_wp2_with fail
            go_quiet ((go_at_call 33; first | exact Calls.quiet_of_same (less_c _ _ _) | exact quiet2 (less_c _ _ _)))
            go_wp2_with fail
            go_quiet ((go_at_call 33; first | exact Calls.quiet_of_same (less_c _ _ _) | exact quiet2 (less_c _ _ _)))
            go_wp2_with fail
            go_region
            go_wp2_with fail
            go_roundw
            case rel =>
              exact ⟨2 * r + 1, Fin.sw d1 (f + r) (f + (2 * r + 1)), by go_num, by omega, (hk.out.drewN _).sw (f + r) (f + (2 * r + 1)) (by omega) (by omega) _ _, (hh.out.drewN _).sw (f + r) (f + (2 * r + 1)) (by omega) (by omega) HX1.out HX0.out,
                hp.out.trans (Perm.sw _ _ _ (by omega) (by omega) (by omega) (by omega)), hsf.out.step (by omega) (by omega) (by rw [← HX0.out, ← HX1.out]; exact hq) (fun c' h1 h2 => HMX.out c' h1 h2)⟩
            case measure => simp [intOf]; omega
          · have t2 : decide (x0 < x1) = false := decide_eq_false hq
            go_wp2_with fail
            go_quiet ((go_at_call 33; first | exact Calls.quiet_of_same (less_c _ _ _) | exact quiet2 (less_c _ _ _)))
            go_wp2_with fail
            go_quiet ((go_at_call 33; first | exact Calls.quiet_of_same (less_c _ _ _) | exact quiet2 (less_c _ _ _)))
            go_wp2_with fail
            go_end0
            refine ⟨rfl, (hk.out.drewN _).drewN _, d1, (hh.out.drewN _).drewN _, hp, hsf.out.stop fun c' h1 h2 => ?_⟩
            have hm' : d1 (f + c') ≤ d1 (f + (2 * r + 1)) := HMX.out c' h1 h2
            have e0 := HX0.out
            have e1 := HX1.out
            omega
      · have dg : decide (2 * (r : Int) + 1 + 1 < hi) = false := decide_eq_false (by omega)
        have HMX : Hid (∀ c', c' < hi → (c' = 2 * r + 1 ∨ c' = 2 * r + 2) → d1 (f + c') ≤ d1 (f + (2 * r + 1))) := fun c' h1 h2 => by
          rcases h2 with rfl | rfl
          · exact Int.le_refl _
          · omega
        by_cases hq : x0 < x1
        · have t2 : decide (x0 < x1) = true := decide_eq_true hq
          go_wp2_with fail
          go_quiet ((go_at_call 33; first | exact Calls.quiet_of_same (less_c _ _ _) | exact quiet2 (less_c _ _ _)))
          go_wp2_with fail
          go_quiet ((go_at_call 33; first | exact Calls.quiet_of_same (less_c _ _ _) | exact quiet2 (less_c _ _ _)))
          go_wp2_with fail
          go_region
          go_wp2_with fail
          go_roundw
          case rel =>
            exact ⟨2 * r + 1, Fin.sw d1 (f + r) (f + (2 * r + 1)), by go_num, by omega, (hk.out.drewN _).sw (f + r) (f + (2 * r + 1)) (by omega) (by omega) _ _, (hh.out.drewN _).sw (f + r) (f + (2 * r + 1)) (by omega) (by omega) HX1.out HX0.out,
              hp.out.trans (Perm.sw _ _ _ (by omega) (by omega) (by omega) (by omega)), hsf.out.step (by omega) (by omega) (by rw [← HX0.out, ← HX1.out]; exact hq) (fun c' h1 h2 => HMX.out c' h1 h2)⟩
          case measure => simp [intOf]; omega
        · have t2 : decide (x0 < x1) = false := decide_eq_false hq
          go_wp2_with fail
          go_quiet ((go_at_call 33; first | exact Calls.quiet_of_same (less_c _ _ _) | exact quiet2 (less_c _ _ _)))
          go_wp2_with fail
          go_quiet ((go_at_call 33; first | exact Calls.quiet_of_same (less_c _ _ _) | exact quiet2 (less_c _ _ _)))
          go_wp2_with fail
          go_end0
          refine ⟨rfl, (hk.out.drewN _).drewN _, d1, (hh.out.drewN _).drewN _, hp, hsf.out.stop fun c' h1 h2 => ?_⟩
          have hm' : d1 (f + c') ≤ d1 (f + (2 * r + 1)) := HMX.out c' h1 h2
          have e0 := HX0.out
          have e1 := HX1.out
          omega
    · go_wp2_with fail
      go_end0
      exact ⟨rfl, hk, d1, hh, hp, hsf.out.stop fun c' h1 h2 => by omega⟩

end Go.Proofs.Qxb6601408a.Fin
