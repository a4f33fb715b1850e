/-
  The walk of breakPatternsOrdered at uint64: a permutation.
-/
import Derived.Test.Qxb6601408aSortPivot
namespace Go.Proofs.Qxb6601408a.Fin
open Go.RowKit
set_option linter.unusedVariables false

theorem Hold.lt {w : World} {blk off n : Nat} {d : Nat → Int} (h : Hold w blk off n d) (hn : 0 < n) : blk < w.heap.size := World.block_lt_of_cell? _ _ (h.cell 0 hn)

theorem Hold.other {v w : World} {blk off n rb o m : Nat} {d : Nat → Int} (h : Hold v blk off n d) (k : Keep rb o m v w) (hne : blk ≠ rb) (hb : blk < v.heap.size) : Hold w blk off n d :=
  ⟨fun t ht => (World.cell?_of_block (w := v) (k.block blk hb hne)).trans (h.cell t ht), fun t ht => (World.frozen?_of_block (w := v) (k.block blk hb hne)).trans (h.loose t ht)⟩
theorem Keep.other {u v w : World} {blk off n rb o m : Nat} (h : Keep blk off n u v) (k : Keep rb o m v w) (hr : u.heap.size ≤ rb) (hb : blk < u.heap.size) : Keep blk off n u w := by
  have hs := h.size
  have hk := k.block blk (by omega) (by omega)
  exact ⟨k.os.trans h.os, k.tape.trans h.tape, k.output.trans h.output, Nat.le_trans h.size k.size, fun i hi hne => (k.block i (by omega) (by omega)).trans (h.block i hi hne),
    fun i hi => (World.cell?_of_block (w := v) hk).trans (h.cell i hi), fun i => (World.frozen?_of_block (w := v) hk).trans (h.frozen i)⟩
theorem Hold.fresh (w : World) (x : Int) (t : TypeId) : Hold (w.alloc (Obj.cells #[.int .u64 x] t)) w.heap.size 0 1 (fun _ => x) :=
  ⟨fun i hi => by obtain rfl : i = 0 := by omega
                  rw [World.cell?_alloc_new]; rfl, fun i hi => by simp⟩

set_option maxHeartbeats 1000000 in
theorem brk_c (blk off n cap a b : Nat) (d : Nat → Int) (w : World) (h : Hold w blk off n d) (hab : a < b) (hb : b ≤ n) (hn : n ≤ 65536) :
    Calls Try.prog 29 #[.slice (some ⟨blk, off, none⟩) n cap, .int .i64 a, .int .i64 b] w (Did blk off n (fun d' => Perm a b d d') w) := by
  have H0 : Hid (Hold w blk off n d) := h
  have hlt := h.lt (by omega)
  clear h
  obtain ⟨L, hL⟩ : ∃ L : Nat, b = a + L := ⟨b - a, by omega⟩
  have e1 : (b : Int) - a = L := by omega
  have hL1 : b ≤ a + L := by omega
  have hL2 : a + L ≤ b := by omega
  clear hL
  by_cases h8 : 8 ≤ L
  · have d8 : decide (8 ≤ L) = true := decide_eq_true (by omega)
    go_enter Try.func29, Try.ntmps29
    go_wp2_with fail
    refine (next2_c L _ (by omega) (by omega)).mono ?_
    rintro e w1 ⟨⟨m, rfl, hm1, hm2⟩, rfl⟩
    obtain ⟨Q, hQ⟩ : ∃ Q : Nat, Q = L / 4 := ⟨_, rfl⟩
    have q1 : (L : Int) / 4 = Q := by omega
    have q2 : 4 * Q ≤ L := by omega
    have q3 : L < 4 * Q + 4 := by omega
    clear hQ
    have HA : Hid (Hold (w.alloc (Obj.cells #[.int .u64 L] 61)) blk off n d) := H0.out.alloc hlt _
    have HR : Hid (Hold (w.alloc (Obj.cells #[.int .u64 L] 61)) w.heap.size 0 1 (fun _ => L)) := Hold.fresh w L 61
    have HK : Hid (Keep blk off n w (w.alloc (Obj.cells #[.int .u64 L] 61))) := (Keep.refl _ _ _ _).alloc hlt _
    generalize w.alloc (Obj.cells #[.int .u64 L] 61) = w1 at HA HR HK ⊢
    obtain ⟨rb, hrb⟩ : ∃ rb, rb = w.heap.size := ⟨_, rfl⟩
    rw [← hrb] at HR ⊢
    have HRB : Hid (w.heap.size ≤ rb) := by rw [hrb]; exact Nat.le_refl _
    have HLT : Hid (blk < w.heap.size) := hlt
    have HNE : Hid (blk ≠ rb) := by rw [hrb]; exact Nat.ne_of_lt hlt
    clear hrb hlt H0
    go_wp2_with fail
    go_loopw [9] (fun iv wr => ∃ (i : Nat) (d1 dr : Nat → Int), iv = .int .i64 i ∧ a + 2 * Q ≤ i + 1 ∧ i ≤ a + 2 * Q + 2 ∧ Hid (Keep blk off n w wr) ∧ Hid (Hold wr blk off n d1) ∧ Hid (Hold wr rb 0 1 dr) ∧ Hid (Perm a b d d1)) (fun iv _ => a + 2 * Q + 2 - (intOf iv).toNat)
    case atStart => exact ⟨a + 2 * Q - 1, d, _, by congr 1; omega, by omega, by omega, HK, HA, HR, Perm.refl _ _ _⟩
    case round =>
      obtain ⟨i, d1, dr, rfl, hi1, hi2, hk, hh, hr, hp⟩ := hrel
      clear HA HR HK
      by_cases hlt : i < a + 2 * Q + 2
      · have dl : decide ((i : Int) ≤ a + Q * 2 + 1) = true := decide_eq_true (by omega)
        go_wp2_with fail
        refine (xor_c rb 0 dr _ hr.out).mono ?_
        rintro e w2 ⟨dr2, rfl, k2, h2⟩
        have HK2 : Hid (Keep blk off n w w2) := hk.out.other k2 HRB.out HLT.out
        have HH2 : Hid (Hold w2 blk off n d1) := hh.out.other k2 HNE.out (by have := hk.out.size; have := HLT.out; omega)
        have HR2 : Hid (Hold w2 rb 0 1 dr2) := h2
        generalize dr2 0 = v
        obtain ⟨m', hm'⟩ : ∃ m', m = m' + 1 := ⟨m - 1, by omega⟩
        have em : (m : Int) - 1 = m' := by omega
        obtain ⟨r, hr1, hr2⟩ := and_le v m' (by omega)
        have hm3 : m' + 1 ≤ 2 * L := by omega
        clear k2 h2 hr hh hk hm'
        by_cases ho : L ≤ r
        · obtain ⟨o, hoo⟩ : ∃ o : Nat, r = o + L := ⟨r - L, by omega⟩
          have er : (r : Int) - L = o := by omega
          have dr : decide (L ≤ r) = true := decide_eq_true ho
          have hoL : o < L := by omega
          clear hoo
          have ho2 : a + o < b := by omega
          obtain ⟨x, hx⟩ : ∃ x, x = d1 i := ⟨_, rfl⟩
          obtain ⟨y, hy⟩ : ∃ y, y = d1 (a + o) := ⟨_, rfl⟩
          have c1 : w2.cell? ⟨blk, off + i, none⟩ = some (.int .u64 x) := by rw [hx]; exact HH2.out.cell i (by omega)
          have c2 : w2.cell? ⟨blk, off + (a + o), none⟩ = some (.int .u64 y) := by rw [hy]; exact HH2.out.cell (a + o) (by omega)
          have f1 := HH2.out.loose i (by omega)
          have f2 := HH2.out.loose (a + o) (by omega)
          have HX : Hid (x = d1 i) := hx
          have HY : Hid (y = d1 (a + o)) := hy
          clear hx hy
          obtain ⟨v', hv'⟩ := cell?_setCell_some (w := w2) (p := ⟨blk, off + i, none⟩) (x := .int .u64 y) (q := ⟨blk, off + (a + o), none⟩) (v := .int .u64 y) c2
          have b1 : (i : Int) < n := by omega
          have b2 : (a : Int) + o < n := by omega
          go_wp2_with fail
          go_region
          go_wp2_with fail
          go_roundw
          case rel =>
            have hks : Keep blk off n w2 (((w2.setCell ⟨blk, off + i, none⟩ (.int .u64 y)).setCell ⟨blk, off + (a + o), none⟩ (.int .u64 x)).drew) := ((Keep.refl _ _ _ _).sw i (a + o) (by omega) (by omega) _ _).drew
            exact ⟨i + 1, Fin.sw d1 i (a + o), dr2, by go_num, by omega, by omega, (HK2.out.sw i (a + o) (by omega) (by omega) _ _).drew, (HH2.out.sw i (a + o) (by omega) (by omega) HY.out HX.out).drew,
              HR2.out.other hks HNE.out.symm (HR2.out.lt (by omega)), hp.out.trans (Perm.sw _ _ _ (by omega) (by omega) (by omega) (by omega))⟩
          case measure => simp [intOf]; omega
        · have dr : decide (L ≤ r) = false := decide_eq_false ho
          have hoL : r < L := by omega
          have ho2 : a + r < b := by omega
          obtain ⟨x, hx⟩ : ∃ x, x = d1 i := ⟨_, rfl⟩
          obtain ⟨y, hy⟩ : ∃ y, y = d1 (a + r) := ⟨_, rfl⟩
          have c1 : w2.cell? ⟨blk, off + i, none⟩ = some (.int .u64 x) := by rw [hx]; exact HH2.out.cell i (by omega)
          have c2 : w2.cell? ⟨blk, off + (a + r), none⟩ = some (.int .u64 y) := by rw [hy]; exact HH2.out.cell (a + r) (by omega)
          have f1 := HH2.out.loose i (by omega)
          have f2 := HH2.out.loose (a + r) (by omega)
          have HX : Hid (x = d1 i) := hx
          have HY : Hid (y = d1 (a + r)) := hy
          clear hx hy
          obtain ⟨v', hv'⟩ := cell?_setCell_some (w := w2) (p := ⟨blk, off + i, none⟩) (x := .int .u64 y) (q := ⟨blk, off + (a + r), none⟩) (v := .int .u64 y) c2
          have b1 : (i : Int) < n := by omega
          have b2 : (a : Int) + r < n := by omega
          go_wp2_with fail
          go_region
          go_wp2_with fail
          go_roundw
          case rel =>
            have hks : Keep blk off n w2 (((w2.setCell ⟨blk, off + i, none⟩ (.int .u64 y)).setCell ⟨blk, off + (a + r), none⟩ (.int .u64 x)).drew) := ((Keep.refl _ _ _ _).sw i (a + r) (by omega) (by omega) _ _).drew
            exact ⟨i + 1, Fin.sw d1 i (a + r), dr2, by go_num, by omega, by omega, (HK2.out.sw i (a + r) (by omega) (by omega) _ _).drew, (HH2.out.sw i (a + r) (by omega) (by omega) HY.out HX.out).drew,
              HR2.out.other hks HNE.out.symm (HR2.out.lt (by omega)), hp.out.trans (Perm.sw _ _ _ (by omega) (by omega) (by omega) (by omega))⟩
          case measure => simp [intOf]; omega
      · have dl : decide ((i : Int) ≤ a + Q * 2 + 1) = false := decide_eq_false (by omega)
        go_wp2_with fail
        go_end0
        exact ⟨rfl, hk, d1, hh, hp⟩
  · have d8 : decide (8 ≤ L) = false := decide_eq_false (by omega)
    go_enter Try.func29, Try.ntmps29
    go_wp2_with fail
    go_end0
    exact ⟨rfl, Keep.refl _ _ _ _, d, H0, Perm.refl _ _ _⟩
end Go.Proofs.Qxb6601408a.Fin
