/-
  The walk of heapSortOrdered at uint64.
-/
import Derived.Test.Qxb6601408aSortWalks
namespace Go.Proofs.Qxb6601408a.Fin
open Go.RowKit
set_option linter.unusedVariables false

set_option maxHeartbeats 1000000 in
theorem heap_c (blk off n cap a b : Nat) (d : Nat → Int) (w : World) (h : Hold w blk off n d) (hab : a < b) (hb : b ≤ n) (hn : n ≤ 65536) :
    Calls Try.prog 28 #[.slice (some ⟨blk, off, none⟩) n cap, .int .i64 a, .int .i64 b] w (Did blk off n (fun d' => Perm a b d d' ∧ Sorted a b d') w) := by
  have H0 : Hid (Hold w blk off n d) := h
  clear h
  obtain ⟨hi, hhi⟩ : ∃ hi : Nat, b = a + hi := ⟨b - a, by omega⟩
  have hb1 : b ≤ a + hi := by omega
  have hb2 : a + hi ≤ b := by omega
  clear hhi
  go_enter Try.func28, Try.ntmps28
  go_wp2_with fail
  go_loopw [9] (fun iv wr => ∃ (i : Int) (d1 : Nat → Int), iv = .int .i64 i ∧ -1 ≤ i ∧ i ≤ hi ∧ Hid (Keep blk off n w wr) ∧ Hid (Hold wr blk off n d1) ∧ Hid (Perm a b d d1) ∧ Hid (Heap a hi (i + 1).toNat d1)) (fun iv _ => (intOf iv + 1).toNat)
  case atStart =>
    exact ⟨((b : Int) - a - 1) / 2, d, rfl, by omega, by omega, Keep.refl _ _ _ _, H0, Perm.refl _ _ _, fun i c h1 h2 h3 => by omega⟩
  case round =>
    obtain ⟨i, d1, rfl, hi1, hi2, hk, hh, hp, hhp⟩ := hrel
    by_cases hge : 0 ≤ i
    · obtain ⟨k, rfl⟩ := Int.eq_ofNat_of_zero_le hge
      have HP : Hid (Heap a hi (k + 1) d1) := by have := hhp.out; rw [show ((k : Int) + 1).toNat = k + 1 from by omega] at this; exact this
      clear hhp H0
      go_wp2_with fail
      refine (sift_c blk off n cap k hi a d1 _ hh.out (by omega) hn (by omega) HP.out _ _ rfl (by omega)).mono ?_
      rintro e w1 ⟨rfl, k1, d2, k2, k3, k4⟩
      have HK : Hid (Keep blk off n w w1) := hk.out.trans k1
      have HH : Hid (Hold w1 blk off n d2) := k2
      have HPm : Hid (Perm a b d d2) := hp.out.trans (by rw [show b = a + hi from by omega]; exact k3)
      have HHp : Hid (Heap a hi k d2) := k4
      clear k1 k2 k3 k4
      go_wp2_with fail
      go_roundw
      case rel => exact ⟨(k : Int) - 1, d2, by go_num, by omega, by omega, HK, HH, HPm, by rw [show ((k : Int) - 1 + 1).toNat = k from by omega]; exact HHp⟩
      case measure => simp [intOf]
    · obtain rfl : i = -1 := by omega
      have HP : Hid (Heap a hi 0 d1) := hhp
      clear hhp H0
      go_wp2_with fail
      go_loopw [10] (fun iv wq => ∃ (k : Nat) (d2 : Nat → Int), iv = .int .i64 ((k : Int) - 1) ∧ k ≤ hi ∧ Hid (Keep blk off n w wq) ∧ Hid (Hold wq blk off n d2) ∧ Hid (Perm a b d d2) ∧ Hid (Heap a k 0 d2) ∧
        Hid (∀ p q, a ≤ p → p < q → q < b → a + k ≤ q → d2 p ≤ d2 q)) (fun iv _ => (intOf iv + 1).toNat)
      case atStart => exact ⟨hi, d1, by first | rfl | (congr 1; omega), Nat.le_refl _, hk, hh, hp, HP, fun p q h1 h2 h3 h4 => by omega⟩
      case round =>
        obtain ⟨k, d2, rfl, hkh, hk2, hh2, hp2, hhp2, hord⟩ := hrel
        clear hk hh hp HP
        by_cases hk0 : 1 ≤ k
        · obtain ⟨m, rfl⟩ : ∃ m, k = m + 1 := ⟨k - 1, by omega⟩
          rw [show ((m + 1 : Nat) : Int) - 1 = (m : Int) from by omega]
          obtain ⟨x, hx⟩ : ∃ x, x = d2 a := ⟨_, rfl⟩
          obtain ⟨y, hy⟩ : ∃ y, y = d2 (a + m) := ⟨_, rfl⟩
          have c1 : wr.cell? ⟨blk, off + a, none⟩ = some (.int .u64 x) := by rw [hx]; exact hh2.out.cell a (by omega)
          have c2 : wr.cell? ⟨blk, off + (a + m), none⟩ = some (.int .u64 y) := by rw [hy]; exact hh2.out.cell (a + m) (by omega)
          have f1 := hh2.out.loose a (by omega)
          have f2 := hh2.out.loose (a + m) (by omega)
          have HX : Hid (x = d2 a) := hx
          have HY : Hid (y = d2 (a + m)) := hy
          clear hx hy
          obtain ⟨v', hv'⟩ := cell?_setCell_some (w := wr) (p := ⟨blk, off + a, none⟩) (x := .int .u64 y) (q := ⟨blk, off + (a + m), none⟩) (v := .int .u64 y) c2
          go_wp2_with fail
          go_region
          go_wp2_with fail
          have HB : Hid (Hold (((wr.setCell ⟨blk, off + a, none⟩ (.int .u64 y)).setCell ⟨blk, off + (a + m), none⟩ (.int .u64 x)).drew) blk off n (Fin.sw d2 a (a + m))) := (hh2.out.sw a (a + m) (by omega) (by omega) HY.out HX.out).drew
          have hheap : Heap a m (0 + 1) (Fin.sw d2 a (a + m)) := fun i c h1 h2 h3 => by
            rw [sw_ne _ _ _ _ (by omega) (by omega), sw_ne _ _ _ _ (by omega) (by omega)]
            exact hhp2.out i c (by omega) (by omega) h3
          refine (sift_c blk off n cap 0 m a _ _ HB.out (by omega) hn (by omega) hheap _ _ rfl rfl).mono ?_
          rintro e w1 ⟨rfl, k1, d3, k2, k3, k4⟩
          have HK : Hid (Keep blk off n w w1) := (hk2.out.sw a (a + m) (by omega) (by omega) _ _).drew.trans k1
          have HH : Hid (Hold w1 blk off n d3) := k2
          have HPm : Hid (Perm a b d d3) := (hp2.out.trans (Perm.sw _ _ _ (by omega) (by omega) (by omega) (by omega))).trans (k3.mono (Nat.le_refl _) (by omega) (by omega))
          have HHp : Hid (Heap a m 0 d3) := k4
          have HO : Hid (∀ p q, a ≤ p → p < q → q < b → a + m ≤ q → d3 p ≤ d3 q) := by
            have htop := Heap.top hhp2.out
            have hmax : ∀ p, a ≤ p → p < a + (m + 1) → d2 p ≤ d2 a := fun p h1 h2 => by
              have := htop (p - a) (p - a) (Nat.le_refl _) (by omega)
              rw [show a + (p - a) = p from by omega, Nat.add_zero] at this
              exact this
            intro p q h1 h2 h3 h4
            rw [k3.out q (by omega)]
            -- the value at q behind the exchange
            by_cases e : q = a + m
            · subst e
              rw [sw_snd]
              refine k3.all (P := fun v => v ≤ d2 a) (fun i g1 g2 => ?_) p h1 (by omega)
              by_cases e2 : i = a
              · subst e2; rw [sw_fst]; exact hmax _ (by omega) (by omega)
              · rw [sw_ne _ _ _ _ e2 (by omega)]; exact hmax i g1 (by omega)
            · rw [sw_ne _ _ _ _ (by omega) e]
              by_cases c : p < a + m
              · refine k3.all (P := fun v => v ≤ d2 q) (fun i g1 g2 => ?_) p h1 c
                by_cases e2 : i = a
                · subst e2; rw [sw_fst]; exact hord _ _ (by omega) (by omega) h3 (by omega)
                · rw [sw_ne _ _ _ _ e2 (by omega)]; exact hord _ _ g1 (by omega) h3 (by omega)
              · rw [k3.out p (by omega)]
                by_cases e3 : p = a + m
                · subst e3; rw [sw_snd]; exact hord _ _ (Nat.le_refl _) (by omega) h3 (by omega)
                · rw [sw_ne _ _ _ _ (by omega) e3]; exact hord _ _ h1 h2 h3 (by omega)
          clear k1 k2 k3 k4 HB hheap
          go_wp2_with fail
          go_roundw
          case rel => exact ⟨m, d3, rfl, by omega, HK, HH, HPm, HHp, HO⟩
          case measure => simp [intOf]
        · obtain rfl : k = 0 := by omega
          go_wp2_with fail
          go_end0
          exact ⟨rfl, hk2, d2, hh2, hp2, fun i j h1 h2 h3 => hord i j h1 h2 h3 (by omega)⟩
end Go.Proofs.Qxb6601408a.Fin
