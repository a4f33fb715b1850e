/-
  The walks of the law's own helpers: regB1CopyBytes, regB1StringClose, regB1BracketEnd, regB1ValueEnd; and of the law.
-/
import Derived.Test.Qxb6601681aSkipMore
namespace Go.Proofs.Qxb6601681a.Skip
open Go.RowKit

theorem info5 : (Try.prog.info? 5).map (fun i => (i.zero, i.size, i.bytes)) = some (some (.int .u8 0), 1, 1) := by kernel_rfl
theorem info4 : (Try.prog.info? 4).map (fun i => (i.zero, i.size, i.bytes)) = some (some (.bool false), 1, 1) := by kernel_rfl

def Copied (n : Nat) (y : Nat → Int) (w : World) (e : Ending) (w' : World) : Prop :=
  ∃ B, e = .returned (.slice (some ⟨B, 0, none⟩) n n) ∧ w.heap.size ≤ B ∧ B < w'.heap.size ∧ (∀ j, j < n → w'.cell? ⟨B, j, none⟩ = some (.int .u8 (y j))) ∧ Below w.heap.size w w'

set_option maxHeartbeats 1000000 in
theorem copy_c (b off n cap : Nat) (y : Nat → Int) (w : World) (hb : b < w.heap.size) (hn : n ≤ 1048576) (hcap : n ≤ cap)
    (hy : ∀ j, j < n → w.cell? ⟨b, off + j, none⟩ = some (.int .u8 (y j))) :
    Calls Try.prog 10 #[.slice (some ⟨b, off, none⟩) n cap] w (Copied n y w) := by
  have HY : Hid (∀ j, j < n → w.cell? ⟨b, off + j, none⟩ = some (.int .u8 (y j))) := hy
  clear hy
  have hnil := fun w => Lib.run_eql_slice_nil (P := Try.prog) w 22 5 (some ⟨b, off, none⟩) n cap 0 0 Try.underlying22
  obtain ⟨i0, hi, hz0, hz1, hz2⟩ := info_parts info5
  go_enter Try.func10, Try.ntmps10
  go_wp2_with (at_make; refine wpList_make_full _ rfl (.tmp 8) (.tmp 8) 22 rfl w.heap.size 5 i0 (.int .u8 0) 1 Try.underlying22 hi hz0 hz1 .i64 .i64 _ _ n rfl rfl rfl rfl (by rw [hz2]; omega) (by unfold maxLen; omega) (Nat.le_refl _) ?_; intro w1 hown hgrow)
  have HO : Hid (w1.ownsRow w.heap.size 5 1 (.slice (some ⟨w.heap.size, 0, none⟩) n n) n (madeCells (Value.int .u8 0).cells (n * 1)).toList) := hown
  have HB : Hid (Below w.heap.size w w1) := (Below.refl _ _).grown hgrow (Nat.le_refl _) (by simp)
  clear hown hgrow hnil
  go_loopw [4] (fun i wr => ∃ (k : Nat) (xs : List Value), k ≤ n ∧ i = .int .i64 k ∧ Hid (wr.ownsRow w.heap.size 5 1 (.slice (some ⟨w.heap.size, 0, none⟩) n n) n xs) ∧ Hid (∀ j, j < k → xs[j]? = some (.int .u8 (y j))) ∧ Hid (Below w.heap.size w wr)) (fun i _ => n - (intOf i).toNat)
  case atStart => exact ⟨0, _, Nat.zero_le _, rfl, HO, fun j hj => absurd hj (Nat.not_lt_zero _), HB⟩
  case round =>
    obtain ⟨k, xs, hk, rfl, hown, hxs, hbel⟩ := hrel
    by_cases hlt : k < n
    · have g1 : wr.cell? ⟨b, off + k, none⟩ = some (.int .u8 (y k)) := by rw [hbel.out.cell (by exact hb)]; exact HY k hlt
      have g2 := hown.out.frozenAt k
      obtain ⟨u0, g3⟩ : ∃ u0, wr.cell? ⟨w.heap.size, k, none⟩ = some u0 := by
        rw [hown.out.cellAt k (by omega)]
        have := hown.out.1
        exact ⟨xs[k]'(by omega), List.getElem?_eq_getElem (by omega)⟩
      have hlen := hown.out.1
      have HS : Hid ((wr.setCell ⟨w.heap.size, k, none⟩ (.int .u8 (y k))).ownsRow w.heap.size 5 1 (.slice (some ⟨w.heap.size, 0, none⟩) n n) n (xs.set k (.int .u8 (y k)))) := (hown.out.stored k _).1
      have HX : Hid (∀ j, j < k + 1 → (xs.set k (.int .u8 (y k)))[j]? = some (.int .u8 (y j))) := fun j hj => by
        by_cases e : j = k
        · subst e; rw [List.getElem?_set_self (by omega)]
        · rw [List.getElem?_set_ne (by omega)]; exact hxs j (by omega)
      generalize y k = c at *
      go_wp2_with fail
      go_roundw
      case rel => exact ⟨k + 1, _, by omega, by go_num, HS, HX, hbel.out.setCell (Nat.le_refl _) _⟩
      case measure => simp [intOf]; omega
    · obtain rfl : k = n := by omega
      go_wp2_with fail
      go_ret
      refine ⟨w.heap.size, rfl, Nat.le_refl _, ?_, fun j hj => ?_, hbel⟩
      · rcases hown.out.2 with ⟨h, _⟩ | ⟨g, cp, cur, hv, _, hh, _⟩
        · simp at h
        · simp at hv
          rw [← hv.1] at hh
          exact (Array.getElem?_eq_some_iff.1 hh).1
      · rw [hown.out.cellAt j (by omega)]; exact hxs j hj

def Closes (n p0 o : Nat) (y : Nat → Int) (w : World) (e : Ending) (w' : World) : Prop :=
  w = w' ∧ (e = .returned (.tuple #[.int .i64 0, .bool false]) ∨
    ∃ t, p0 + (o + 1 + t) < n ∧ StrClose y o t ∧ e = .returned (.tuple #[.int .i64 ((p0 + (o + 1 + t) : Nat) : Int), .bool true]))

set_option maxHeartbeats 1000000 in
theorem close_c (b off n cap p0 o : Nat) (y : Nat → Int) (w : World) (hn : n ≤ 1048576) (ho : p0 + o < n)
    (hy : ∀ j, p0 + j < n → w.cell? ⟨b, off + (p0 + j), none⟩ = some (.int .u8 (y j))) (q : Int) (hq : q = ((p0 + o : Nat) : Int)) :
    Calls Try.prog 11 #[.slice (some ⟨b, off, none⟩) n cap, .int .i64 q] w (Closes n p0 o y w) := by
  subst hq
  have HY : Hid (∀ j, p0 + j < n → w.cell? ⟨b, off + (p0 + j), none⟩ = some (.int .u8 (y j))) := hy
  clear hy
  go_enter Try.func11, Try.ntmps11
  go_wp2_with fail
  go_loop [6, 7] (fun rv jv => ∃ s p r : Nat, Hid (p = p0 + (o + 1 + s)) ∧ p ≤ n ∧ r ≤ s ∧ jv = .int .i64 p ∧ rv = .int .i64 r ∧ Hid (r = runAt y o s) ∧ Hid (∀ s', s' < s → y (o + 1 + s') = 34 → runAt y o s' % 2 = 1)) (fun _ jv => n - (intOf jv).toNat)
  case atStart => exact ⟨0, p0 + (o + 1 + 0), 0, rfl, by omega, Nat.le_refl _, by go_num, rfl, rfl, fun s' h => absurd h (Nat.not_lt_zero _)⟩
  case round =>
    obtain ⟨s, p, r, hp, hpn, hrs, rfl, rfl, hr, hall⟩ := hrel
    by_cases hlt : p < n
    · obtain ⟨c, hcv⟩ : ∃ c, c = y (o + 1 + s) := ⟨_, rfl⟩
      have g4 : w.cell? ⟨b, off + p, none⟩ = some (.int .u8 c) := by
        rw [hp.out, hcv]; exact HY _ (by have := hp.out; omega)
      have HCV : Hid (c = y (o + 1 + s)) := hcv
      have hsn : s < n := by have := hp.out; omega
      clear hcv
      by_cases hq : c = 34
      · have t1 : (c == 34) = true := by simp [hq]
        by_cases hev : r % 2 = 0
        · have t2 : ((r : Int) % 2 == 0) = true := by simp; omega
          have HE : Hid (r % 2 = 0) := hev
          have HQ : Hid (c = 34) := hq
          clear hev hq
          go_wp2_with fail
          go_ret2
          refine ⟨rfl, .inr ⟨s, by rw [← hp.out]; exact hlt, ⟨by rw [← HCV.out]; exact HQ, by rw [← hr.out]; exact HE, hall⟩, ?_⟩⟩
          rw [← hp.out]; rfl
        · have t2 : ((r : Int) % 2 == 0) = false := by simp; omega
          have HE : Hid (r % 2 = 1) := by show _ = _; omega
          have HQ : Hid (c = 34) := hq
          have t3 : (c == 92) = false := by rw [hq]; rfl
          clear hev hq
          go_wp2_with fail
          go_round
          case rel =>
            refine ⟨s + 1, p + 1, 0, by have := hp.out; show _ = _; omega, by omega, by omega, by go_num, rfl, (runAt_not y o s (by rw [← HCV.out, HQ.out]; decide)).symm, fun s' h1 h2 => ?_⟩
            by_cases e : s' = s
            · subst e; rw [← hr.out]; exact HE
            · exact hall s' (by omega) h2
          case measure => simp [intOf]; omega
      · have t1 : (c == 34) = false := by simp [hq]
        have HQ : Hid (¬ c = 34) := hq
        clear hq
        have HA : Hid (∀ s', s' < s + 1 → y (o + 1 + s') = 34 → runAt y o s' % 2 = 1) := fun s' h1 h2 => by
          by_cases e : s' = s
          · subst e; exact absurd (HCV.out.trans h2) HQ
          · exact hall s' (by omega) h2
        by_cases he : c = 92
        · have t3 : (c == 92) = true := by simp [he]
          have HE : Hid (c = 92) := he
          clear he
          go_wp2_with fail
          go_round
          case rel =>
            exact ⟨s + 1, p + 1, r + 1, by have := hp.out; show _ = _; omega, by omega, by omega, by go_num, by go_num, (by have := runAt_esc y o s (by rw [← HCV.out, HE.out]); show _ = _; rw [this, ← hr.out]), HA⟩
          case measure => simp [intOf]; omega
        · have t3 : (c == 92) = false := by simp [he]
          have HE : Hid (¬ c = 92) := he
          clear he
          go_wp2_with fail
          go_round
          case rel =>
            exact ⟨s + 1, p + 1, 0, by have := hp.out; show _ = _; omega, by omega, by omega, by go_num, rfl, (runAt_not y o s (by rw [← HCV.out]; exact HE)).symm, HA⟩
          case measure => simp [intOf]; omega
    · go_wp2_with fail
      go_ret2
      exact ⟨rfl, .inl rfl⟩
end Go.Proofs.Qxb6601681a.Skip
