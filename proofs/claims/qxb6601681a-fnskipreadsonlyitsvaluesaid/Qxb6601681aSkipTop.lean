/-
  The walks of regB1ValueEnd and of the law FnSkipReadsOnlyItsValue.
-/
import Derived.Test.Qxb6601681aSkipBrk
namespace Go.Proofs.Qxb6601681a.Skip
open Go.RowKit

def Ends (n p0 : Nat) (y : Nat → Int) (w : World) (e : Ending) (w' : World) : Prop :=
  Below w.heap.size w w' ∧ (e = .returned (.tuple #[.int .i64 0, .bool false]) ∨
    ∃ r L, p0 + L ≤ n ∧ ValEnd y r L ∧ e = .returned (.tuple #[.int .i64 ((p0 + r : Nat) : Int), .bool true]))

theorem ret_two {a b : Int} {u : Bool} (h : a = b) : Ending.returned (.tuple #[.int .i64 a, .bool u]) = .returned (.tuple #[.int .i64 b, .bool u]) := by rw [h]

set_option maxHeartbeats 1000000 in
theorem value_c (b off n cap p0 : Nat) (y : Nat → Int) (w : World) (hb : b < w.heap.size) (hn : n ≤ 1048576) (ho : p0 < n)
    (hy : ∀ j, p0 + j < n → w.cell? ⟨b, off + (p0 + j), none⟩ = some (.int .u8 (y j))) :
    Calls Try.prog 16 #[.slice (some ⟨b, off, none⟩) n cap, .int .i64 p0] w (Ends n p0 y w) := by
  have HY : Hid (∀ j, p0 + j < n → w.cell? ⟨b, off + (p0 + j), none⟩ = some (.int .u8 (y j))) := hy
  have g := hy 0 (by omega)
  rw [Nat.add_zero] at g
  clear hy
  obtain ⟨c0, hc0⟩ : ∃ c0, c0 = y 0 := ⟨_, rfl⟩
  rw [← hc0] at g
  have HC0 : Hid (c0 = y 0) := hc0
  clear hc0
  by_cases h34 : c0 = 34
  · have t0 : (c0 == 34) = true := by simp [h34]
    have H0 : Hid (y 0 = 34) := by rw [← HC0.out]; exact h34
    clear h34
    go_enter Try.func16, Try.ntmps16
    go_wp2_with fail
    refine (close_c b off n cap p0 0 y _ hn (by omega) HY.out _ (by omega)).mono ?_
    rintro e w' ⟨rfl, rfl | ⟨t, ht1, ht2, rfl⟩⟩
    · go_wp2_with fail
      go_ret2
      exact ⟨Below.refl _ _, .inl rfl⟩
    · obtain ⟨E, hE⟩ : ∃ E : Nat, E = p0 + (0 + 1 + t) := ⟨_, rfl⟩
      rw [← hE] at ht1 ⊢
      have HE : Hid (E = p0 + (0 + 1 + t)) := hE
      have HT : Hid (StrClose y 0 t) := ht2
      clear hE ht2
      go_wp2_with fail
      go_ret2
      exact ⟨Below.refl _ _, .inr ⟨t + 2, t + 2, by have := HE.out; omega, .inl ⟨H0, t, HT, rfl, rfl⟩, ret_two (by have := HE.out; omega)⟩⟩
  · have t0 : (c0 == 34) = false := by simp [h34]
    by_cases hop : isOpen c0
    · have HO : Hid (isOpen (y 0)) := by rw [← HC0.out]; exact hop
      by_cases k1 : c0 = 123
      · have t1 : (c0 == 123) = true := by simp [k1]
        clear k1 hop h34
        go_enter Try.func16, Try.ntmps16
        go_wp2_with (go_at_call 27; refine (brk_c b off n cap p0 y _ hb hn ho HY.out).mono ?_)
        rintro e w' ⟨hbel, rfl | ⟨M, hM, hbe, rfl⟩⟩
        · go_wp2_with fail
          go_ret2
          exact ⟨hbel, .inl rfl⟩
        · go_wp2_with fail
          go_ret2
          exact ⟨hbel, .inr ⟨M + 1, M + 1, by omega, .inr (.inl ⟨HO, M, hbe, rfl, rfl⟩), ret_two (by omega)⟩⟩
      · have t1 : (c0 == 123) = false := by simp [k1]
        have t2 : (c0 == 91) = true := by unfold isOpen at hop; simp; omega
        clear k1 hop h34
        go_enter Try.func16, Try.ntmps16
        go_wp2_with (go_at_call 27; refine (brk_c b off n cap p0 y _ hb hn ho HY.out).mono ?_)
        rintro e w' ⟨hbel, rfl | ⟨M, hM, hbe, rfl⟩⟩
        · go_wp2_with fail
          go_ret2
          exact ⟨hbel, .inl rfl⟩
        · go_wp2_with fail
          go_ret2
          exact ⟨hbel, .inr ⟨M + 1, M + 1, by omega, .inr (.inl ⟨HO, M, hbe, rfl, rfl⟩), ret_two (by omega)⟩⟩
    · have t1 : (c0 == 123) = false := by unfold isOpen at hop; simp; omega
      have t2 : (c0 == 91) = false := by unfold isOpen at hop; simp; omega
      have H0 : Hid (¬ y 0 = 34 ∧ ¬ isOpen (y 0)) := by rw [← HC0.out]; exact ⟨h34, hop⟩
      clear hop h34
      go_enter Try.func16, Try.ntmps16
      go_wp2_with fail
      go_loop [9] (fun jv => ∃ m p : Nat, Hid (p = p0 + m) ∧ p ≤ n ∧ jv = .int .i64 p ∧ Hid (∀ j, j < m → ¬ isEnd (y j))) (fun jv => n - (intOf jv).toNat)
      case atStart => exact ⟨0, p0, rfl, by omega, rfl, fun j h => absurd h (Nat.not_lt_zero _)⟩
      case round =>
        obtain ⟨m, p, hp, hpn, rfl, hall⟩ := hrel
        by_cases hlt : p < n
        · obtain ⟨c, hcv⟩ : ∃ c, c = y m := ⟨_, rfl⟩
          have g4 : w.cell? ⟨b, off + p, none⟩ = some (.int .u8 c) := by
            rw [hp.out, hcv]; exact HY m (by have := hp.out; omega)
          have HCV : Hid (c = y m) := hcv
          clear hcv g
          by_cases k1 : c = 44
          · have s1 : (c == 44) = true := by simp [k1]
            have HE : Hid (isEnd (y m)) := by rw [← HCV.out]; exact .inl k1
            clear k1
            go_wp2_with fail
            go_ret2
            exact ⟨Below.refl _ _, .inr ⟨m, m + 1, by have := hp.out; omega, .inr (.inr ⟨H0, ⟨HE, hall⟩, rfl⟩), ret_two (by have := hp.out; omega)⟩⟩
          · have s1 : (c == 44) = false := by simp [k1]
            by_cases k2 : c = 125
            · have s2 : (c == 125) = true := by simp [k2]
              have HE : Hid (isEnd (y m)) := by rw [← HCV.out]; exact .inr k2
              clear k1 k2
              go_wp2_with fail
              go_ret2
              exact ⟨Below.refl _ _, .inr ⟨m, m + 1, by have := hp.out; omega, .inr (.inr ⟨H0, ⟨HE, hall⟩, rfl⟩), ret_two (by have := hp.out; omega)⟩⟩
            · have s2 : (c == 125) = false := by simp [k2]
              have HE : Hid (¬ isEnd (y m)) := by rw [← HCV.out]; show ¬ (c = 44 ∨ c = 125); omega
              clear k1 k2
              go_wp2_with fail
              go_round
              case rel =>
                refine ⟨m + 1, p + 1, by have := hp.out; show _ = _; omega, by omega, by go_num, fun j h1 => ?_⟩
                by_cases e : j = m
                · subst e; exact HE
                · exact hall j (by omega)
              case measure => simp [intOf]; omega
        · go_wp2_with fail
          go_ret2
          exact ⟨Below.refl _ _, .inl rfl⟩

theorem zzskip_q (b off n cap p0 r L : Nat) (y : Nat → Int) (w : World) (hb : b < w.heap.size) (hnc : n ≤ cap) (hcap : cap ≤ 9223372036854775807)
    (hy : ∀ j, j < L → w.cell? ⟨b, off + (p0 + j), none⟩ = some (.int .u8 (y j))) (hn : p0 + L ≤ n) (hv : ValEnd y r L) (q : Int) (hq : q = p0) :
    Calls Try.prog 17 #[.slice (some ⟨b, off, none⟩) n cap, .int .i64 q] w (ZZSkipped (p0 + r) w) := by
  subst hq; exact zzskip_c b off n cap p0 r L y w hb hnc hcap hy hn hv

set_option maxHeartbeats 400000 in
theorem bytes_yes (a : Option Addr) (n cap : Nat) (p k : Int) (w : World) (h : n ≤ 1048576) :
    Calls Try.prog 18 #[.slice a n cap, .int .i64 p, .int .i64 k] w fun e w' => e = .returned (.bool true) ∧ w = w' := by
  go_enter Try.func18, Try.ntmps18
  go_wp2
  go_ret
  exact ⟨rfl, rfl⟩

set_option maxHeartbeats 400000 in
theorem bytes_no (a : Option Addr) (n cap : Nat) (p k : Int) (w : World) (h : 1048576 < n) :
    Calls Try.prog 18 #[.slice a n cap, .int .i64 p, .int .i64 k] w fun e w' => e = .returned (.bool false) ∧ w = w' := by
  go_enter Try.func18, Try.ntmps18
  go_wp2
  go_ret
  exact ⟨rfl, rfl⟩

def Law (w : World) (e : Ending) (w' : World) : Prop := e = .returned (.bool true) ∧ Below w.heap.size w w'

set_option maxHeartbeats 400000 in
theorem law_big (a : Option Addr) (n cap : Nat) (p k : Int) (w : World) (h : 1048576 < n) :
    Calls Try.prog 6 #[.slice a n cap, .int .i64 p, .int .i64 k] w (Law w) := by
  go_enter Try.func6, Try.ntmps6
  go_wp2_with (go_at_call 18; refine (bytes_no _ _ _ _ _ _ h).mono ?_; rintro e w' ⟨rfl, rfl⟩)
  go_ret
  exact ⟨rfl, Below.refl _ _⟩

set_option maxHeartbeats 400000 in
theorem law_bad (a : Option Addr) (n cap : Nat) (p k : Int) (w : World) (h : n ≤ 1048576) (hbad : p < 0 ∨ n ≤ p ∨ k < 0 ∨ p < k) :
    Calls Try.prog 6 #[.slice a n cap, .int .i64 p, .int .i64 k] w (Law w) := by
  have HB : Hid (p < 0 ∨ n ≤ p ∨ k < 0 ∨ p < k) := hbad
  clear hbad
  by_cases h1 : p < 0
  · have d1 : decide (p < 0) = true := decide_eq_true h1
    go_enter Try.func6, Try.ntmps6
    go_wp2_with (go_at_call 18; refine (bytes_yes _ _ _ _ _ _ h).mono ?_; rintro e w' ⟨rfl, rfl⟩)
    go_ret
    exact ⟨rfl, Below.refl _ _⟩
  · have d1 : decide (p < 0) = false := decide_eq_false h1
    by_cases h2 : (n : Int) ≤ p
    · have d2 : decide ((n : Int) ≤ p) = true := decide_eq_true h2
      go_enter Try.func6, Try.ntmps6
      go_wp2_with (go_at_call 18; refine (bytes_yes _ _ _ _ _ _ h).mono ?_; rintro e w' ⟨rfl, rfl⟩)
      go_ret
      exact ⟨rfl, Below.refl _ _⟩
    · have d2 : decide ((n : Int) ≤ p) = false := decide_eq_false h2
      by_cases h3 : k < 0
      · have d3 : decide (k < 0) = true := decide_eq_true h3
        go_enter Try.func6, Try.ntmps6
        go_wp2_with (go_at_call 18; refine (bytes_yes _ _ _ _ _ _ h).mono ?_; rintro e w' ⟨rfl, rfl⟩)
        go_ret
        exact ⟨rfl, Below.refl _ _⟩
      · have d3 : decide (k < 0) = false := decide_eq_false h3
        have d4 : decide (p < k) = true := decide_eq_true (by have := HB.out; omega)
        go_enter Try.func6, Try.ntmps6
        go_wp2_with (go_at_call 18; refine (bytes_yes _ _ _ _ _ _ h).mono ?_; rintro e w' ⟨rfl, rfl⟩)
        go_ret
        exact ⟨rfl, Below.refl _ _⟩

set_option maxHeartbeats 1000000 in
theorem law_good (b off n cap p k : Nat) (z : Nat → Int) (w : World) (hb : b < w.heap.size) (hn : n ≤ 1048576) (hcap : n ≤ cap) (hp : p < n) (hk : k ≤ p)
    (hz : ∀ j, j < n → w.cell? ⟨b, off + j, none⟩ = some (.int .u8 (z j))) :
    Calls Try.prog 6 #[.slice (some ⟨b, off, none⟩) n cap, .int .i64 p, .int .i64 k] w (Law w) := by
  have HZ : Hid (∀ j, j < n → w.cell? ⟨b, off + j, none⟩ = some (.int .u8 (z j))) := hz
  clear hz
  have d1 : decide ((p : Int) < 0) = false := decide_eq_false (by omega)
  have d2 : decide ((n : Int) ≤ p) = false := decide_eq_false (by omega)
  have d3 : decide ((k : Int) < 0) = false := decide_eq_false (by omega)
  have d4 : decide ((p : Int) < k) = false := decide_eq_false (by omega)
  go_enter Try.func6, Try.ntmps6
  go_wp2_with (go_at_call 18; refine (bytes_yes _ _ _ _ _ _ hn).mono ?_; rintro e w' ⟨rfl, rfl⟩)
  refine (copy_c b off n cap z _ hb hn hcap HZ.out).mono ?_
  rintro e w1 ⟨B, rfl, hB1, hB2, hcell, hbel⟩
  have HB : Hid (Below w.heap.size w w1) := hbel
  have HCL : Hid (∀ j, j < n → w1.cell? ⟨B, j, none⟩ = some (.int .u8 (z j))) := hcell
  clear hbel hcell
  go_wp2_with fail
  refine (value_c B 0 n n p (fun j => z (p + j)) _ hB2 hn hp (fun j hj => by rw [Nat.zero_add]; exact HCL _ hj)).mono ?_
  rintro e w2 ⟨hbel2, rfl | ⟨r, L, hL, hv, rfl⟩⟩
  · have HB2 : Hid (Below w1.heap.size w1 w2) := hbel2
    clear hbel2
    go_wp2_with fail
    go_ret
    exact ⟨rfl, HB.out.trans (HB2.out.mono HB.out.size)⟩
  · have HB2 : Hid (Below w1.heap.size w1 w2) := hbel2
    have hcell2 : ∀ j, j < n → w2.cell? ⟨B, j, none⟩ = some (.int .u8 (z j)) := fun j hj => by rw [hbel2.cell hB2]; exact HCL j hj
    have HC2 : Hid (∀ j, j < n → w2.cell? ⟨B, j, none⟩ = some (.int .u8 (z j))) := hcell2
    have hB3 : B < w2.heap.size := by have := hbel2.size; omega
    have g := hcell2 p hp
    clear hbel2 hcell2
    have hpr : p + r ≤ n := by
      rcases hv with ⟨_, t, _, h1, h2⟩ | ⟨_, M, _, h1, h2⟩ | ⟨_, _, h2⟩ <;> omega
    obtain ⟨c, hc⟩ : ∃ c, c = z p := ⟨_, rfl⟩
    rw [← hc] at g
    have hc0 : c = (fun j => z (p + j)) 0 := hc
    have HV : Hid (ValEnd (fun j => z (p + j)) r L) := hv
    clear hc
    by_cases k1 : c = 34
    · have t1 : (c != 34) = false := by simp [k1]
      have hl : L = r := by
        rcases hv with ⟨_, t, _, _, h2⟩ | ⟨_, M, _, _, h2⟩ | ⟨h1, _, _⟩
        · exact h2
        · exact h2
        · exact absurd (hc0.symm.trans k1) h1.1
      have hl1 : L ≤ r := by omega
      clear hl k1 hv hc0
      go_wp2_with fail
      refine (zzskip_c B 0 n n p r L (fun j => z (p + j)) _ hB3 (Nat.le_refl _) (by omega) (fun j hj => by rw [Nat.zero_add]; exact HC2 _ (by omega)) hL HV).mono ?_
      rintro e w3 ⟨rfl, hbel3⟩
      have HB3 : Hid (Below w2.heap.size w2 w3) := hbel3
      have hB4 : B < w3.heap.size := by have := hbel3.size; omega
      have HC3 : Hid (∀ j, j < n → w3.cell? ⟨B, j, none⟩ = some (.int .u8 (z j))) := fun j hj => by rw [hbel3.cell hB3]; exact HC2 j hj
      clear hbel3 g
      go_wp2_with fail
      refine (zzskip_q B k _ _ (p - k) r L (fun j => z (p + j)) _ hB4 (by omega) (by omega) (fun j hj => by rw [show k + (p - k + j) = p + j from by omega]; exact HC3 _ (by omega)) (by omega) HV _ (by omega)).mono ?_
      rintro e w4 ⟨rfl, hbel4⟩
      have HB4 : Hid (Below w3.heap.size w3 w4) := hbel4
      clear hbel4
      have hfin : (((p - k + r : Nat) : Int) == ((p + r : Nat) : Int) - k) = true := by simp; omega
      go_wp2_with fail
      go_ret
      refine ⟨by simp; omega, ?_⟩
      have s1 := HB.out.size
      have s2 := HB2.out.size
      have s3 := HB3.out.size
      exact (HB.out.trans (HB2.out.mono s1)).trans ((HB3.out.mono (by omega)).trans (HB4.out.mono (by omega)))
    · have t1 : (c != 34) = true := by simp [k1]
      by_cases k2 : c = 123
      · have t2 : (c != 123) = false := by simp [k2]
        have hl : L = r := by
          rcases hv with ⟨_, t, _, _, h2⟩ | ⟨_, M, _, _, h2⟩ | ⟨h1, _, _⟩
          · exact h2
          · exact h2
          · exact absurd (by rw [← hc0]; exact .inl k2) h1.2
        have hl1 : L ≤ r := by omega
        clear hl k1 k2 hv hc0
        go_wp2_with fail
        refine (zzskip_c B 0 n n p r L (fun j => z (p + j)) _ hB3 (Nat.le_refl _) (by omega) (fun j hj => by rw [Nat.zero_add]; exact HC2 _ (by omega)) hL HV).mono ?_
        rintro e w3 ⟨rfl, hbel3⟩
        have HB3 : Hid (Below w2.heap.size w2 w3) := hbel3
        have hB4 : B < w3.heap.size := by have := hbel3.size; omega
        have HC3 : Hid (∀ j, j < n → w3.cell? ⟨B, j, none⟩ = some (.int .u8 (z j))) := fun j hj => by rw [hbel3.cell hB3]; exact HC2 j hj
        clear hbel3 g
        go_wp2_with fail
        refine (zzskip_q B k _ _ (p - k) r L (fun j => z (p + j)) _ hB4 (by omega) (by omega) (fun j hj => by rw [show k + (p - k + j) = p + j from by omega]; exact HC3 _ (by omega)) (by omega) HV _ (by omega)).mono ?_
        rintro e w4 ⟨rfl, hbel4⟩
        have HB4 : Hid (Below w3.heap.size w3 w4) := hbel4
        clear hbel4
        have hfin : (((p - k + r : Nat) : Int) == ((p + r : Nat) : Int) - k) = true := by simp; omega
        go_wp2_with fail
        go_ret
        refine ⟨by simp; omega, ?_⟩
        have s1 := HB.out.size
        have s2 := HB2.out.size
        have s3 := HB3.out.size
        exact (HB.out.trans (HB2.out.mono s1)).trans ((HB3.out.mono (by omega)).trans (HB4.out.mono (by omega)))
      · have t2 : (c != 123) = true := by simp [k2]
        by_cases k3 : c = 91
        · have t3 : (c != 91) = false := by simp [k3]
          have hl : L = r := by
            rcases hv with ⟨_, t, _, _, h2⟩ | ⟨_, M, _, _, h2⟩ | ⟨h1, _, _⟩
            · exact h2
            · exact h2
            · exact absurd (by rw [← hc0]; exact .inr k3) h1.2
          have hl1 : L ≤ r := by omega
          clear hl k1 k2 k3 hv hc0
          go_wp2_with fail
          refine (zzskip_c B 0 n n p r L (fun j => z (p + j)) _ hB3 (Nat.le_refl _) (by omega) (fun j hj => by rw [Nat.zero_add]; exact HC2 _ (by omega)) hL HV).mono ?_
          rintro e w3 ⟨rfl, hbel3⟩
          have HB3 : Hid (Below w2.heap.size w2 w3) := hbel3
          have hB4 : B < w3.heap.size := by have := hbel3.size; omega
          have HC3 : Hid (∀ j, j < n → w3.cell? ⟨B, j, none⟩ = some (.int .u8 (z j))) := fun j hj => by rw [hbel3.cell hB3]; exact HC2 j hj
          clear hbel3 g
          go_wp2_with fail
          refine (zzskip_q B k _ _ (p - k) r L (fun j => z (p + j)) _ hB4 (by omega) (by omega) (fun j hj => by rw [show k + (p - k + j) = p + j from by omega]; exact HC3 _ (by omega)) (by omega) HV _ (by omega)).mono ?_
          rintro e w4 ⟨rfl, hbel4⟩
          have HB4 : Hid (Below w3.heap.size w3 w4) := hbel4
          clear hbel4
          have hfin : (((p - k + r : Nat) : Int) == ((p + r : Nat) : Int) - k) = true := by simp; omega
          go_wp2_with fail
          go_ret
          refine ⟨by simp; omega, ?_⟩
          have s1 := HB.out.size
          have s2 := HB2.out.size
          have s3 := HB3.out.size
          exact (HB.out.trans (HB2.out.mono s1)).trans ((HB3.out.mono (by omega)).trans (HB4.out.mono (by omega)))
        · have t3 : (c != 91) = true := by simp [k3]
          have hl : L = r + 1 := by
            rcases hv with ⟨h1, _⟩ | ⟨h1, _⟩ | ⟨_, _, h2⟩
            · exact absurd (hc0.trans h1) k1
            · rw [← hc0] at h1; unfold isOpen at h1; omega
            · exact h2
          have hl1 : L ≤ r + 1 := by omega
          have hl2 : r + 1 ≤ L := by omega
          clear hl k1 k2 k3 hv hc0
          go_wp2_with fail
          refine (zzskip_c B 0 n n p r L (fun j => z (p + j)) _ hB3 (Nat.le_refl _) (by omega) (fun j hj => by rw [Nat.zero_add]; exact HC2 _ (by omega)) hL HV).mono ?_
          rintro e w3 ⟨rfl, hbel3⟩
          have HB3 : Hid (Below w2.heap.size w2 w3) := hbel3
          have hB4 : B < w3.heap.size := by have := hbel3.size; omega
          have HC3 : Hid (∀ j, j < n → w3.cell? ⟨B, j, none⟩ = some (.int .u8 (z j))) := fun j hj => by rw [hbel3.cell hB3]; exact HC2 j hj
          clear hbel3 g
          go_wp2_with fail
          refine (zzskip_q B k _ _ (p - k) r L (fun j => z (p + j)) _ hB4 (by omega) (by omega) (fun j hj => by rw [show k + (p - k + j) = p + j from by omega]; exact HC3 _ (by omega)) (by omega) HV _ (by omega)).mono ?_
          rintro e w4 ⟨rfl, hbel4⟩
          have HB4 : Hid (Below w3.heap.size w3 w4) := hbel4
          clear hbel4
          have hfin : (((p - k + r : Nat) : Int) == ((p + r : Nat) : Int) - k) = true := by simp; omega
          go_wp2_with fail
          go_ret
          refine ⟨by simp; omega, ?_⟩
          have s1 := HB.out.size
          have s2 := HB2.out.size
          have s3 := HB3.out.size
          exact (HB.out.trans (HB2.out.mono s1)).trans ((HB3.out.mono (by omega)).trans (HB4.out.mono (by omega)))

end Go.Proofs.Qxb6601681a.Skip
