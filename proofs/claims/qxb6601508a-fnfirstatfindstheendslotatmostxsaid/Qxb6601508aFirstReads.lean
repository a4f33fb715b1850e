/-
  The walks of valueBelow, firstAtPremise, ZZMinTreeFirstAt.
-/
import Derived.Test.Qxb6601508aFirstWalks
namespace Go.Proofs.Qxb6601508a.Tree
open Go.RowKit
set_option linter.unusedVariables false

set_option maxHeartbeats 1000000 in
theorem below_c (b1 o1 c1 b2 o2 c2 size i s : Nat) (low add : Nat → Int) (w : World) (hs : size ≤ 65536) (hlt : s < size) (hi : i ≠ 0)
    (hl : Row w b1 o1 (2 * size) low) (ha : Row w b2 o2 (2 * size) add) (hr1 : ∀ k, R (low k)) (hr2 : ∀ k, R (add k)) :
    Calls Try.prog 28 #[.int .i64 size, .slice (some ⟨b1, o1, none⟩) (2 * size) c1, .slice (some ⟨b2, o2, none⟩) (2 * size) c2, .int .i64 i, .int .i64 s] w
      fun e w' => e = .returned (.int .i64 (low (size + s) + U add i ((size + s) / 2))) ∧ w = w' := by
  have HA : Hid (Row w b2 o2 (2 * size) add) := ha
  have HR2 : Hid (∀ k, R (add k)) := hr2
  have g1 := hl (size + s) (by omega)
  have hR := hr1 (size + s)
  unfold R at hR
  obtain ⟨v0, hv0⟩ : ∃ v0, v0 = low (size + s) := ⟨_, rfl⟩
  rw [← hv0] at g1 hR
  rw [← hv0]
  obtain ⟨tot, htot⟩ : ∃ tot, tot = v0 + U add i ((size + s) / 2) := ⟨_, rfl⟩
  rw [← htot]
  have HT : Hid (tot = v0 + U add i ((size + s) / 2)) := htot
  clear hl ha hr1 hr2 hv0 htot
  go_enter Try.func28, Try.ntmps28
  go_wp2_with fail
  go_loop [12, 13] (fun vv av => ∃ (a : Nat) (v : Int), vv = .int .i64 v ∧ av = .int .i64 a ∧ a < size ∧ -(2147483648 * ((size : Int) - a)) ≤ v ∧ v ≤ 2147483648 * ((size : Int) - a) ∧ Hid (v + U add i a = tot)) (fun _ av => (intOf av).toNat)
  case atStart =>
    exact ⟨(size + s) / 2, v0, rfl, by go_num, by omega, by omega, by omega, HT.out.symm⟩
  case round =>
    obtain ⟨a, v, rfl, rfl, ha, hv1, hv2, hsum⟩ := hrel
    clear g1
    by_cases h1 : i ≤ a
    · have g2 := HA.out a (by omega)
      have hRc := HR2.out a
      unfold R at hRc
      obtain ⟨c, hc⟩ : ∃ c, c = add a := ⟨_, rfl⟩
      rw [← hc] at g2 hRc
      have HC : Hid (c = add a) := hc
      clear hc
      go_wp2_with fail
      go_round
      case rel =>
        refine ⟨a / 2, v + c, rfl, by go_num, by omega, by omega, by omega, ?_⟩
        have e1 := hsum.out
        rw [U_step add i a hi h1] at e1
        have e2 := HC.out
        show _ = _
        omega
      case measure => simp [intOf]; omega
    · have hfin : Hid (v = tot) := by have e1 := hsum.out; rw [U_lt add i a (by omega)] at e1; show _ = _; omega
      go_wp2_with fail
      go_ret
      exact ⟨by rw [← hfin.out]; rfl, rfl⟩

/-- what firstAtPremise tells where it says true -/
def Fit (low add : Nat → Int) (size : Nat) (i lo hi x : Int) : Prop :=
  ∃ iN loN h : Nat, i = iN ∧ lo = loN ∧ hi = ((loN + 2 ^ h : Nat) : Int) ∧ iN ≠ 0 ∧ iN * 2 ^ h = size + loN ∧ loN + 2 ^ h ≤ size ∧ Prem low add h iN x

def TellsB (P : Prop) (w : World) (e : Ending) (w' : World) : Prop := ∃ b : Bool, e = .returned (.bool b) ∧ (b = true → P) ∧ Below w.heap.size w w'

theorem info2 : (Try.prog.info? 2).map (fun i => (i.zero, i.size, i.bytes)) = some (some (.int .i64 0), 1, 8) := by kernel_rfl

theorem min2_pos {a b : Int} (h : b < a) : min2 a b = b := by unfold min2; rw [if_pos h]
theorem min2_neg {a b : Int} (h : ¬ b < a) : min2 a b = a := by unfold min2; rw [if_neg h]
theorem i64_rng (x : Int) (h1 : -4611686018427387904 ≤ x) (h2 : x ≤ 4611686018427387904) : IntKind.i64.wrap x = x := by rw [IntKind.wrap_i64]; omega
theorem hown_drewN {w : World} {base e size n : Nat} {v : Value} {xs : List Value} (h : w.ownsRow base e size v n xs) (k : Nat) : (w.drewN k).ownsRow base e size v n xs := h

theorem made_zero (n : Nat) : ∀ j, j < n → (madeCells (Value.int .i64 0).cells (n * 1)).toList[j]? = some (.int .i64 0) := by
  intro j hj
  show (madeCells #[Value.int .i64 0] (n * 1)).toList[j]? = _
  rw [toList_madeCells_one, List.getElem?_replicate, if_pos (by omega)]

set_option maxRecDepth 100000 in
set_option maxHeartbeats 4000000 in
theorem prem_c (b1 o1 c1 b2 o2 c2 a size : Nat) (i lo hi x : Int) (low add : Nat → Int) (w : World) (hs : size ≤ 65536) (hz : size = 2 ^ a) (hb1 : b1 < w.heap.size) (hb2 : b2 < w.heap.size)
    (hl : Row w b1 o1 (2 * size) low) (ha : Row w b2 o2 (2 * size) add) (hr1 : ∀ k, R (low k)) (hr2 : ∀ k, R (add k)) (hx : R x) :
    Calls Try.prog 26 #[.int .i64 size, .slice (some ⟨b1, o1, none⟩) (2 * size) c1, .slice (some ⟨b2, o2, none⟩) (2 * size) c2, .int .i64 i, .int .i64 lo, .int .i64 hi, .int .i32 x] w (TellsB (Fit low add size i lo hi x) w) := by
  have HL : Hid (Row w b1 o1 (2 * size) low) := hl
  have HA : Hid (Row w b2 o2 (2 * size) add) := ha
  have HR1 : Hid (∀ k, R (low k)) := hr1
  have HR2 : Hid (∀ k, R (add k)) := hr2
  have HX : Hid (R x) := hx
  have HZ : Hid (size = 2 ^ a) := hz
  clear hl ha hr1 hr2 hx hz
  by_cases k1 : i < 1
  · have d1 : decide (i < 1) = true := decide_eq_true k1
    go_enter Try.func26, Try.ntmps26
    go_wp2_with fail
    go_ret
    exact ⟨false, rfl, fun h => absurd h (by decide), Below.refl _ _⟩
  · have d1 : decide (i < 1) = false := decide_eq_false k1
    by_cases k2 : 2 * (size : Int) ≤ i
    · have d2 : decide (2 * (size : Int) ≤ i) = true := decide_eq_true k2
      go_enter Try.func26, Try.ntmps26
      go_wp2_with fail
      go_ret
      exact ⟨false, rfl, fun h => absurd h (by decide), Below.refl _ _⟩
    · have d2 : decide (2 * (size : Int) ≤ i) = false := decide_eq_false k2
      obtain ⟨iN, rfl⟩ := Int.eq_ofNat_of_zero_le (show 0 ≤ i by omega)
      go_enter Try.func26, Try.ntmps26
      go_wp2_with fail
      go_loop [15] (fun kv => ∃ k : Nat, kv = .int .i64 k ∧ k ≤ 16 ∧ Hid (2 ^ k ≤ iN)) (fun kv => 17 - (intOf kv).toNat)
      case atStart => exact ⟨0, rfl, by omega, by show 2 ^ 0 ≤ iN; omega⟩
      case round =>
        obtain ⟨k, rfl, hk, hki⟩ := hrel
        obtain ⟨K, hK⟩ : ∃ K : Nat, K = 2 ^ k := ⟨_, rfl⟩
        have hKp : 0 < K := by rw [hK]; exact Nat.pow_pos (by decide)
        have hKi : K ≤ iN := by rw [hK]; exact hki
        have cK : ((2 : Int) ^ k) = (K : Int) := by rw [hK, Int.natCast_pow]; rfl
        have s1 : wrap64 (2 * 2 ^ k) = 2 * (K : Int) := by rw [cK]; exact IntWalk.wrap64_in _ ⟨by omega, by omega⟩
        have s2 : wrap64 (2 ^ k) = (K : Int) := by rw [cK]; exact IntWalk.wrap64_in _ ⟨by omega, by omega⟩
        have HK : Hid (K = 2 ^ k) := hK
        clear hK cK
        by_cases k3 : 2 * K ≤ iN
        · have hk16 : Hid (k < 16) := by
            by_cases e : k < 16
            · exact e
            · have : k = 16 := by omega
              subst this
              have := HK.out
              omega
          go_wp2_with fail
          go_round
          case rel => exact ⟨k + 1, by go_num, by have := hk16.out; omega, by show 2 ^ (k + 1) ≤ iN; rw [Nat.pow_succ, ← HK.out]; omega⟩
          case measure => have := hk16.out; simp [intOf]; omega
        · -- the level is found
          have hka : k ≤ a := by
            by_cases e : k ≤ a
            · exact e
            · have h1 := Nat.pow_le_pow_right (show 0 < 2 by decide) (show a + 1 ≤ k by omega)
              rw [Nat.pow_succ, ← HZ.out, ← HK.out] at h1
              omega
          obtain ⟨W, hW⟩ : ∃ W : Nat, W = 2 ^ (a - k) := ⟨_, rfl⟩
          have hWp : 0 < W := by rw [hW]; exact Nat.pow_pos (by decide)
          have hKW : K * W = size := by rw [HK.out, hW, HZ.out, ← Nat.pow_add]; congr 1; omega
          have s3 : (size : Int) / 2 ^ k = (W : Int) := by
            have : ((2 : Int) ^ k) = ((K : Nat) : Int) := by rw [HK.out, Int.natCast_pow]; rfl
            rw [this, ← hKW, Int.natCast_mul, Int.mul_ediv_cancel_left _ (by omega)]
          obtain ⟨lo', hlo'⟩ : ∃ lo' : Nat, lo' = (iN - K) * W := ⟨_, rfl⟩
          have hi2 : iN * W = size + lo' := by rw [hlo', Nat.sub_mul, hKW]; have := Nat.mul_le_mul_right W hKi; omega
          have hlw : lo' + W ≤ size := by
            have h1 : (iN - K + 1) * W ≤ K * W := Nat.mul_le_mul_right _ (by omega)
            rw [Nat.succ_mul, hKW, ← hlo'] at h1
            exact h1
          have s4 : wrap64 (((iN : Int) - K) * W) = (lo' : Int) := by
            rw [show ((iN : Int) - K) * W = (lo' : Int) from by rw [hlo', Int.natCast_mul, Int.natCast_sub hKi]]
            exact IntWalk.wrap64_in _ ⟨by omega, by omega⟩
          have HW : Hid (W = 2 ^ (a - k)) := hW
          have HIW : Hid (iN * W = size + lo') := hi2
          clear hW hKW hlo' hi2 hki hka
          by_cases k4 : lo = lo'
          · subst k4
            by_cases k5 : hi = (lo' : Int) + W
            · have t5 : (hi != (lo' : Int) + W) = false := by simp [k5]
              have K5 : Hid (hi = (lo' : Int) + W) := k5
              clear k5
              obtain ⟨i0, hi0, hz0, hz1, hz2⟩ := info_parts info2
              have hxr := HX.out
              unfold R at hxr
              go_wp2_with (at_make; refine wpList_make_full _ rfl (.tmp 59) (.tmp 59) 43 rfl w.heap.size 2 i0 (.int .i64 0) 1 Try.underlying43 hi0 hz0 hz1 .i64 .i64 _ _ (2 * size) rfl rfl (by omega) (by omega) (by rw [hz2]; omega) (by unfold maxLen; omega) (Nat.le_refl _) ?_; intro w1 hown hgrow; have HO : Hid (w1.ownsRow w.heap.size 2 1 (.slice (some ⟨w.heap.size, 0, none⟩) (2 * size) (2 * size)) (2 * size) (madeCells (Value.int .i64 0).cells (2 * size * 1)).toList) := hown; have HB : Hid (Below w.heap.size w w1) := (Below.refl _ _).grown hgrow (Nat.le_refl _) (by simp); have gm : w1.cell? ⟨w.heap.size, iN, none⟩ = some (.int .i64 0) := (hown.cellAt iN (by omega)).trans (made_zero (2 * size) iN (by omega)); have gf := hown.frozenAt iN; clear hown hgrow)
              have HX0 : Hid (∃ xs : List Value, (w1.setCell ⟨w.heap.size, iN, none⟩ (.int .i64 x)).ownsRow w.heap.size 2 1 (.slice (some ⟨w.heap.size, 0, none⟩) (2 * size) (2 * size)) (2 * size) xs ∧ ∀ j, j < 2 * size → xs[j]? = some (.int .i64 (upd (fun _ => 0) iN x j))) := by
                refine ⟨_, (HO.out.stored iN _).1, fun j hj => ?_⟩
                have hlen := HO.out.1
                by_cases e : j = iN
                · subst e; rw [List.getElem?_set_self (by omega), upd_same]
                · rw [List.getElem?_set_ne (by omega), upd_ne _ _ _ _ e]; exact made_zero _ j hj
              have HB1 : Hid (Below w.heap.size w (w1.setCell ⟨w.heap.size, iN, none⟩ (.int .i64 x))) := HB.out.setCell (Nat.le_refl _) _
              clear gm gf HO HB hi0 hz0 hz1 hz2 s1 s2 s3 s4 d1 d2
              go_loopw [18, 19] (fun fv cv wr => ∃ (t F C : Nat) (X : Nat → Int) (xs : List Value), fv = .int .i64 F ∧ cv = .int .i64 C ∧ Hid (F = iN * 2 ^ t) ∧ Hid (C = 2 ^ t) ∧ 1 ≤ F ∧ F ≤ 2 * size ∧ C ≤ F ∧ iN ≤ F ∧
                Hid (wr.ownsRow w.heap.size 2 1 (.slice (some ⟨w.heap.size, 0, none⟩) (2 * size) (2 * size)) (2 * size) xs) ∧ Hid (∀ j, j < 2 * size → xs[j]? = some (.int .i64 (X j))) ∧ Hid (∀ k, R (X k)) ∧
                Hid (Checked low add size iN x F X) ∧ Hid (Below w.heap.size w wr)) (fun fv _ _ => 4 * size - (intOf fv).toNat)
              case atStart =>
                obtain ⟨xs, hx1, hx2⟩ := HX0.out
                refine ⟨0, iN, 1, upd (fun _ => 0) iN x, xs, rfl, rfl, by show _ = _; rw [Nat.pow_zero, Nat.mul_one], by show _ = _; rw [Nat.pow_zero], by omega, by omega, by omega, Nat.le_refl _, hx1, hx2, fun k => ?_, Checked.start low add size iN x _ (upd_same _ _ _), HB1⟩
                by_cases e : k = iN
                · subst e; rw [upd_same]; exact HX
                · rw [upd_ne _ _ _ _ e]; simp [R]
              case round =>
                obtain ⟨t, F, C, X, xs, rfl, rfl, hF, hC, hF1, hF2, hCF, hiF, hown, hxs, hXR, hck, hbel⟩ := hrel
                clear HX0 HB1
                by_cases hlt : F < size
                · have hFC : F + C ≤ size := by
                    have h1 := hF.out
                    have h2 := hC.out
                    have h3 := HZ.out
                    have hta : t ≤ a := by
                      by_cases e : t ≤ a
                      · exact e
                      · have := Nat.pow_lt_pow_right (show 1 < 2 by decide) (show a < t by omega); omega
                    have h4 : 2 ^ a = 2 ^ (a - t) * 2 ^ t := by rw [← Nat.pow_add]; congr 1; omega
                    have h5 : iN < 2 ^ (a - t) := by
                      refine Nat.lt_of_mul_lt_mul_right (a := 2 ^ t) ?_
                      rw [← h4, ← h1, ← h3]; exact hlt
                    have h6 : (iN + 1) * 2 ^ t ≤ 2 ^ (a - t) * 2 ^ t := Nat.mul_le_mul_right _ h5
                    rw [Nat.succ_mul, ← h4, ← h3, ← h1, ← h2] at h6
                    exact h6
                  go_wp2_with fail
                  go_loopw [20] (fun jv wq => ∃ (j : Nat) (X : Nat → Int) (xs : List Value), jv = .int .i64 j ∧ F ≤ j ∧ j ≤ F + C ∧
                    Hid (wq.ownsRow w.heap.size 2 1 (.slice (some ⟨w.heap.size, 0, none⟩) (2 * size) (2 * size)) (2 * size) xs) ∧ Hid (∀ j, j < 2 * size → xs[j]? = some (.int .i64 (X j))) ∧ Hid (∀ k, R (X k)) ∧
                    Hid (Checked low add size iN x j X) ∧ Hid (Below w.heap.size w wq)) (fun jv _ => 2 * size - (intOf jv).toNat)
                  case atStart => exact ⟨F, X, xs, rfl, Nat.le_refl _, by omega, hown, hxs, hXR, hck, hbel⟩
                  case round =>
                    obtain ⟨j, X', xs', rfl, hj1, hj2, hown', hxs', hXR', hck', hbel'⟩ := hrel
                    by_cases hjl : j < F + C
                    · have hjs : j < size := by omega
                      have c1' : ∀ b o, b < w.heap.size → wr.cell? ⟨b, o, none⟩ = w.cell? ⟨b, o, none⟩ := fun b o h => hbel'.out.cell (by exact h)
                      obtain ⟨y1, hy1⟩ : ∃ y1, y1 = low (2 * j) := ⟨_, rfl⟩
                      obtain ⟨y2, hy2⟩ : ∃ y2, y2 = low (2 * j + 1) := ⟨_, rfl⟩
                      obtain ⟨lj, hlj⟩ : ∃ lj, lj = low j := ⟨_, rfl⟩
                      obtain ⟨aj, haj⟩ : ∃ aj, aj = add j := ⟨_, rfl⟩
                      obtain ⟨xj, hxj⟩ : ∃ xj, xj = X' j := ⟨_, rfl⟩
                      have q1 : wr.cell? ⟨b1, o1 + 2 * j, none⟩ = some (.int .i32 y1) := by rw [c1' _ _ hb1, hy1]; exact HL.out _ (by omega)
                      have q2 : wr.cell? ⟨b1, o1 + (2 * j + 1), none⟩ = some (.int .i32 y2) := by rw [c1' _ _ hb1, hy2]; exact HL.out _ (by omega)
                      have q3 : wr.cell? ⟨b1, o1 + j, none⟩ = some (.int .i32 lj) := by rw [c1' _ _ hb1, hlj]; exact HL.out _ (by omega)
                      have q4 : wr.cell? ⟨b2, o2 + j, none⟩ = some (.int .i32 aj) := by rw [c1' _ _ hb2, haj]; exact HA.out _ (by omega)
                      have q5 : wr.cell? ⟨w.heap.size, j, none⟩ = some (.int .i64 xj) := by rw [hown'.out.cellAt j (by omega), hxj]; exact hxs' j (by omega)
                      have r1 := HR1.out (2 * j)
                      have r2 := HR1.out (2 * j + 1)
                      have r3 := HR1.out j
                      have r4 := HR2.out j
                      have r5 := hXR'.out j
                      rw [← hy1] at r1
                      rw [← hy2] at r2
                      rw [← hlj] at r3
                      rw [← haj] at r4
                      rw [← hxj] at r5
                      unfold R at r1 r2 r3 r4 r5
                      have HN : Hid (y1 = low (2 * j) ∧ y2 = low (2 * j + 1) ∧ lj = low j ∧ aj = add j ∧ xj = X' j) := ⟨hy1, hy2, hlj, haj, hxj⟩
                      have i1 : (j : Int) < 2 * (size : Int) := by omega
                      clear c1' hy1 hy2 hlj haj hxj
                      by_cases hm : y2 < y1
                      · have HM : Hid (min2 (low (2 * j)) (low (2 * j + 1)) = y2) := by rw [← HN.out.1, ← HN.out.2.1]; exact min2_pos hm
                        have u1 := i64_rng lj (by omega) (by omega)
                        have u2 := i64_rng aj (by omega) (by omega)
                        have u3 := i64_rng (aj + y2) (by omega) (by omega)
                        have u4 := i64_rng (xj - aj) (by omega) (by omega)
                        by_cases e1 : lj = aj + y2
                        · have t1 : (lj != aj + y2) = false := by simp; omega
                          have E1 : Hid (lj = aj + y2) := e1
                          clear e1
                          by_cases k6 : xj - aj < -2147483648
                          · have t2 : decide (xj - aj < -2147483648) = true := decide_eq_true k6
                            go_wp2_with fail
                            go_quiet (fail)
                            go_wp2_with fail
                            go_quiet (fail)
                            go_wp2_with fail
                            go_ret
                            exact ⟨false, rfl, fun h => absurd h (by decide), below_drewN hbel'.out _⟩
                          · have t2 : decide (xj - aj < -2147483648) = false := decide_eq_false k6
                            by_cases k7 : 2147483647 < xj - aj
                            · have t3 : decide (2147483647 < xj - aj) = true := decide_eq_true k7
                              go_wp2_with fail
                              go_quiet (fail)
                              go_wp2_with fail
                              go_quiet (fail)
                              go_wp2_with fail
                              go_ret
                              exact ⟨false, rfl, fun h => absurd h (by decide), below_drewN hbel'.out _⟩
                            · have t3 : decide (2147483647 < xj - aj) = false := decide_eq_false k7
                              have hlen := hown'.out.1
                              have q6 : wr.cell? ⟨w.heap.size, 2 * j, none⟩ = some (.int .i64 (X' (2 * j))) := by rw [hown'.out.cellAt _ (by omega)]; exact hxs' _ (by omega)
                              have q7 : wr.cell? ⟨w.heap.size, 2 * j + 1, none⟩ = some (.int .i64 (X' (2 * j + 1))) := by rw [hown'.out.cellAt _ (by omega)]; exact hxs' _ (by omega)
                              have f6 := hown'.out.frozenAt (2 * j)
                              have f7 := hown'.out.frozenAt (2 * j + 1)
                              go_wp2_with fail
                              go_quiet (fail)
                              go_wp2_with fail
                              go_quiet (fail)
                              go_wp2_with fail
                              go_roundw
                              case rel =>
                                obtain ⟨n1, n2, n3, n4, n5⟩ := HN.out
                                have ec : xj - aj = X' j - add j := by rw [n4, n5]
                                have hc2 : R (X' j - add j) := by rw [← ec]; unfold R; omega
                                refine ⟨j + 1, upd (upd X' (2 * j) (X' j - add j)) (2 * j + 1) (X' j - add j), (xs'.set (2 * j) (.int .i64 (xj - aj))).set (2 * j + 1) (.int .i64 (xj - aj)), by go_num, by omega, by omega, ?_, fun l hl => ?_, fun l => ?_, ?_, ?_⟩
                                · exact ((hown_drewN hown'.out _).stored (2 * j) _).1.stored (2 * j + 1) _ |>.1
                                · rw [ec]
                                  by_cases e2 : l = 2 * j + 1
                                  · subst e2; rw [List.getElem?_set_self (by rw [List.length_set]; omega), upd_same]
                                  · rw [List.getElem?_set_ne (by omega), upd_ne _ _ _ _ e2]
                                    by_cases e3 : l = 2 * j
                                    · subst e3; rw [List.getElem?_set_self (by omega), upd_same]
                                    · rw [List.getElem?_set_ne (by omega), upd_ne _ _ _ _ e3]; exact hxs' l hl
                                · by_cases e2 : l = 2 * j + 1
                                  · subst e2; rw [upd_same]; exact hc2
                                  · rw [upd_ne _ _ _ _ e2]
                                    by_cases e3 : l = 2 * j
                                    · subst e3; rw [upd_same]; exact hc2
                                    · rw [upd_ne _ _ _ _ e3]; exact hXR' l
                                · exact hck'.out.step (by omega) (by omega) (by rw [HM.out, ← n3, ← n4]; exact E1) hc2
                                · exact ((below_drewN hbel'.out _).setCell (Nat.le_refl _) _).setCell (Nat.le_refl _) _
                              case measure => simp [intOf]; omega
                        · have t1 : (lj != aj + y2) = true := by simp; omega
                          go_wp2_with fail
                          go_quiet (fail)
                          go_wp2_with fail
                          go_ret
                          exact ⟨false, rfl, fun h => absurd h (by decide), below_drewN hbel'.out _⟩
                      · have HM : Hid (min2 (low (2 * j)) (low (2 * j + 1)) = y1) := by rw [← HN.out.1, ← HN.out.2.1]; exact min2_neg hm
                        have u1 := i64_rng lj (by omega) (by omega)
                        have u2 := i64_rng aj (by omega) (by omega)
                        have u3 := i64_rng (aj + y1) (by omega) (by omega)
                        have u4 := i64_rng (xj - aj) (by omega) (by omega)
                        by_cases e1 : lj = aj + y1
                        · have t1 : (lj != aj + y1) = false := by simp; omega
                          have E1 : Hid (lj = aj + y1) := e1
                          clear e1
                          by_cases k6 : xj - aj < -2147483648
                          · have t2 : decide (xj - aj < -2147483648) = true := decide_eq_true k6
                            go_wp2_with fail
                            go_quiet (fail)
                            go_wp2_with fail
                            go_quiet (fail)
                            go_wp2_with fail
                            go_ret
                            exact ⟨false, rfl, fun h => absurd h (by decide), below_drewN hbel'.out _⟩
                          · have t2 : decide (xj - aj < -2147483648) = false := decide_eq_false k6
                            by_cases k7 : 2147483647 < xj - aj
                            · have t3 : decide (2147483647 < xj - aj) = true := decide_eq_true k7
                              go_wp2_with fail
                              go_quiet (fail)
                              go_wp2_with fail
                              go_quiet (fail)
                              go_wp2_with fail
                              go_ret
                              exact ⟨false, rfl, fun h => absurd h (by decide), below_drewN hbel'.out _⟩
                            · have t3 : decide (2147483647 < xj - aj) = false := decide_eq_false k7
                              have hlen := hown'.out.1
                              have q6 : wr.cell? ⟨w.heap.size, 2 * j, none⟩ = some (.int .i64 (X' (2 * j))) := by rw [hown'.out.cellAt _ (by omega)]; exact hxs' _ (by omega)
                              have q7 : wr.cell? ⟨w.heap.size, 2 * j + 1, none⟩ = some (.int .i64 (X' (2 * j + 1))) := by rw [hown'.out.cellAt _ (by omega)]; exact hxs' _ (by omega)
                              have f6 := hown'.out.frozenAt (2 * j)
                              have f7 := hown'.out.frozenAt (2 * j + 1)
                              go_wp2_with fail
                              go_quiet (fail)
                              go_wp2_with fail
                              go_quiet (fail)
                              go_wp2_with fail
                              go_roundw
                              case rel =>
                                obtain ⟨n1, n2, n3, n4, n5⟩ := HN.out
                                have ec : xj - aj = X' j - add j := by rw [n4, n5]
                                have hc2 : R (X' j - add j) := by rw [← ec]; unfold R; omega
                                refine ⟨j + 1, upd (upd X' (2 * j) (X' j - add j)) (2 * j + 1) (X' j - add j), (xs'.set (2 * j) (.int .i64 (xj - aj))).set (2 * j + 1) (.int .i64 (xj - aj)), by go_num, by omega, by omega, ?_, fun l hl => ?_, fun l => ?_, ?_, ?_⟩
                                · exact ((hown_drewN hown'.out _).stored (2 * j) _).1.stored (2 * j + 1) _ |>.1
                                · rw [ec]
                                  by_cases e2 : l = 2 * j + 1
                                  · subst e2; rw [List.getElem?_set_self (by rw [List.length_set]; omega), upd_same]
                                  · rw [List.getElem?_set_ne (by omega), upd_ne _ _ _ _ e2]
                                    by_cases e3 : l = 2 * j
                                    · subst e3; rw [List.getElem?_set_self (by omega), upd_same]
                                    · rw [List.getElem?_set_ne (by omega), upd_ne _ _ _ _ e3]; exact hxs' l hl
                                · by_cases e2 : l = 2 * j + 1
                                  · subst e2; rw [upd_same]; exact hc2
                                  · rw [upd_ne _ _ _ _ e2]
                                    by_cases e3 : l = 2 * j
                                    · subst e3; rw [upd_same]; exact hc2
                                    · rw [upd_ne _ _ _ _ e3]; exact hXR' l
                                · exact hck'.out.step (by omega) (by omega) (by rw [HM.out, ← n3, ← n4]; exact E1) hc2
                                · exact ((below_drewN hbel'.out _).setCell (Nat.le_refl _) _).setCell (Nat.le_refl _) _
                              case measure => simp [intOf]; omega
                        · have t1 : (lj != aj + y1) = true := by simp; omega
                          go_wp2_with fail
                          go_quiet (fail)
                          go_wp2_with fail
                          go_ret
                          exact ⟨false, rfl, fun h => absurd h (by decide), below_drewN hbel'.out _⟩
                    · have hje : Hid (j = F + C) := by show _ = _; omega
                      have hjg : F + C ≤ j := by omega
                      go_wp2_with fail
                      go_roundw
                      case rel =>
                        have h1 := hF.out
                        have h2 := hC.out
                        refine ⟨t + 1, 2 * F, 2 * C, X', xs', by go_num, by go_num, by show _ = _; rw [two_pow, ← h1], by show _ = _; rw [Nat.pow_succ, ← h2]; omega, by omega, by omega, by omega, by omega, hown', hxs', hXR', ?_, hbel'⟩
                        have h3 : F + C = (iN + 1) * 2 ^ t := by rw [Nat.succ_mul, ← h1, ← h2]
                        have h4 := hck'.out
                        rw [hje.out, h3] at h4
                        have h5 := h4.gap
                        rw [two_pow, ← h1] at h5
                        exact h5
                      case measure => simp [intOf]; omega
                · go_wp2_with fail
                  go_ret
                  refine ⟨true, rfl, fun _ => ?_, hbel⟩
                  have hw := HW.out
                  refine ⟨iN, lo', a - k, rfl, rfl, by rw [← hw, K5.out]; omega, by omega, by rw [← hw]; exact HIW, by rw [← hw]; exact hlw, ?_⟩
                  have := hck.out.prem (by omega) (a - k) iN lo' (Anc.self _) (by rw [← hw]; exact HIW) (by rw [← hw]; exact hlw)
                  rw [hck.out.1] at this
                  exact this
            · have t5 : (hi != (lo' : Int) + W) = true := by simp [k5]
              go_wp2_with fail
              go_ret
              exact ⟨false, rfl, fun h => absurd h (by decide), Below.refl _ _⟩
          · have t4 : (lo != (lo' : Int)) = true := by simp [k4]
            go_wp2_with fail
            go_ret
            exact ⟨false, rfl, fun h => absurd h (by decide), Below.refl _ _⟩
end Go.Proofs.Qxb6601508a.Tree
