/-
  The walk of pdqsortOrdered and of slices.Sort at uint64: a permutation, sorted.
-/
import Derived.Test.Qxb6601408aSortSplit
import Derived.Deep.CutRange
namespace Go.Proofs.Qxb6601408a.Fin
open Go.RowKit
set_option linter.unusedVariables false

/-- partitionEqual's answer, where the pivot is not greater than the neighbour below -/
theorem To.eq {a0 b0 a b mid p : Nat} {d0 d d' : Nat → Int} (h : To a0 b0 a b d0 d) (hp : Perm a b d d') (h1 : a < mid) (h2 : mid ≤ b) (ha : 0 < a) (hpv : d' a = d p) (hle : ¬ d (a - 1) < d p)
    (hl : ∀ k, a < k → k < mid → ¬ d' a < d' k) (hr : ∀ k, mid ≤ k → k < b → d' a < d' k) : To a0 b0 mid b d0 d' := by
  have ht := h.turn hp
  refine ht.equal (d' a) h1 h2 (fun k g1 g2 => ?_) hr
  by_cases e : k = a
  · rw [e]
  · have g3 := hl k (by omega) g2
    rcases ht.below with e0 | hb
    · omega
    · have g4 := hb k g1 (by omega)
      rw [hp.out (a - 1) (by omega)] at g4
      omega
theorem To.goRight {a0 b0 a b mid : Nat} {d0 d d' : Nat → Int} (h : To a0 b0 a b d0 d) (hp : Parted a b mid d) (k : Perm a mid d d') (hs : Sorted a mid d') : To a0 b0 (mid + 1) b d0 d' :=
  (h.turn (k.mono (Nat.le_refl _) hp.lo (Nat.le_of_lt hp.hi))).right (hp.turnL k) hs
theorem To.goLeft {a0 b0 a b mid : Nat} {d0 d d' : Nat → Int} (h : To a0 b0 a b d0 d) (hp : Parted a b mid d) (k : Perm (mid + 1) b d d') (hs : Sorted (mid + 1) b d') : To a0 b0 a mid d0 d' :=
  (h.turn (k.mono (by have := hp.lo; omega) hp.hi (Nat.le_refl _))).left (hp.turnR k) hs

theorem calls25 {blk off n cap a b lim : Nat} {w : World} {P : Ending → World → Prop} (h : Calls Try.prog 25 #[.slice (some ⟨blk, off, none⟩) n cap, .int .i64 a, .int .i64 b, .int .i64 lim] w P) {av : Int} (e : av = a) :
    Calls Try.prog 25 #[.slice (some ⟨blk, off, none⟩) n cap, .int .i64 av, .int .i64 b, .int .i64 lim] w P := by subst e; exact h

set_option maxRecDepth 100000 in
set_option maxHeartbeats 4000000 in
theorem pdq_c (blk off n cap : Nat) (hn : n ≤ 65536) : ∀ N a b lim : Nat, ∀ (d : Nat → Int) (w : World), b - a = N → Hold w blk off n d → Below a b d → a ≤ b → b ≤ n → lim ≤ 100 →
    Calls Try.prog 25 #[.slice (some ⟨blk, off, none⟩) n cap, .int .i64 a, .int .i64 b, .int .i64 lim] w (Did blk off n (fun d' => Perm a b d d' ∧ Sorted a b d') w) := by
  intro N
  induction N using Nat.strongRecOn with
  | ind N ih =>
  intro a b lim d w hN h hbl hab hb hlim
  have IH : Hid (∀ m, m < N → ∀ (a b lim : Nat) (d : Nat → Int) (w : World), b - a = m → Hold w blk off n d → Below a b d → a ≤ b → b ≤ n → lim ≤ 100 →
    Calls Try.prog 25 #[.slice (some ⟨blk, off, none⟩) n cap, .int .i64 a, .int .i64 b, .int .i64 lim] w (Did blk off n (fun d' => Perm a b d d' ∧ Sorted a b d') w)) := ih
  have HN : Hid (b - a = N) := hN
  have H0 : Hid (Hold w blk off n d) := h
  have T0 : Hid (To a b a b d d) := To.start hab hbl
  clear ih hN h hbl
  go_enter Try.func25, Try.ntmps25
  go_wp2_with fail
  go_loopw [1, 2, 3, 8, 9] (fun av bv lv pv qv wq => ∃ (a1 b1 lim1 : Nat) (p q : Bool) (d1 : Nat → Int), av = .int .i64 a1 ∧ bv = .int .i64 b1 ∧ lv = .int .i64 lim1 ∧ pv = .bool p ∧ qv = .bool q ∧ a ≤ a1 ∧ a1 ≤ b1 ∧ b1 ≤ b ∧ lim1 ≤ 100 ∧
    Hid (Keep blk off n w wq) ∧ Hid (Hold wq blk off n d1) ∧ Hid (To a b a1 b1 d d1)) (fun av bv _ _ _ _ => (intOf bv - intOf av).toNat)
  case atStart => exact ⟨a, b, lim, true, true, d, rfl, rfl, rfl, rfl, rfl, Nat.le_refl _, hab, Nat.le_refl _, hlim, Keep.refl _ _ _ _, H0, T0⟩
  case round =>
    obtain ⟨a1, b1, lim1, p, q, d1, rfl, rfl, rfl, rfl, rfl, ha1, hab1, hb1, hlim1, hk1, hh1, ht1⟩ := hrel
    clear H0 T0
    obtain ⟨L, hL⟩ : ∃ L : Nat, b1 = a1 + L := ⟨b1 - a1, by omega⟩
    have e1 : (b1 : Int) - a1 = L := by omega
    have hL1 : b1 ≤ a1 + L := by omega
    have hL2 : a1 + L ≤ b1 := by omega
    clear hL
    by_cases h12 : L ≤ 12
    · have d12 : decide (L ≤ 12) = true := decide_eq_true h12
      go_wp2_with fail
      refine (ins_c blk off n cap a1 b1 d1 _ hh1.out hab1 (by omega) hn).mono ?_
      rintro e w2 ⟨rfl, k2, d2, h2, p2, s2⟩
      have K2 : Hid (Keep blk off n w w2) := hk1.out.trans k2
      have H2 : Hid (Hold w2 blk off n d2) := h2
      have R2 : Hid (Perm a b d d2 ∧ Sorted a b d2) := (ht1.out.turn p2).done s2
      clear k2 h2 p2 s2
      go_wp2_with fail
      go_end0
      exact ⟨rfl, K2, d2, H2, R2⟩
    · have d12 : decide (L ≤ 12) = false := decide_eq_false h12
      by_cases hl0 : lim1 = 0
      · have dl0 : (lim1 == 0) = true := by simp [hl0]
        have dl0' : ((lim1 : Int) == 0) = true := by simp [hl0]
        go_wp2_with fail
        refine (heap_c blk off n cap a1 b1 d1 _ hh1.out (by omega) (by omega) hn).mono ?_
        rintro e w2 ⟨rfl, k2, d2, h2, p2, s2⟩
        have K2 : Hid (Keep blk off n w w2) := hk1.out.trans k2
        have H2 : Hid (Hold w2 blk off n d2) := h2
        have R2 : Hid (Perm a b d d2 ∧ Sorted a b d2) := (ht1.out.turn p2).done s2
        clear k2 h2 p2 s2
        go_wp2_with fail
        go_end0
        exact ⟨rfl, K2, d2, H2, R2⟩
      · have dl0 : (lim1 == 0) = false := by simp [hl0]
        have dl0' : ((lim1 : Int) == 0) = false := by simp; omega
        go_upto_if 35 with fail
        go_cut [3] from 19 to 133 (fun lv wc => ∃ (lim2 : Nat) (d2 : Nat → Int), lv = .int .i64 lim2 ∧ lim2 ≤ 100 ∧ Hid (Keep blk off n w wc) ∧ Hid (Hold wc blk off n d2) ∧ Hid (To a b a1 b1 d d2))
        case first =>
          cases p with
          | true =>
            go_wp2_with fail
            go_meet
            exact ⟨lim1, d1, rfl, hlim1, hk1, hh1, ht1⟩
          | false =>
            go_wp2_with fail
            refine (brk_c blk off n cap a1 b1 d1 _ hh1.out (by omega) (by omega) hn).mono ?_
            rintro e w2 ⟨rfl, k2, d2, h2, p2⟩
            have K2 : Hid (Keep blk off n w w2) := hk1.out.trans k2
            have H2 : Hid (Hold w2 blk off n d2) := h2
            have R2 : Hid (To a b a1 b1 d d2) := ht1.out.turn p2
            clear k2 h2 p2
            go_wp2_with fail
            go_meet
            exact ⟨lim1 - 1, d2, by congr 1; omega, by omega, K2, H2, R2⟩
        case rest =>
          obtain ⟨lim2, d2, rfl, hlim2, hk2, hh2, ht2⟩ := hcut
          clear hk1 hh1 ht1 dl0 dl0' hl0 hlim1
          go_wp2_with fail
          refine (choose_c blk off n cap a1 b1 d2 _ hh2.out (by omega) (by omega) hn).mono ?_
          rintro e w3 ⟨⟨pv, hint, rfl, hpv1, hpv2⟩, k3, h3⟩
          have K3 : Hid (Keep blk off n w w3) := hk2.out.trans k3
          have H3 : Hid (Hold w3 blk off n d2) := h3
          clear k3 h3 hk2 hh2
          go_upto_if 50 with fail
          go_cut [11, 12] from 19 to 133 (fun pvv hv wc => ∃ (pv2 : Nat) (hint2 : Int) (d3 : Nat → Int), pvv = .int .i64 pv2 ∧ hv = .int .i64 hint2 ∧ a1 ≤ pv2 ∧ pv2 < b1 ∧ Hid (Keep blk off n w wc) ∧ Hid (Hold wc blk off n d3) ∧ Hid (To a b a1 b1 d d3))
          case first =>
            by_cases hh : hint = 2
            · have dh : (hint == 2) = true := by simp [hh]
              obtain ⟨s, hs⟩ : ∃ s : Nat, pv = a1 + s := ⟨pv - a1, by omega⟩
              have es : (pv : Int) - a1 = s := by omega
              have hs1 : pv ≤ a1 + s := by omega
              have hs2 : a1 + s ≤ pv := by omega
              clear hs
              go_wp2_with fail
              refine (rev_c blk off n cap a1 b1 d2 _ H3.out (by omega) (by omega) hn).mono ?_
              rintro e w4 ⟨rfl, k4, d4, h4, p4⟩
              have K4 : Hid (Keep blk off n w w4) := K3.out.trans k4
              have H4 : Hid (Hold w4 blk off n d4) := h4
              have T4 : Hid (To a b a1 b1 d d4) := ht2.out.turn p4
              clear k4 h4 p4
              go_wp2_with fail
              go_meet
              exact ⟨b1 - 1 - s, 1, d4, by congr 1; omega, rfl, by omega, by omega, K4, H4, T4⟩
            · have dh : (hint == 2) = false := by simp [hh]
              go_wp2_with fail
              go_meet
              exact ⟨pv, hint, d2, rfl, rfl, hpv1, hpv2, K3, H3, ht2⟩
          case rest =>
            obtain ⟨pv2, hint2, d3, rfl, rfl, hp1, hp2, hk3, hh3, ht3⟩ := hcut
            clear K3 H3 ht2 hpv1 hpv2
            go_upto_region 15 with fail
            go_cut [68] from 19 to 133 (fun s wx => ∃ r15 : Bool, s = .bool r15 ∧ wc = wx)
            case first =>
              cases p with
              | false =>
                go_wp2_with fail
                go_meet
                exact ⟨_, rfl, rfl⟩
              | true =>
                cases q with
                | false =>
                  go_wp2_with fail
                  go_meet
                  exact ⟨_, rfl, rfl⟩
                | true =>
                  by_cases hh : hint2 = 1
                  · have dh : (hint2 == 1) = true := by simp [hh]
                    go_wp2_with fail
                    go_meet
                    exact ⟨_, rfl, rfl⟩
                  · have dh : (hint2 == 1) = false := by simp [hh]
                    go_wp2_with fail
                    go_meet
                    exact ⟨_, rfl, rfl⟩

            case rest =>
              obtain ⟨r15, rfl, rfl⟩ := hcut
              go_upto_if 68 with fail
              go_cut [] from 19 to 133 (fun wc => ∃ (d4 : Nat → Int), Hid (Keep blk off n w wc) ∧ Hid (Hold wc blk off n d4) ∧ Hid (To a b a1 b1 d d4))
              case first =>
                cases r15 with
                | true =>
                  go_wp2_with fail
                  refine (pins_c blk off n cap a1 b1 d3 _ hh3.out ht3.out.below (by omega) (by omega) hn).mono ?_
                  rintro e w4 ⟨r, rfl, k4, d4, h4, p4, s4⟩
                  have K4 : Hid (Keep blk off n w w4) := hk3.out.trans k4
                  have H4 : Hid (Hold w4 blk off n d4) := h4
                  have T4 : Hid (To a b a1 b1 d d4) := ht3.out.turn p4
                  cases r with
                  | true =>
                    have R4 : Hid (Perm a b d d4 ∧ Sorted a b d4) := T4.out.done (s4 rfl)
                    clear k4 h4 p4 s4
                    go_wp2_with fail
                    go_end0
                    exact ⟨rfl, K4, d4, H4, R4⟩
                  | false =>
                    clear k4 h4 p4 s4
                    go_wp2_with fail
                    go_meet
                    exact ⟨d4, K4, H4, T4⟩
                | false =>
                  go_wp2_with fail
                  go_meet
                  exact ⟨d3, hk3, hh3, ht3⟩

              case rest =>
                obtain ⟨d4, hk4, hh4, ht4⟩ := hcut
                clear hk3 hh3 ht3
                go_upto_region 17 with fail
                go_cut [87] from 19 to 133 (fun s wx => ∃ r17 : Bool, s = .bool r17 ∧ Hid (r17 = true → 0 < a1 ∧ ¬ d4 (a1 - 1) < d4 pv2) ∧ Hid (Keep blk off n w wx) ∧ Hid (Hold wx blk off n d4))
                case first =>
                  by_cases ha0 : 0 < a1
                  · have da0 : decide (0 < a1) = true := decide_eq_true ha0
                    have da0' : decide ((0 : Int) < a1) = true := decide_eq_true (by omega)
                    obtain ⟨x, hx⟩ : ∃ x, x = d4 (a1 - 1) := ⟨_, rfl⟩
                    obtain ⟨y, hy⟩ : ∃ y, y = d4 pv2 := ⟨_, rfl⟩
                    have c1 : wc.cell? ⟨blk, off + (a1 - 1), none⟩ = some (.int .u64 x) := by rw [hx]; exact hh4.out.cell (a1 - 1) (by omega)
                    have c2 : wc.cell? ⟨blk, off + pv2, none⟩ = some (.int .u64 y) := by rw [hy]; exact hh4.out.cell pv2 (by omega)
                    have EX : Hid (x = d4 (a1 - 1)) := hx
                    have EY : Hid (y = d4 pv2) := hy
                    have n1 : (a1 : Int) - 1 < n := by omega
                    have n2 : (pv2 : Int) < n := by omega
                    clear hx hy
                    by_cases hl : x < y
                    · have t1 : decide (x < y) = true := decide_eq_true hl
                      go_quiet ((go_at_call 33; first | exact Calls.quiet_of_same (less_c _ _ _) | exact quiet2 (less_c _ _ _)))
                      go_wp2_with fail
                      go_meet
                      exact ⟨false, rfl, fun e => absurd e (by decide), hk4.out.drewN _, hh4.out.drewN _⟩
                    · have t1 : decide (x < y) = false := decide_eq_false hl
                      have NL : Hid (¬ d4 (a1 - 1) < d4 pv2) := by rw [← EX.out, ← EY.out]; exact hl
                      go_quiet ((go_at_call 33; first | exact Calls.quiet_of_same (less_c _ _ _) | exact quiet2 (less_c _ _ _)))
                      go_wp2_with fail
                      go_meet
                      exact ⟨true, rfl, fun _ => ⟨ha0, NL.out⟩, hk4.out.drewN _, hh4.out.drewN _⟩
                  · have da0 : decide (0 < a1) = false := decide_eq_false ha0
                    have da0' : decide ((0 : Int) < a1) = false := decide_eq_false (by omega)
                    go_quiet ((go_at_call 33; first | exact Calls.quiet_of_same (less_c _ _ _) | exact quiet2 (less_c _ _ _)))
                    go_wp2_with fail
                    go_meet
                    exact ⟨false, rfl, fun e => absurd e (by decide), hk4.out.drewN _, hh4.out.drewN _⟩

                case rest =>
                  obtain ⟨r17, rfl, hr17, hk5, hh5⟩ := hcut
                  clear hk4 hh4
                  cases r17 with
                  | true =>
                    have ha0 : 0 < a1 := (hr17.out rfl).1
                    have HR : Hid (¬ d4 (a1 - 1) < d4 pv2) := (hr17.out rfl).2
                    clear hr17
                    go_wp2_with fail
                    refine (parte_c blk off n cap a1 b1 pv2 d4 _ hh5.out (by omega) (by omega) (by omega) hn).mono ?_
                    rintro e w5 ⟨m, rfl, hm1, hm2, k5, d5, h5, p5, v5, l5, r5⟩
                    have K5 : Hid (Keep blk off n w w5) := hk5.out.trans k5
                    have H5 : Hid (Hold w5 blk off n d5) := h5
                    have T5 : Hid (To a b m b1 d d5) := ht4.out.eq p5 hm1 hm2 ha0 v5 (by have := HR.out; omega) l5 r5
                    clear k5 h5 p5 v5 l5 r5
                    go_wp2_with fail
                    go_roundw
                    case rel => exact ⟨m, b1, lim2, p, q, d5, rfl, rfl, rfl, rfl, rfl, by omega, hm2, hb1, hlim2, K5, H5, T5⟩
                    case measure => simp [intOf]; omega

                  | false =>
                    go_wp2_with fail
                    refine (part_c blk off n cap a1 b1 pv2 d4 _ hh5.out (by omega) (by omega) (by omega) hn).mono ?_
                    rintro e w6 ⟨m, r, rfl, k6, d6, h6, p6, q6⟩
                    have hm1 := q6.lo
                    have hm2 := q6.hi
                    have K6 : Hid (Keep blk off n w w6) := hk5.out.trans k6
                    have H6 : Hid (Hold w6 blk off n d6) := h6
                    have T6 : Hid (To a b a1 b1 d d6) := ht4.out.turn p6
                    have Q6 : Hid (Parted a1 b1 m d6) := q6
                    clear k6 h6 p6 q6 hk5 hh5 ht4
                    obtain ⟨X, hX⟩ : ∃ X : Nat, m = a1 + X := ⟨m - a1, by omega⟩
                    obtain ⟨Y, hY⟩ : ∃ Y : Nat, b1 = m + Y := ⟨b1 - m, by omega⟩
                    have eX : (m : Int) - a1 = X := by omega
                    have eY : (b1 : Int) - m = Y := by omega
                    have hX1 : m ≤ a1 + X := by omega
                    have hX2 : a1 + X ≤ m := by omega
                    have hY1 : b1 ≤ m + Y := by omega
                    have hY2 : m + Y ≤ b1 := by omega
                    clear hX hY
                    by_cases hXY : X < Y
                    · have dXY : decide (X < Y) = true := decide_eq_true hXY
                      go_wp2_with fail
                      refine (IH.out (m - a1) (by have := HN.out; omega) a1 m lim2 d6 _ rfl H6.out ?_ hm1 (by omega) hlim2).mono ?_
                      · rcases T6.out.below with e0 | hb0
                        · exact .inl e0
                        · exact .inr fun i g1 g2 => hb0 i g1 (by omega)
                      rintro e w7 ⟨rfl, k7, d7, h7, p7, s7⟩
                      have K7 : Hid (Keep blk off n w w7) := K6.out.trans k7
                      have H7 : Hid (Hold w7 blk off n d7) := h7
                      have T7 : Hid (To a b (m + 1) b1 d d7) := T6.out.goRight Q6.out p7 s7
                      clear k7 h7 p7 s7
                      go_wp2_with fail
                      go_roundw
                      case rel => exact ⟨m + 1, b1, lim2, _, r, d7, by go_num, rfl, rfl, rfl, rfl, by omega, by omega, hb1, hlim2, K7, H7, T7⟩
                      case measure => simp [intOf]; omega
                    · have dXY : decide (X < Y) = false := decide_eq_false hXY
                      go_wp2_with fail
                      refine (calls25 (IH.out (b1 - (m + 1)) (by have := HN.out; omega) (m + 1) b1 lim2 d6 _ rfl H6.out ?_ (by omega) (by omega) hlim2) (by omega)).mono ?_
                      · exact .inr fun i g1 g2 => by rw [show m + 1 - 1 = m from by omega]; exact Q6.out.right i (by omega) g2
                      rintro e w7 ⟨rfl, k7, d7, h7, p7, s7⟩
                      have K7 : Hid (Keep blk off n w w7) := K6.out.trans k7
                      have H7 : Hid (Hold w7 blk off n d7) := h7
                      have T7 : Hid (To a b a1 m d d7) := T6.out.goLeft Q6.out p7 s7
                      clear k7 h7 p7 s7
                      go_wp2_with fail
                      go_roundw
                      case rel => exact ⟨a1, m, lim2, _, r, d7, rfl, rfl, rfl, rfl, rfl, ha1, hm1, by omega, hlim2, K7, H7, T7⟩
                      case measure => simp [intOf]; omega


set_option maxHeartbeats 1000000 in
theorem sort_c (blk off n cap : Nat) (d : Nat → Int) (w : World) (h : Hold w blk off n d) (hn : n ≤ 65536) :
    Calls Try.prog 23 #[.slice (some ⟨blk, off, none⟩) n cap] w (Did blk off n (fun d' => Perm 0 n d d' ∧ Sorted 0 n d') w) := by
  have H0 : Hid (Hold w blk off n d) := h
  clear h
  go_enter Try.func23, Try.ntmps23
  go_wp2_with fail
  refine (len_c n _ (by omega) (by omega)).mono ?_
  rintro e w1 ⟨rfl, rfl⟩
  have hl : Lib.bitLen (n : Int).toNat ≤ 64 := Lib.bitLen_le _ 64 (Nat.le_refl _) (by omega)
  generalize Lib.bitLen (n : Int).toNat = lim at hl ⊢
  go_wp2_with fail
  refine (pdq_c blk off n cap hn n 0 n lim d _ rfl H0.out (.inl rfl) (by omega) (Nat.le_refl _) (by omega)).mono ?_
  rintro e w2 ⟨rfl, k2, d2, h2, p2⟩
  have K2 : Hid (Keep blk off n w1 w2) := k2
  have H2 : Hid (Hold w2 blk off n d2) := h2
  have P2 : Hid (Perm 0 n d d2 ∧ Sorted 0 n d2) := p2
  clear k2 h2 p2
  go_wp2_with fail
  go_end0
  exact ⟨rfl, K2, d2, H2, P2⟩
end Go.Proofs.Qxb6601408a.Fin
