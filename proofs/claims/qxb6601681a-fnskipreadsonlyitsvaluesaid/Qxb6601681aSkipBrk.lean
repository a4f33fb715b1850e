/-
  The walk of regB1BracketEnd.
-/
import Derived.Test.Qxb6601681aSkipLaw
namespace Go.Proofs.Qxb6601681a.Skip
open Go.RowKit

def Brackets (n p0 : Nat) (y : Nat → Int) (w : World) (e : Ending) (w' : World) : Prop :=
  Below w.heap.size w w' ∧ (e = .returned (.tuple #[.int .i64 0, .bool false]) ∨
    ∃ M, p0 + M < n ∧ BrkEnd y M ∧ e = .returned (.tuple #[.int .i64 ((p0 : Int) + M + 1), .bool true]))

theorem made_false (n : Nat) : ∀ j, j < n → (madeCells (Value.bool false).cells (n * 1)).toList[j]? = some (.bool false) := by
  intro j hj
  show (madeCells #[Value.bool false] (n * 1)).toList[j]? = _
  rw [toList_madeCells_one, List.getElem?_replicate, if_pos (by omega)]

set_option maxHeartbeats 4000000 in
theorem brk_c (b off n cap p0 : Nat) (y : Nat → Int) (w : World) (hb : b < w.heap.size) (hn : n ≤ 1048576) (ho : p0 < n)
    (hy : ∀ j, p0 + j < n → w.cell? ⟨b, off + (p0 + j), none⟩ = some (.int .u8 (y j))) :
    Calls Try.prog 27 #[.slice (some ⟨b, off, none⟩) n cap, .int .i64 p0] w (Brackets n p0 y w) := by
  have HY : Hid (∀ j, p0 + j < n → w.cell? ⟨b, off + (p0 + j), none⟩ = some (.int .u8 (y j))) := hy
  clear hy
  obtain ⟨N, hN⟩ : ∃ N : Nat, n = p0 + N := ⟨n - p0, by omega⟩
  subst hN
  obtain ⟨i0, hi, hz0, hz1, hz2⟩ := info_parts info4
  go_enter Try.func27, Try.ntmps27
  go_wp2_with (at_make; refine wpList_make_full _ rfl (.tmp 19) (.tmp 19) 53 rfl w.heap.size 4 i0 (.bool false) 1 Try.underlying53 hi hz0 hz1 .i64 .i64 _ _ N rfl rfl (by omega) (by omega) (by rw [hz2]; omega) (by unfold maxLen; omega) (Nat.le_refl _) ?_; intro w1 hown hgrow)
  have HO : Hid (w1.ownsRow w.heap.size 4 1 (.slice (some ⟨w.heap.size, 0, none⟩) N N) N (madeCells (Value.bool false).cells (N * 1)).toList) := hown
  have HB : Hid (Below w.heap.size w w1) := (Below.refl _ _).grown hgrow (Nat.le_refl _) (by simp)
  clear hown hgrow hi hz0 hz1 hz2
  go_loopw [8, 9] (fun kv iv wr => ∃ (i : Nat) (ins : Nat → Bool) (S : Nat → Prop) (xs : List Value), kv = .int .i64 ((p0 : Int) + N - p0) ∧ iv = .int .i64 i ∧ i ≤ N ∧ Hid (wr.ownsRow w.heap.size 4 1 (.slice (some ⟨w.heap.size, 0, none⟩) N N) N xs) ∧ Hid (∀ j, j < N → xs[j]? = some (.bool (ins j))) ∧ Hid (Scan y ins i S) ∧ Hid (Below w.heap.size w wr)) (fun _ iv _ => N - (intOf iv).toNat)
  case atStart =>
    exact ⟨0, fun _ => false, fun m => m = 0, _, rfl, rfl, Nat.zero_le _, HO, made_false N, Scan.start y _ (fun _ => rfl), HB⟩
  case round =>
    obtain ⟨i, ins, S, xs, rfl, rfl, hiN, hown, hxs, hsc, hbel⟩ := hrel
    clear HO HB
    by_cases hlt : i < N
    · obtain ⟨c, hcv⟩ : ∃ c, c = y i := ⟨_, rfl⟩
      have g4 : wr.cell? ⟨b, off + (p0 + i), none⟩ = some (.int .u8 c) := by
        rw [hbel.out.cell (by exact hb), hcv]; exact HY i (by omega)
      have HCV : Hid (c = y i) := hcv
      clear hcv
      by_cases hq : c = 34
      · have t0 : (c != 34) = false := by simp [hq]
        have HQ : Hid (y i = 34) := by rw [← HCV.out]; exact hq
        clear hq
        go_wp2_with fail
        refine (close_c b off (p0 + N) cap p0 i y _ (by omega) (by omega) (fun j hj => by rw [hbel.out.cell (by exact hb)]; exact HY j hj) _ (by omega)).mono ?_
        rintro e w' ⟨rfl, rfl | ⟨t, ht1, ht2, rfl⟩⟩
        · go_wp2_with fail
          go_loop [13, 14] (fun bv mv => ∃ (m : Nat) (d : Int), m ≤ i ∧ mv = .int .i64 m ∧ bv = .int .i64 d ∧ Hid (d = bal y ins m) ∧ -(m : Int) ≤ d ∧ d ≤ m ∧ Hid (∀ j, j < m → ins j = false → isClose (y j) → bal y ins (j + 1) ≠ 0)) (fun _ mv => i - (intOf mv).toNat)
          case atStart => exact ⟨0, 0, Nat.zero_le _, rfl, rfl, rfl, by omega, by omega, fun j h => absurd h (Nat.not_lt_zero _)⟩
          case round =>
            obtain ⟨m, d, hmK, rfl, rfl, hd, hd1, hd2, hbad⟩ := hrel
            by_cases hlt : m < i
            · have g2 : wr.cell? ⟨w.heap.size, m, none⟩ = some (.bool (ins m)) := by rw [hown.out.cellAt m (by omega)]; exact hxs m (by omega)
              cases hi : ins m with
              | true =>
                have HI : Hid (ins m = true) := hi
                rw [hi] at g2
                clear hi
                go_wp2_with fail
                go_round
                case rel =>
                  refine ⟨m + 1, d, by omega, by go_num, rfl, hd.out.trans (bal_in y ins m HI).symm, by omega, by omega, fun j h1 h2 h3 => ?_⟩
                  by_cases e : j = m
                  · subst e; rw [HI.out] at h2; cases h2
                  · exact hbad j (by omega) h2 h3
                case measure => simp [intOf]; omega
              | false =>
                have HI : Hid (ins m = false) := hi
                rw [hi] at g2
                clear hi
                obtain ⟨c, hcv⟩ : ∃ c, c = y m := ⟨_, rfl⟩
                have g4 : wr.cell? ⟨b, off + (p0 + m), none⟩ = some (.int .u8 c) := by
                  rw [hbel.out.cell (by exact hb), hcv]; exact HY m (by omega)
                have HCV : Hid (c = y m) := hcv
                clear hcv
                by_cases k1 : c = 123
                · have HD : Hid (delta (y m) = 1) := by rw [← HCV.out]; exact delta_open (by unfold isOpen; omega)
                  have HB2 : Hid (bal y ins (m + 1) = d + 1) := by
                    have := bal_out y ins m HI; rw [HD.out, ← hd.out] at this; show _ = _; omega
                  have HCL : Hid (¬ isClose (y m)) := by rw [← HCV.out]; show ¬ (c = 125 ∨ c = 93); omega
                  have t1 : (c == 123) = true := by simp; omega
                  clear k1
                  go_wp2_with fail
                  go_round
                  case rel =>
                    refine ⟨m + 1, d + 1, by omega, by go_num, by go_num, HB2.out.symm, by omega, by omega, fun j h1 h2 h3 => ?_⟩
                    by_cases e : j = m
                    · subst e
                      exact absurd h3 HCL
                    · exact hbad j (by omega) h2 h3
                  case measure => simp [intOf]; omega
                · by_cases k2 : c = 91
                  · have HD : Hid (delta (y m) = 1) := by rw [← HCV.out]; exact delta_open (by unfold isOpen; omega)
                    have HB2 : Hid (bal y ins (m + 1) = d + 1) := by
                      have := bal_out y ins m HI; rw [HD.out, ← hd.out] at this; show _ = _; omega
                    have HCL : Hid (¬ isClose (y m)) := by rw [← HCV.out]; show ¬ (c = 125 ∨ c = 93); omega
                    have t1 : (c == 123) = false := by simp; omega
                    have t2 : (c == 91) = true := by simp; omega
                    clear k1 k2
                    go_wp2_with fail
                    go_round
                    case rel =>
                      refine ⟨m + 1, d + 1, by omega, by go_num, by go_num, HB2.out.symm, by omega, by omega, fun j h1 h2 h3 => ?_⟩
                      by_cases e : j = m
                      · subst e
                        exact absurd h3 HCL
                      · exact hbad j (by omega) h2 h3
                    case measure => simp [intOf]; omega
                  · by_cases k3 : c = 125
                    · have HD : Hid (delta (y m) = -1) := by rw [← HCV.out]; exact delta_close (by unfold isClose; omega)
                      have HB2 : Hid (bal y ins (m + 1) = d - 1) := by
                        have := bal_out y ins m HI; rw [HD.out, ← hd.out] at this; show _ = _; omega
                      have HCL : Hid (isClose (y m)) := by rw [← HCV.out]; show c = 125 ∨ c = 93; omega
                      have t1 : (c == 123) = false := by simp; omega
                      have t2 : (c == 91) = false := by simp; omega
                      have t3 : (c == 125) = true := by simp; omega
                      clear k1 k2 k3
                      by_cases hz : d - 1 = 0
                      · have z1 : (d - 1 == 0) = true := by simp; omega
                        have HZ : Hid (d - 1 = 0) := hz
                        clear hz
                        go_wp2_with fail
                        go_ret2
                        refine ⟨hbel, .inr ⟨m, by omega, ⟨ins, i, S, hsc, hlt, HI, HCL, HB2.out.trans HZ, hbad⟩, ?_⟩⟩
                        simp
                      · have z1 : (d - 1 == 0) = false := by simp; omega
                        have HZ : Hid (¬ d - 1 = 0) := hz
                        clear hz
                        go_wp2_with fail
                        go_round
                        case rel =>
                          refine ⟨m + 1, d - 1, by omega, by go_num, by go_num, HB2.out.symm, by omega, by omega, fun j h1 h2 h3 => ?_⟩
                          by_cases e : j = m
                          · subst e
                            rw [HB2.out]; exact HZ
                          · exact hbad j (by omega) h2 h3
                        case measure => simp [intOf]; omega
                    · by_cases k4 : c = 93
                      · have HD : Hid (delta (y m) = -1) := by rw [← HCV.out]; exact delta_close (by unfold isClose; omega)
                        have HB2 : Hid (bal y ins (m + 1) = d - 1) := by
                          have := bal_out y ins m HI; rw [HD.out, ← hd.out] at this; show _ = _; omega
                        have HCL : Hid (isClose (y m)) := by rw [← HCV.out]; show c = 125 ∨ c = 93; omega
                        have t1 : (c == 123) = false := by simp; omega
                        have t2 : (c == 91) = false := by simp; omega
                        have t3 : (c == 125) = false := by simp; omega
                        have t4 : (c == 93) = true := by simp; omega
                        clear k1 k2 k3 k4
                        by_cases hz : d - 1 = 0
                        · have z1 : (d - 1 == 0) = true := by simp; omega
                          have HZ : Hid (d - 1 = 0) := hz
                          clear hz
                          go_wp2_with fail
                          go_ret2
                          refine ⟨hbel, .inr ⟨m, by omega, ⟨ins, i, S, hsc, hlt, HI, HCL, HB2.out.trans HZ, hbad⟩, ?_⟩⟩
                          simp
                        · have z1 : (d - 1 == 0) = false := by simp; omega
                          have HZ : Hid (¬ d - 1 = 0) := hz
                          clear hz
                          go_wp2_with fail
                          go_round
                          case rel =>
                            refine ⟨m + 1, d - 1, by omega, by go_num, by go_num, HB2.out.symm, by omega, by omega, fun j h1 h2 h3 => ?_⟩
                            by_cases e : j = m
                            · subst e
                              rw [HB2.out]; exact HZ
                            · exact hbad j (by omega) h2 h3
                          case measure => simp [intOf]; omega
                      · have HD : Hid (delta (y m) = 0) := by rw [← HCV.out]; exact delta_other (by unfold isOpen; omega) (by unfold isClose; omega)
                        have HB2 : Hid (bal y ins (m + 1) = d) := by
                          have := bal_out y ins m HI; rw [HD.out, ← hd.out] at this; show _ = _; omega
                        have HCL : Hid (¬ isClose (y m)) := by rw [← HCV.out]; show ¬ (c = 125 ∨ c = 93); omega
                        have t1 : (c == 123) = false := by simp; omega
                        have t2 : (c == 91) = false := by simp; omega
                        have t3 : (c == 125) = false := by simp; omega
                        have t4 : (c == 93) = false := by simp; omega
                        clear k1 k2 k3 k4
                        go_wp2_with fail
                        go_round
                        case rel =>
                          refine ⟨m + 1, d, by omega, by go_num, by go_num, HB2.out.symm, by omega, by omega, fun j h1 h2 h3 => ?_⟩
                          by_cases e : j = m
                          · subst e
                            exact absurd h3 HCL
                          · exact hbad j (by omega) h2 h3
                        case measure => simp [intOf]; omega
            · go_wp2_with fail
              go_ret2
              exact ⟨hbel, .inl rfl⟩
        · obtain ⟨E, hE⟩ : ∃ E : Nat, E = p0 + (i + 1 + t) := ⟨_, rfl⟩
          rw [← hE]
          have HE : Hid (E = p0 + (i + 1 + t)) := hE
          have hE1 : p0 + i + 1 ≤ E := by omega
          have hE2 : E < p0 + N := by omega
          have HT : Hid (StrClose y i t) := ht2
          have hit : i + t + 2 ≤ N := by omega
          clear hE ht1 ht2
          go_wp2_with fail
          go_loopw [12] (fun jv wq => ∃ (q : Nat) (zs : List Value), jv = .int .i64 q ∧ i ≤ q ∧ q ≤ i + t + 2 ∧ Hid (wq.ownsRow w.heap.size 4 1 (.slice (some ⟨w.heap.size, 0, none⟩) N N) N zs) ∧ Hid (∀ j, j < N → zs[j]? = some (.bool (ins j || (decide (i ≤ j) && decide (j < q))))) ∧ Hid (Below w.heap.size w wq)) (fun jv _ => N - (intOf jv).toNat)
          case atStart =>
            refine ⟨i, xs, rfl, Nat.le_refl _, by omega, hown, fun j hj => ?_, hbel⟩
            rw [hxs j hj]
            congr 2
            have : (decide (i ≤ j) && decide (j < i)) = false := by simp
            rw [this, Bool.or_false]
          case round =>
            obtain ⟨q, zs, rfl, hq1, hq2, hown', hzs, hbel'⟩ := hrel
            by_cases hql : q < i + t + 2
            · have hqE : q + p0 ≤ E := by have := HE.out; omega
              have hqN : q < N := by omega
              have g2 := hown'.out.frozenAt q
              obtain ⟨u0, g3⟩ : ∃ u0, wr.cell? ⟨w.heap.size, q, none⟩ = some u0 := by
                rw [hown'.out.cellAt q (by omega)]; exact ⟨_, hzs q hqN⟩
              have hlen := hown'.out.1
              have HS : Hid ((wr.setCell ⟨w.heap.size, q, none⟩ (.bool true)).ownsRow w.heap.size 4 1 (.slice (some ⟨w.heap.size, 0, none⟩) N N) N (zs.set q (.bool true))) := (hown'.out.stored q _).1
              have HX : Hid (∀ j, j < N → (zs.set q (.bool true))[j]? = some (.bool (ins j || (decide (i ≤ j) && decide (j < q + 1))))) := fun j hj => by
                by_cases e : j = q
                · subst e; rw [List.getElem?_set_self (by omega)]; congr 2
                  have : (decide (i ≤ j) && decide (j < j + 1)) = true := by simp; omega
                  rw [this, Bool.or_true]
                · rw [List.getElem?_set_ne (by omega), hzs j hj]; congr 2
                  have : decide (j < q) = decide (j < q + 1) := by simp; omega
                  rw [this]
              go_wp2_with fail
              go_roundw
              case rel => exact ⟨q + 1, _, by go_num, by omega, by omega, HS, HX, hbel'.out.setCell (Nat.le_refl _) _⟩
              case measure => simp [intOf]; omega
            · have hqE : E < q + p0 := by have := HE.out; omega
              have hqq : Hid (q = i + t + 2) := by show _ = _; omega
              go_wp2_with fail
              go_roundw
              case rel =>
                refine ⟨i + t + 2, fun j => ins j || (decide (i ≤ j) && decide (j < q)), _, zs, rfl, ?_, hit, hown', hzs, hsc.out.string HQ HT ?_ ?_ ?_, hbel'⟩
                · have := HE.out; congr 1; omega
                · intro j h1 h2
                  have : (decide (i ≤ j) && decide (j < q)) = true := by have := hqq.out; simp; omega
                  simp only [this, Bool.or_true]
                · intro j h1
                  have : (decide (i ≤ j) && decide (j < q)) = false := by simp; omega
                  simp only [this, Bool.or_false]
                · intro j h1
                  have : (decide (i ≤ j) && decide (j < q)) = false := by have := hqq.out; simp; omega
                  simp only [this, Bool.or_false]
              case measure => have := HE.out; simp [intOf]; omega
      · have t0 : (c != 34) = true := by simp [hq]
        have HQ : Hid (¬ y i = 34) := by rw [← HCV.out]; exact hq
        clear hq
        go_wp2_with fail
        go_roundw
        case rel => exact ⟨i + 1, ins, _, xs, rfl, by go_num, by omega, hown, hxs, hsc.out.plain HQ, hbel⟩
        case measure => simp [intOf]; omega
    · obtain rfl : i = N := by omega
      go_wp2_with fail
      go_loop [13, 14] (fun bv mv => ∃ (m : Nat) (d : Int), m ≤ i ∧ mv = .int .i64 m ∧ bv = .int .i64 d ∧ Hid (d = bal y ins m) ∧ -(m : Int) ≤ d ∧ d ≤ m ∧ Hid (∀ j, j < m → ins j = false → isClose (y j) → bal y ins (j + 1) ≠ 0)) (fun _ mv => i - (intOf mv).toNat)
      case atStart => exact ⟨0, 0, Nat.zero_le _, rfl, rfl, rfl, by omega, by omega, fun j h => absurd h (Nat.not_lt_zero _)⟩
      case round =>
        obtain ⟨m, d, hmK, rfl, rfl, hd, hd1, hd2, hbad⟩ := hrel
        by_cases hlt : m < i
        · have g2 : wr.cell? ⟨w.heap.size, m, none⟩ = some (.bool (ins m)) := by rw [hown.out.cellAt m (by omega)]; exact hxs m (by omega)
          cases hi : ins m with
          | true =>
            have HI : Hid (ins m = true) := hi
            rw [hi] at g2
            clear hi
            go_wp2_with fail
            go_round
            case rel =>
              refine ⟨m + 1, d, by omega, by go_num, rfl, hd.out.trans (bal_in y ins m HI).symm, by omega, by omega, fun j h1 h2 h3 => ?_⟩
              by_cases e : j = m
              · subst e; rw [HI.out] at h2; cases h2
              · exact hbad j (by omega) h2 h3
            case measure => simp [intOf]; omega
          | false =>
            have HI : Hid (ins m = false) := hi
            rw [hi] at g2
            clear hi
            obtain ⟨c, hcv⟩ : ∃ c, c = y m := ⟨_, rfl⟩
            have g4 : wr.cell? ⟨b, off + (p0 + m), none⟩ = some (.int .u8 c) := by
              rw [hbel.out.cell (by exact hb), hcv]; exact HY m (by omega)
            have HCV : Hid (c = y m) := hcv
            clear hcv
            by_cases k1 : c = 123
            · have HD : Hid (delta (y m) = 1) := by rw [← HCV.out]; exact delta_open (by unfold isOpen; omega)
              have HB2 : Hid (bal y ins (m + 1) = d + 1) := by
                have := bal_out y ins m HI; rw [HD.out, ← hd.out] at this; show _ = _; omega
              have HCL : Hid (¬ isClose (y m)) := by rw [← HCV.out]; show ¬ (c = 125 ∨ c = 93); omega
              have t1 : (c == 123) = true := by simp; omega
              clear k1
              go_wp2_with fail
              go_round
              case rel =>
                refine ⟨m + 1, d + 1, by omega, by go_num, by go_num, HB2.out.symm, by omega, by omega, fun j h1 h2 h3 => ?_⟩
                by_cases e : j = m
                · subst e
                  exact absurd h3 HCL
                · exact hbad j (by omega) h2 h3
              case measure => simp [intOf]; omega
            · by_cases k2 : c = 91
              · have HD : Hid (delta (y m) = 1) := by rw [← HCV.out]; exact delta_open (by unfold isOpen; omega)
                have HB2 : Hid (bal y ins (m + 1) = d + 1) := by
                  have := bal_out y ins m HI; rw [HD.out, ← hd.out] at this; show _ = _; omega
                have HCL : Hid (¬ isClose (y m)) := by rw [← HCV.out]; show ¬ (c = 125 ∨ c = 93); omega
                have t1 : (c == 123) = false := by simp; omega
                have t2 : (c == 91) = true := by simp; omega
                clear k1 k2
                go_wp2_with fail
                go_round
                case rel =>
                  refine ⟨m + 1, d + 1, by omega, by go_num, by go_num, HB2.out.symm, by omega, by omega, fun j h1 h2 h3 => ?_⟩
                  by_cases e : j = m
                  · subst e
                    exact absurd h3 HCL
                  · exact hbad j (by omega) h2 h3
                case measure => simp [intOf]; omega
              · by_cases k3 : c = 125
                · have HD : Hid (delta (y m) = -1) := by rw [← HCV.out]; exact delta_close (by unfold isClose; omega)
                  have HB2 : Hid (bal y ins (m + 1) = d - 1) := by
                    have := bal_out y ins m HI; rw [HD.out, ← hd.out] at this; show _ = _; omega
                  have HCL : Hid (isClose (y m)) := by rw [← HCV.out]; show c = 125 ∨ c = 93; omega
                  have t1 : (c == 123) = false := by simp; omega
                  have t2 : (c == 91) = false := by simp; omega
                  have t3 : (c == 125) = true := by simp; omega
                  clear k1 k2 k3
                  by_cases hz : d - 1 = 0
                  · have z1 : (d - 1 == 0) = true := by simp; omega
                    have HZ : Hid (d - 1 = 0) := hz
                    clear hz
                    go_wp2_with fail
                    go_ret2
                    refine ⟨hbel, .inr ⟨m, by omega, ⟨ins, i, S, hsc, hlt, HI, HCL, HB2.out.trans HZ, hbad⟩, ?_⟩⟩
                    simp
                  · have z1 : (d - 1 == 0) = false := by simp; omega
                    have HZ : Hid (¬ d - 1 = 0) := hz
                    clear hz
                    go_wp2_with fail
                    go_round
                    case rel =>
                      refine ⟨m + 1, d - 1, by omega, by go_num, by go_num, HB2.out.symm, by omega, by omega, fun j h1 h2 h3 => ?_⟩
                      by_cases e : j = m
                      · subst e
                        rw [HB2.out]; exact HZ
                      · exact hbad j (by omega) h2 h3
                    case measure => simp [intOf]; omega
                · by_cases k4 : c = 93
                  · have HD : Hid (delta (y m) = -1) := by rw [← HCV.out]; exact delta_close (by unfold isClose; omega)
                    have HB2 : Hid (bal y ins (m + 1) = d - 1) := by
                      have := bal_out y ins m HI; rw [HD.out, ← hd.out] at this; show _ = _; omega
                    have HCL : Hid (isClose (y m)) := by rw [← HCV.out]; show c = 125 ∨ c = 93; omega
                    have t1 : (c == 123) = false := by simp; omega
                    have t2 : (c == 91) = false := by simp; omega
                    have t3 : (c == 125) = false := by simp; omega
                    have t4 : (c == 93) = true := by simp; omega
                    clear k1 k2 k3 k4
                    by_cases hz : d - 1 = 0
                    · have z1 : (d - 1 == 0) = true := by simp; omega
                      have HZ : Hid (d - 1 = 0) := hz
                      clear hz
                      go_wp2_with fail
                      go_ret2
                      refine ⟨hbel, .inr ⟨m, by omega, ⟨ins, i, S, hsc, hlt, HI, HCL, HB2.out.trans HZ, hbad⟩, ?_⟩⟩
                      simp
                    · have z1 : (d - 1 == 0) = false := by simp; omega
                      have HZ : Hid (¬ d - 1 = 0) := hz
                      clear hz
                      go_wp2_with fail
                      go_round
                      case rel =>
                        refine ⟨m + 1, d - 1, by omega, by go_num, by go_num, HB2.out.symm, by omega, by omega, fun j h1 h2 h3 => ?_⟩
                        by_cases e : j = m
                        · subst e
                          rw [HB2.out]; exact HZ
                        · exact hbad j (by omega) h2 h3
                      case measure => simp [intOf]; omega
                  · have HD : Hid (delta (y m) = 0) := by rw [← HCV.out]; exact delta_other (by unfold isOpen; omega) (by unfold isClose; omega)
                    have HB2 : Hid (bal y ins (m + 1) = d) := by
                      have := bal_out y ins m HI; rw [HD.out, ← hd.out] at this; show _ = _; omega
                    have HCL : Hid (¬ isClose (y m)) := by rw [← HCV.out]; show ¬ (c = 125 ∨ c = 93); omega
                    have t1 : (c == 123) = false := by simp; omega
                    have t2 : (c == 91) = false := by simp; omega
                    have t3 : (c == 125) = false := by simp; omega
                    have t4 : (c == 93) = false := by simp; omega
                    clear k1 k2 k3 k4
                    go_wp2_with fail
                    go_round
                    case rel =>
                      refine ⟨m + 1, d, by omega, by go_num, by go_num, HB2.out.symm, by omega, by omega, fun j h1 h2 h3 => ?_⟩
                      by_cases e : j = m
                      · subst e
                        exact absurd h3 HCL
                      · exact hbad j (by omega) h2 h3
                    case measure => simp [intOf]; omega
        · go_wp2_with fail
          go_ret2
          exact ⟨hbel, .inl rfl⟩
end Go.Proofs.Qxb6601681a.Skip
