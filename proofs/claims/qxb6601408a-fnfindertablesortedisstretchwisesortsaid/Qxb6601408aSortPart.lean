/-
  The walk of partialInsertionSortOrdered at uint64.
-/
import Derived.Test.Qxb6601408aSortChoose
namespace Go.Proofs.Qxb6601408a.Fin
open Go.RowKit
set_option linter.unusedVariables false

def Below (a b : Nat) (d : Nat → Int) : Prop := a = 0 ∨ ∀ i, a ≤ i → i < b → d (a - 1) ≤ d i
theorem Below.turn {a b : Nat} {d d' : Nat → Int} (h : Below a b d) (k : Perm a b d d') : Below a b d' := by
  rcases h with e | h
  · exact .inl e
  · by_cases e : a = 0
    · exact .inl e
    · refine .inr fun i h1 h2 => ?_
      rw [k.out (a - 1) (by omega)]
      exact k.all (P := fun v => d (a - 1) ≤ v) h i h1 h2

/-- the answer of partialInsertionSort -/
def PIns (a b blk off n : Nat) (d : Nat → Int) (w : World) (e : Ending) (w' : World) : Prop :=
  ∃ r : Bool, e = .returned (.bool r) ∧ Keep blk off n w w' ∧ ∃ d', Hold w' blk off n d' ∧ Perm a b d d' ∧ (r = true → Sorted a b d')

set_option maxRecDepth 100000 in
set_option maxHeartbeats 1000000 in
theorem pins_c (blk off n cap a b : Nat) (d : Nat → Int) (w : World) (h : Hold w blk off n d) (hbl : Below a b d) (hab : a < b) (hb : b ≤ n) (hn : n ≤ 65536) :
    Calls Try.prog 32 #[.slice (some ⟨blk, off, none⟩) n cap, .int .i64 a, .int .i64 b] w (PIns a b blk off n d w) := by
  have H0 : Hid (Hold w blk off n d) := h
  have HBL : Hid (Below a b d) := hbl
  clear h hbl
  go_enter Try.func32, Try.ntmps32
  go_wp2_with fail
  go_loopw [7, 8] (fun iv sv wr => ∃ (i s : Nat) (d1 : Nat → Int), iv = .int .i64 i ∧ sv = .int .i64 s ∧ a < i ∧ i ≤ b ∧ s ≤ 5 ∧ Hid (Keep blk off n w wr) ∧ Hid (Hold wr blk off n d1) ∧ Hid (Perm a b d d1) ∧ Hid (Sorted a i d1)) (fun _ sv _ => 5 - (intOf sv).toNat)
  case atStart => exact ⟨a + 1, 0, d, by go_num, rfl, by omega, by omega, by omega, Keep.refl _ _ _ _, H0, Perm.refl _ _ _, Sorted.one _ _⟩
  case round =>
    obtain ⟨i0, s, d0, rfl, rfl, hai0, hib0, hs5, hk0, hh0, hp0, hs0⟩ := hrel
    clear H0
    by_cases hs : s < 5
    · have ds : decide ((s : Int) < 5) = true := decide_eq_true (by omega)
      go_wp2_with fail
      go_loopw [7] (fun iv wq => ∃ (i : Nat), iv = .int .i64 i ∧ a < i ∧ i ≤ b ∧ Hid (Keep blk off n w wq) ∧ Hid (Hold wq blk off n d0) ∧ Hid (Sorted a i d0)) (fun iv _ => b - (intOf iv).toNat)
      case atStart => exact ⟨i0, rfl, hai0, hib0, hk0, hh0, hs0⟩
      case round =>
        obtain ⟨i, rfl, hai, hib, hk, hh, hso⟩ := hrel
        clear hk0 hh0 hs0
        by_cases hlt : i < b
        · obtain ⟨x, hx⟩ : ∃ x, x = d0 i := ⟨_, rfl⟩
          obtain ⟨y, hy⟩ : ∃ y, y = d0 (i - 1) := ⟨_, rfl⟩
          have c1 : wr.cell? ⟨blk, off + i, none⟩ = some (.int .u64 x) := by rw [hx]; exact hh.out.cell i (by omega)
          have c2 : wr.cell? ⟨blk, off + (i - 1), none⟩ = some (.int .u64 y) := by rw [hy]; exact hh.out.cell (i - 1) (by omega)
          have f1 := hh.out.loose i (by omega)
          have f2 := hh.out.loose (i - 1) (by omega)
          have HX : Hid (x = d0 i) := hx
          have HY : Hid (y = d0 (i - 1)) := hy
          have hin : (i : Int) < n := by omega
          have hin2 : (i : Int) - 1 < n := by omega
          have di : decide (i < b) = true := decide_eq_true hlt
          clear hx hy
          by_cases hl : x < y
          · have t1 : decide (x < y) = true := decide_eq_true hl
            have ne1 : (i == b) = false := by simp; omega
            have ne2 : ((i : Int) == b) = false := by simp; omega
            by_cases h50 : b < a + 50
            · go_wp2_with fail
              go_quiet ((go_at_call 33; first | exact Calls.quiet_of_same (less_c _ _ _) | exact quiet2 (less_c _ _ _)))
              go_wp2_with fail
              go_ret
              exact ⟨false, rfl, hk.out.drewN _, d0, hh.out.drewN _, hp0, fun e => absurd e (by decide)⟩
            · have d50 : decide ((b : Int) - a < 50) = false := decide_eq_false (by omega)
              go_wp2_with fail
              go_quiet ((go_at_call 33; first | exact Calls.quiet_of_same (less_c _ _ _) | exact quiet2 (less_c _ _ _)))
              go_wp2_with fail
              go_region
              have K1 : Hid (Keep blk off n w (((wr.drewN (nq + 1)).setCell ⟨blk, off + i, none⟩ (.int .u64 y)).setCell ⟨blk, off + (i - 1), none⟩ (.int .u64 x))) := (hk.out.drewN _).sw i (i - 1) (by omega) (by omega) _ _
              have H1 : Hid (Hold (((wr.drewN (nq + 1)).setCell ⟨blk, off + i, none⟩ (.int .u64 y)).setCell ⟨blk, off + (i - 1), none⟩ (.int .u64 x)) blk off n (Fin.sw d0 i (i - 1))) := (hh.out.drewN _).sw i (i - 1) (by omega) (by omega) HY.out HX.out
              have P1 : Hid (Perm a b d (Fin.sw d0 i (i - 1))) := hp0.out.trans (Perm.sw _ _ _ (by omega) (by omega) (by omega) (by omega))
              have S1 : Hid (Sorted a (i - 1) (Fin.sw d0 i (i - 1))) := (hso.out.sub (Nat.le_refl _) (by omega)).congr fun k _ hk => sw_ne _ _ _ _ (by omega) (by omega)
              generalize (((wr.drewN (nq + 1)).setCell ⟨blk, off + i, none⟩ (.int .u64 y)).setCell ⟨blk, off + (i - 1), none⟩ (.int .u64 x)) = w1 at K1 H1 ⊢
              generalize Fin.sw d0 i (i - 1) = d1 at H1 P1 S1
              clear hk hh hso HX HY c1 c2 f1 f2 t1 hl hp0
              by_cases hia : a + 2 ≤ i
              · have dia : decide ((2 : Int) ≤ (i : Int) - a) = true := decide_eq_true (by omega)
                go_wp2_with fail
                go_loopw [9] (fun jv wq => ∃ (j : Nat) (d2 : Nat → Int), jv = .int .i64 j ∧ a ≤ j ∧ j + 1 ≤ i ∧ Hid (Keep blk off n w wq) ∧ Hid (Hold wq blk off n d2) ∧ Hid (Perm a b d d2) ∧ Hid (Ins a (i - 1) j d2)) (fun jv _ => (intOf jv).toNat)
                case atStart => exact ⟨i - 1, d1, by congr 1; omega, by omega, by omega, K1, H1, P1, Ins.start S1.out⟩
                case round =>
                  obtain ⟨j, d2, rfl, haj, hji, hk2, hh2, hp2, hin⟩ := hrel
                  clear K1 H1 P1 S1
                  by_cases hj0 : 1 ≤ j
                  · obtain ⟨x2, hx2⟩ : ∃ x, x = d2 j := ⟨_, rfl⟩
                    obtain ⟨y2, hy2⟩ : ∃ y, y = d2 (j - 1) := ⟨_, rfl⟩
                    have c12 : wr.cell? ⟨blk, off + j, none⟩ = some (.int .u64 x2) := by rw [hx2]; exact hh2.out.cell j (by omega)
                    have c22 : wr.cell? ⟨blk, off + (j - 1), none⟩ = some (.int .u64 y2) := by rw [hy2]; exact hh2.out.cell (j - 1) (by omega)
                    have f12 := hh2.out.loose j (by omega)
                    have f22 := hh2.out.loose (j - 1) (by omega)
                    have HX2 : Hid (x2 = d2 j) := hx2
                    have HY2 : Hid (y2 = d2 (j - 1)) := hy2
                    have hjn : (j : Int) < n := by omega
                    have hjn2 : (j : Int) - 1 < n := by omega
                    have dj0 : decide ((1 : Int) ≤ j) = true := decide_eq_true (by omega)
                    clear hx2 hy2
                    by_cases hl2 : x2 < y2
                    · have t2 : decide (x2 < y2) = true := decide_eq_true hl2
                      have hja : a < j := by
                        rcases Nat.lt_or_ge a j with h | h
                        · exact h
                        · have e : j = a := by omega
                          subst e
                          rcases (HBL.out.turn hp2.out) with e0 | e0
                          · omega
                          · have h1 := e0 j (Nat.le_refl _) (by omega)
                            have h2 := HX2.out; have h3 := HY2.out
                            omega
                      go_wp2_with fail
                      go_quiet ((go_at_call 33; first | exact Calls.quiet_of_same (less_c _ _ _) | exact quiet2 (less_c _ _ _)))
                      go_wp2_with fail
                      go_region
                      go_wp2_with fail
                      go_roundw
                      case rel =>
                        exact ⟨j - 1, Fin.sw d2 j (j - 1), by congr 1; omega, by omega, by omega, (hk2.out.drewN _).sw j (j - 1) (by omega) (by omega) _ _, (hh2.out.drewN _).sw j (j - 1) (by omega) (by omega) HY2.out HX2.out,
                          hp2.out.trans (Perm.sw _ _ _ (by omega) (by omega) (by omega) (by omega)), hin.out.step hja (by omega) (by rw [← HX2.out, ← HY2.out]; exact hl2)⟩
                      case measure => simp [intOf]; omega
                    · have t2 : decide (x2 < y2) = false := decide_eq_false hl2
                      have HS2 : Hid (Sorted a i d2) := by have := hin.out.stop (by omega) (.inr (by rw [← HX2.out, ← HY2.out]; exact hl2)); rw [show i - 1 + 1 = i from by omega] at this; exact this
                      by_cases hbi : i + 2 ≤ b
                      · have dbi : decide ((2 : Int) ≤ (b : Int) - i) = true := decide_eq_true (by omega)
                        go_wp2_with fail
                        go_quiet ((go_at_call 33; first | exact Calls.quiet_of_same (less_c _ _ _) | exact quiet2 (less_c _ _ _)))
                        go_wp2_with fail
                        have KQ : Hid (Keep blk off n w (wr.drewN nq)) := hk2.out.drewN _
                        have HQ : Hid (Hold (wr.drewN nq) blk off n d2) := hh2.out.drewN _
                        obtain ⟨dz, hdz⟩ : ∃ dz, dz = d2 := ⟨_, rfl⟩
                        have KZ := KQ
                        have HZ := HQ
                        have PZ := hp2
                        have SZ := HS2
                        rw [← hdz] at HZ PZ SZ
                        clear hk2 hh2 hp2 hin HX2 HY2 c12 c22 f12 f22 HS2 hdz
                        go_loopw [10] (fun jv wq => ∃ (j : Nat) (d3 : Nat → Int), jv = .int .i64 j ∧ i < j ∧ j ≤ b ∧ Hid (Keep blk off n w wq) ∧ Hid (Hold wq blk off n d3) ∧ Hid (Perm a b d d3) ∧ Hid (Sorted a i d3)) (fun jv _ => b - (intOf jv).toNat)
                        case atStart => exact ⟨i + 1, dz, by go_num, by omega, by omega, KZ, HZ, PZ, SZ⟩
                        case round =>
                          obtain ⟨j, d3, rfl, hij, hjb, hk3, hh3, hp3, hs3⟩ := hrel
                          clear KZ HZ PZ SZ
                          by_cases hjl : j < b
                          · obtain ⟨x3, hx3⟩ : ∃ x, x = d3 j := ⟨_, rfl⟩
                            obtain ⟨y3, hy3⟩ : ∃ y, y = d3 (j - 1) := ⟨_, rfl⟩
                            have c13 : wr.cell? ⟨blk, off + j, none⟩ = some (.int .u64 x3) := by rw [hx3]; exact hh3.out.cell j (by omega)
                            have c23 : wr.cell? ⟨blk, off + (j - 1), none⟩ = some (.int .u64 y3) := by rw [hy3]; exact hh3.out.cell (j - 1) (by omega)
                            have f13 := hh3.out.loose j (by omega)
                            have f23 := hh3.out.loose (j - 1) (by omega)
                            have HX3 : Hid (x3 = d3 j) := hx3
                            have HY3 : Hid (y3 = d3 (j - 1)) := hy3
                            have hjn3 : (j : Int) < n := by omega
                            have hjn4 : (j : Int) - 1 < n := by omega
                            have djl : decide ((j : Int) < b) = true := decide_eq_true (by omega)
                            clear hx3 hy3
                            by_cases hl3 : x3 < y3
                            · have t3 : decide (x3 < y3) = true := decide_eq_true hl3
                              go_wp2_with fail
                              go_quiet ((go_at_call 33; first | exact Calls.quiet_of_same (less_c _ _ _) | exact quiet2 (less_c _ _ _)))
                              go_wp2_with fail
                              go_region
                              go_wp2_with fail
                              go_roundw
                              case rel =>
                                exact ⟨j + 1, Fin.sw d3 j (j - 1), by go_num, by omega, by omega, (hk3.out.drewN _).sw j (j - 1) (by omega) (by omega) _ _, (hh3.out.drewN _).sw j (j - 1) (by omega) (by omega) HY3.out HX3.out,
                                  hp3.out.trans (Perm.sw _ _ _ (by omega) (by omega) (by omega) (by omega)), hs3.out.congr fun k _ hk => sw_ne _ _ _ _ (by omega) (by omega)⟩
                              case measure => simp [intOf]; omega
                            · have t3 : decide (x3 < y3) = false := decide_eq_false hl3
                              go_wp2_with fail
                              go_quiet ((go_at_call 33; first | exact Calls.quiet_of_same (less_c _ _ _) | exact quiet2 (less_c _ _ _)))
                              go_wp2_with fail
                              go_roundw
                              case rel => exact ⟨i, s + 1, d3, rfl, by go_num, by omega, by omega, by omega, hk3.out.drewN _, hh3.out.drewN _, hp3, hs3⟩
                              case measure => simp [intOf]; omega

                          · have djl : decide ((j : Int) < b) = false := decide_eq_false (by omega)
                            go_wp2_with fail
                            go_roundw
                            case rel => exact ⟨i, s + 1, d3, rfl, by go_num, by omega, by omega, by omega, hk3, hh3, hp3, hs3⟩
                            case measure => simp [intOf]; omega

                      · have dbi : decide ((2 : Int) ≤ (b : Int) - i) = false := decide_eq_false (by omega)
                        go_wp2_with fail
                        go_quiet ((go_at_call 33; first | exact Calls.quiet_of_same (less_c _ _ _) | exact quiet2 (less_c _ _ _)))
                        go_wp2_with fail
                        have KQ : Hid (Keep blk off n w (wr.drewN nq)) := hk2.out.drewN _
                        have HQ : Hid (Hold (wr.drewN nq) blk off n d2) := hh2.out.drewN _
                        go_roundw
                        case rel => exact ⟨i, s + 1, d2, rfl, by go_num, by omega, by omega, by omega, KQ.out, HQ.out, hp2, HS2⟩
                        case measure => simp [intOf]; omega

                  · have dj0 : decide ((1 : Int) ≤ j) = false := decide_eq_false (by omega)
                    have HS2 : Hid (Sorted a i d2) := by have := hin.out.stop (by omega) (.inl (by omega)); rw [show i - 1 + 1 = i from by omega] at this; exact this
                    by_cases hbi : i + 2 ≤ b
                    · have dbi : decide ((2 : Int) ≤ (b : Int) - i) = true := decide_eq_true (by omega)
                      go_wp2_with fail
                      obtain ⟨dz, hdz⟩ : ∃ dz, dz = d2 := ⟨_, rfl⟩
                      have KZ := hk2
                      have HZ := hh2
                      have PZ := hp2
                      have SZ := HS2
                      rw [← hdz] at HZ PZ SZ
                      clear hk2 hh2 hp2 hin HS2 hdz
                      go_loopw [10] (fun jv wq => ∃ (j : Nat) (d3 : Nat → Int), jv = .int .i64 j ∧ i < j ∧ j ≤ b ∧ Hid (Keep blk off n w wq) ∧ Hid (Hold wq blk off n d3) ∧ Hid (Perm a b d d3) ∧ Hid (Sorted a i d3)) (fun jv _ => b - (intOf jv).toNat)
                      case atStart => exact ⟨i + 1, dz, by go_num, by omega, by omega, KZ, HZ, PZ, SZ⟩
                      case round =>
                        obtain ⟨j, d3, rfl, hij, hjb, hk3, hh3, hp3, hs3⟩ := hrel
                        clear KZ HZ PZ SZ
                        by_cases hjl : j < b
                        · obtain ⟨x3, hx3⟩ : ∃ x, x = d3 j := ⟨_, rfl⟩
                          obtain ⟨y3, hy3⟩ : ∃ y, y = d3 (j - 1) := ⟨_, rfl⟩
                          have c13 : wr.cell? ⟨blk, off + j, none⟩ = some (.int .u64 x3) := by rw [hx3]; exact hh3.out.cell j (by omega)
                          have c23 : wr.cell? ⟨blk, off + (j - 1), none⟩ = some (.int .u64 y3) := by rw [hy3]; exact hh3.out.cell (j - 1) (by omega)
                          have f13 := hh3.out.loose j (by omega)
                          have f23 := hh3.out.loose (j - 1) (by omega)
                          have HX3 : Hid (x3 = d3 j) := hx3
                          have HY3 : Hid (y3 = d3 (j - 1)) := hy3
                          have hjn3 : (j : Int) < n := by omega
                          have hjn4 : (j : Int) - 1 < n := by omega
                          have djl : decide ((j : Int) < b) = true := decide_eq_true (by omega)
                          clear hx3 hy3
                          by_cases hl3 : x3 < y3
                          · have t3 : decide (x3 < y3) = true := decide_eq_true hl3
                            go_wp2_with fail
                            go_quiet ((go_at_call 33; first | exact Calls.quiet_of_same (less_c _ _ _) | exact quiet2 (less_c _ _ _)))
                            go_wp2_with fail
                            go_region
                            go_wp2_with fail
                            go_roundw
                            case rel =>
                              exact ⟨j + 1, Fin.sw d3 j (j - 1), by go_num, by omega, by omega, (hk3.out.drewN _).sw j (j - 1) (by omega) (by omega) _ _, (hh3.out.drewN _).sw j (j - 1) (by omega) (by omega) HY3.out HX3.out,
                                hp3.out.trans (Perm.sw _ _ _ (by omega) (by omega) (by omega) (by omega)), hs3.out.congr fun k _ hk => sw_ne _ _ _ _ (by omega) (by omega)⟩
                            case measure => simp [intOf]; omega
                          · have t3 : decide (x3 < y3) = false := decide_eq_false hl3
                            go_wp2_with fail
                            go_quiet ((go_at_call 33; first | exact Calls.quiet_of_same (less_c _ _ _) | exact quiet2 (less_c _ _ _)))
                            go_wp2_with fail
                            go_roundw
                            case rel => exact ⟨i, s + 1, d3, rfl, by go_num, by omega, by omega, by omega, hk3.out.drewN _, hh3.out.drewN _, hp3, hs3⟩
                            case measure => simp [intOf]; omega

                        · have djl : decide ((j : Int) < b) = false := decide_eq_false (by omega)
                          go_wp2_with fail
                          go_roundw
                          case rel => exact ⟨i, s + 1, d3, rfl, by go_num, by omega, by omega, by omega, hk3, hh3, hp3, hs3⟩
                          case measure => simp [intOf]; omega

                    · have dbi : decide ((2 : Int) ≤ (b : Int) - i) = false := decide_eq_false (by omega)
                      go_wp2_with fail
                      go_roundw
                      case rel => exact ⟨i, s + 1, d2, rfl, by go_num, by omega, by omega, by omega, hk2.out, hh2.out, hp2, HS2⟩
                      case measure => simp [intOf]; omega

              · have dia : decide ((2 : Int) ≤ (i : Int) - a) = false := decide_eq_false (by omega)
                have SZ : Hid (Sorted a i d1) := fun p q h1 h2 h3 => by omega
                by_cases hbi : i + 2 ≤ b
                · have dbi : decide ((2 : Int) ≤ (b : Int) - i) = true := decide_eq_true (by omega)
                  go_wp2_with fail
                  obtain ⟨dz, hdz⟩ : ∃ dz, dz = d1 := ⟨_, rfl⟩
                  have KZ := K1
                  have HZ := H1
                  have PZ := P1
                  rw [← hdz] at HZ PZ SZ
                  clear K1 H1 P1 S1 hdz
                  go_loopw [10] (fun jv wq => ∃ (j : Nat) (d3 : Nat → Int), jv = .int .i64 j ∧ i < j ∧ j ≤ b ∧ Hid (Keep blk off n w wq) ∧ Hid (Hold wq blk off n d3) ∧ Hid (Perm a b d d3) ∧ Hid (Sorted a i d3)) (fun jv _ => b - (intOf jv).toNat)
                  case atStart => exact ⟨i + 1, dz, by go_num, by omega, by omega, KZ, HZ, PZ, SZ⟩
                  case round =>
                    obtain ⟨j, d3, rfl, hij, hjb, hk3, hh3, hp3, hs3⟩ := hrel
                    clear KZ HZ PZ SZ
                    by_cases hjl : j < b
                    · obtain ⟨x3, hx3⟩ : ∃ x, x = d3 j := ⟨_, rfl⟩
                      obtain ⟨y3, hy3⟩ : ∃ y, y = d3 (j - 1) := ⟨_, rfl⟩
                      have c13 : wr.cell? ⟨blk, off + j, none⟩ = some (.int .u64 x3) := by rw [hx3]; exact hh3.out.cell j (by omega)
                      have c23 : wr.cell? ⟨blk, off + (j - 1), none⟩ = some (.int .u64 y3) := by rw [hy3]; exact hh3.out.cell (j - 1) (by omega)
                      have f13 := hh3.out.loose j (by omega)
                      have f23 := hh3.out.loose (j - 1) (by omega)
                      have HX3 : Hid (x3 = d3 j) := hx3
                      have HY3 : Hid (y3 = d3 (j - 1)) := hy3
                      have hjn3 : (j : Int) < n := by omega
                      have hjn4 : (j : Int) - 1 < n := by omega
                      have djl : decide ((j : Int) < b) = true := decide_eq_true (by omega)
                      clear hx3 hy3
                      by_cases hl3 : x3 < y3
                      · have t3 : decide (x3 < y3) = true := decide_eq_true hl3
                        go_wp2_with fail
                        go_quiet ((go_at_call 33; first | exact Calls.quiet_of_same (less_c _ _ _) | exact quiet2 (less_c _ _ _)))
                        go_wp2_with fail
                        go_region
                        go_wp2_with fail
                        go_roundw
                        case rel =>
                          exact ⟨j + 1, Fin.sw d3 j (j - 1), by go_num, by omega, by omega, (hk3.out.drewN _).sw j (j - 1) (by omega) (by omega) _ _, (hh3.out.drewN _).sw j (j - 1) (by omega) (by omega) HY3.out HX3.out,
                            hp3.out.trans (Perm.sw _ _ _ (by omega) (by omega) (by omega) (by omega)), hs3.out.congr fun k _ hk => sw_ne _ _ _ _ (by omega) (by omega)⟩
                        case measure => simp [intOf]; omega
                      · have t3 : decide (x3 < y3) = false := decide_eq_false hl3
                        go_wp2_with fail
                        go_quiet ((go_at_call 33; first | exact Calls.quiet_of_same (less_c _ _ _) | exact quiet2 (less_c _ _ _)))
                        go_wp2_with fail
                        go_roundw
                        case rel => exact ⟨i, s + 1, d3, rfl, by go_num, by omega, by omega, by omega, hk3.out.drewN _, hh3.out.drewN _, hp3, hs3⟩
                        case measure => simp [intOf]; omega

                    · have djl : decide ((j : Int) < b) = false := decide_eq_false (by omega)
                      go_wp2_with fail
                      go_roundw
                      case rel => exact ⟨i, s + 1, d3, rfl, by go_num, by omega, by omega, by omega, hk3, hh3, hp3, hs3⟩
                      case measure => simp [intOf]; omega

                · have dbi : decide ((2 : Int) ≤ (b : Int) - i) = false := decide_eq_false (by omega)
                  go_wp2_with fail
                  go_roundw
                  case rel => exact ⟨i, s + 1, d1, rfl, by go_num, by omega, by omega, by omega, K1, H1, P1, SZ⟩
                  case measure => simp [intOf]; omega

          · have t1 : decide (x < y) = false := decide_eq_false hl
            have HS : Hid (Sorted a (i + 1) d0) := hso.out.snoc hai (by have h1 := HX.out; have h2 := HY.out; omega)
            go_wp2_with fail
            go_quiet ((go_at_call 33; first | exact Calls.quiet_of_same (less_c _ _ _) | exact quiet2 (less_c _ _ _)))
            go_wp2_with fail
            go_roundw
            case rel => exact ⟨i + 1, by go_num, by omega, by omega, hk.out.drewN _, hh.out.drewN _, HS⟩
            case measure => simp [intOf]; omega
        · obtain rfl : i = b := by omega
          have dj : decide (i < i) = false := decide_eq_false (by omega)
          go_wp2_with fail
          go_quiet ((go_at_call 33; first | exact Calls.quiet_of_same (less_c _ _ _) | exact quiet2 (less_c _ _ _)))
          go_wp2_with fail
          go_ret
          exact ⟨true, rfl, hk.out.drewN _, d0, hh.out.drewN _, hp0, fun _ => hso⟩
    · go_wp2_with fail
      go_ret
      exact ⟨false, rfl, hk0, d0, hh0, hp0, fun e => absurd e (by decide)⟩
end Go.Proofs.Qxb6601408a.Fin
