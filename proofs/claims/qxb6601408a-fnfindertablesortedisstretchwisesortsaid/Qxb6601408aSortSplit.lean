/-
  The walks of partitionEqualOrdered and partitionOrdered at uint64.
-/
import Derived.Test.Qxb6601408aSortPart
namespace Go.Proofs.Qxb6601408a.Fin
open Go.RowKit
set_option linter.unusedVariables false

/-- the answer of partitionEqual -/
def PEq (a b p blk off n : Nat) (d : Nat → Int) (w : World) (e : Ending) (w' : World) : Prop :=
  ∃ i : Nat, e = .returned (.int .i64 i) ∧ a < i ∧ i ≤ b ∧ Keep blk off n w w' ∧ ∃ d', Hold w' blk off n d' ∧ Perm a b d d' ∧ d' a = d p ∧ (∀ k, a < k → k < i → ¬ d' a < d' k) ∧ (∀ k, i ≤ k → k < b → d' a < d' k)
/-- the answer of partition -/
def PPar (a b blk off n : Nat) (d : Nat → Int) (w : World) (e : Ending) (w' : World) : Prop :=
  ∃ (m : Nat) (r : Bool), e = .returned (.tuple #[.int .i64 m, .bool r]) ∧ Keep blk off n w w' ∧ ∃ d', Hold w' blk off n d' ∧ Perm a b d d' ∧ Parted a b m d'

theorem Part.start {a b j : Nat} (d : Nat → Int) (h1 : a ≤ j) (h2 : b ≤ j + 1) (h3 : j + 1 ≤ b) : Part a b (a + 1) j d := ⟨by omega, by omega, by omega, fun k h1 h2 => by omega, fun k h1 h2 => by omega⟩
theorem PartE.start {a b j : Nat} (d : Nat → Int) (h1 : a ≤ j) (h2 : b ≤ j + 1) (h3 : j + 1 ≤ b) : PartE a b (a + 1) j d := ⟨by omega, by omega, by omega, fun k h1 h2 => by omega, fun k h1 h2 => by omega⟩

set_option maxRecDepth 100000 in
set_option maxHeartbeats 2000000 in
theorem parte_c (blk off n cap a b p : Nat) (d : Nat → Int) (w : World) (h : Hold w blk off n d) (hap : a ≤ p) (hpb : p < b) (hb : b ≤ n) (hn : n ≤ 65536) :
    Calls Try.prog 34 #[.slice (some ⟨blk, off, none⟩) n cap, .int .i64 a, .int .i64 b, .int .i64 p] w (PEq a b p blk off n d w) := by
  have H0 : Hid (Hold w blk off n d) := h
  obtain ⟨x, hx⟩ : ∃ x, x = d a := ⟨_, rfl⟩
  obtain ⟨y, hy⟩ : ∃ y, y = d p := ⟨_, rfl⟩
  have c1 : w.cell? ⟨blk, off + a, none⟩ = some (.int .u64 x) := by rw [hx]; exact h.cell a (by omega)
  have c2 : w.cell? ⟨blk, off + p, none⟩ = some (.int .u64 y) := by rw [hy]; exact h.cell p (by omega)
  have f1 := h.loose a (by omega)
  have f2 := h.loose p (by omega)
  obtain ⟨v', hv'⟩ := cell?_setCell_some (w := w) (p := ⟨blk, off + a, none⟩) (x := .int .u64 y) (q := ⟨blk, off + p, none⟩) (v := .int .u64 y) c2
  have HX : Hid (x = d a) := hx
  have HY : Hid (y = d p) := hy
  have na : (a : Int) < n := by omega
  have np : (p : Int) < n := by omega
  clear hx hy h
  obtain ⟨jo, hjo⟩ : ∃ jo : Nat, b = jo + 1 := ⟨b - 1, by omega⟩
  have ejo : (b : Int) - 1 = jo := by omega
  have hjo1 : b ≤ jo + 1 := by omega
  have hjo2 : jo + 1 ≤ b := by omega
  clear hjo
  go_enter Try.func34, Try.ntmps34
  go_wp2_with fail
  go_region
  have K1 : Hid (Keep blk off n w ((w.setCell ⟨blk, off + a, none⟩ (.int .u64 y)).setCell ⟨blk, off + p, none⟩ (.int .u64 x)).drew) := ((Keep.refl _ _ _ _).sw a p (by omega) (by omega) _ _).drew
  have H1 : Hid (Hold ((w.setCell ⟨blk, off + a, none⟩ (.int .u64 y)).setCell ⟨blk, off + p, none⟩ (.int .u64 x)).drew blk off n (Fin.sw d a p)) := (H0.out.sw a p (by omega) (by omega) HY.out HX.out).drew
  have P1 : Hid (Perm a b d (Fin.sw d a p)) := Perm.sw _ _ _ (by omega) (by omega) (by omega) (by omega)
  have V1 : Hid (Fin.sw d a p a = d p) := sw_fst _ _ _
  generalize ((w.setCell ⟨blk, off + a, none⟩ (.int .u64 y)).setCell ⟨blk, off + p, none⟩ (.int .u64 x)).drew = w1 at K1 H1 ⊢
  generalize Fin.sw d a p = d1 at H1 P1 V1
  clear c1 c2 f1 f2 hv' H0 HX HY
  go_wp2_with fail
  go_loopw [9, 10] (fun iv jv wq => ∃ (i j : Nat) (d2 : Nat → Int), iv = .int .i64 i ∧ jv = .int .i64 j ∧ a < i ∧ i ≤ j + 1 ∧ j < b ∧ Hid (Keep blk off n w wq) ∧ Hid (Hold wq blk off n d2) ∧ Hid (Perm a b d d2) ∧ Hid (d2 a = d p) ∧ Hid (PartE a b i j d2)) (fun _ jv _ => (intOf jv).toNat)
  case atStart => exact ⟨a + 1, jo, d1, by go_num, rfl, by omega, by omega, by omega, K1, H1, P1, V1, PartE.start d1 (by omega) hjo1 hjo2⟩
  case round =>
    obtain ⟨i0, j0, d2, rfl, rfl, hai0, hij0, hjb0, hk2, hh2, hp, hv, hpp⟩ := hrel
    clear K1 H1 P1 V1
    go_wp2_with fail
    go_loopw [9] (fun iv wq => ∃ (i : Nat), iv = .int .i64 i ∧ a < i ∧ i ≤ j0 + 1 ∧ Hid (Keep blk off n w wq) ∧ Hid (Hold wq blk off n d2) ∧ Hid (PartE a b i j0 d2)) (fun iv _ => j0 + 1 - (intOf iv).toNat)
    case atStart => exact ⟨i0, rfl, by omega, by omega, hk2, hh2, hpp⟩
    case round =>
      obtain ⟨i, rfl, hai, hij1, hkA, hhA, hpA⟩ := hrel
      clear hk2 hh2 hpp
      by_cases hij : i ≤ j0
      · have dij : decide (i ≤ j0) = true := decide_eq_true hij
        have dij' : decide ((i : Int) ≤ j0) = true := decide_eq_true (by omega)
        obtain ⟨xa, hxa⟩ : ∃ x, x = d2 a := ⟨_, rfl⟩
        have cxa : wr.cell? ⟨blk, off + a, none⟩ = some (.int .u64 xa) := by rw [hxa]; exact hhA.out.cell a (by omega)
        have fxa : wr.frozen? ⟨blk, off + a, none⟩ = false := hhA.out.loose a (by omega)
        have Exa : Hid (xa = d2 a) := hxa
        have nxa : (a : Int) < n := by omega
        clear hxa
        obtain ⟨xi, hxi⟩ : ∃ x, x = d2 i := ⟨_, rfl⟩
        have cxi : wr.cell? ⟨blk, off + i, none⟩ = some (.int .u64 xi) := by rw [hxi]; exact hhA.out.cell i (by omega)
        have fxi : wr.frozen? ⟨blk, off + i, none⟩ = false := hhA.out.loose i (by omega)
        have Exi : Hid (xi = d2 i) := hxi
        have nxi : (i : Int) < n := by omega
        clear hxi
        by_cases hl : xa < xi
        · have t1 : decide (xa < xi) = true := decide_eq_true hl
          have ST : Hid (d2 a < d2 i) := by rw [← Exi.out, ← Exa.out]; exact hl
          go_wp2_with fail
          go_quiet ((go_at_call 33; first | exact Calls.quiet_of_same (less_c _ _ _) | exact quiet2 (less_c _ _ _)))
          go_wp2_with fail
          have KA : Hid (Keep blk off n w (wr.drewN nq)) := hkA.out.drewN _
          have HA : Hid (Hold (wr.drewN nq) blk off n d2) := hhA.out.drewN _
          have PA := hpA
          clear hkA hhA hpA cxa fxa cxi fxi t1 hl Exa nxa dij dij' hij
          go_loopw [10] (fun jv wq => ∃ (j : Nat), jv = .int .i64 j ∧ j ≤ j0 ∧ i ≤ j + 1 ∧ j < b ∧ Hid (Keep blk off n w wq) ∧ Hid (Hold wq blk off n d2) ∧ Hid (PartE a b i j d2)) (fun jv _ => (intOf jv).toNat)
          case atStart => exact ⟨j0, rfl, by omega, by omega, by omega, KA, HA, PA⟩
          case round =>
            obtain ⟨j, rfl, hjo, hij1, hjb, hkB, hhB, hpB⟩ := hrel
            clear KA HA PA
            by_cases hijB : i ≤ j
            · have dij : decide (i ≤ j) = true := decide_eq_true hijB
              have dij' : decide ((i : Int) ≤ j) = true := decide_eq_true (by omega)
              obtain ⟨xa, hxa⟩ : ∃ x, x = d2 a := ⟨_, rfl⟩
              have cxa : wr.cell? ⟨blk, off + a, none⟩ = some (.int .u64 xa) := by rw [hxa]; exact hhB.out.cell a (by omega)
              have fxa : wr.frozen? ⟨blk, off + a, none⟩ = false := hhB.out.loose a (by omega)
              have Exa : Hid (xa = d2 a) := hxa
              have nxa : (a : Int) < n := by omega
              clear hxa
              obtain ⟨xj, hxj⟩ : ∃ x, x = d2 j := ⟨_, rfl⟩
              have cxj : wr.cell? ⟨blk, off + j, none⟩ = some (.int .u64 xj) := by rw [hxj]; exact hhB.out.cell j (by omega)
              have fxj : wr.frozen? ⟨blk, off + j, none⟩ = false := hhB.out.loose j (by omega)
              have Exj : Hid (xj = d2 j) := hxj
              have nxj : (j : Int) < n := by omega
              clear hxj
              by_cases hl : xa < xj
              · have t1 : decide (xa < xj) = true := decide_eq_true hl
                have HN : Hid (PartE a b i (j - 1) d2) := hpB.out.down hijB (by rw [← Exj.out, ← Exa.out]; exact hl)
                go_wp2_with fail
                go_quiet ((go_at_call 33; first | exact Calls.quiet_of_same (less_c _ _ _) | exact quiet2 (less_c _ _ _)))
                go_wp2_with fail
                go_roundw
                case rel => exact ⟨j - 1, by congr 1; omega, by omega, by omega, by omega, hkB.out.drewN _, hhB.out.drewN _, HN⟩
                case measure => simp [intOf]; omega

              · have t1 : decide (xa < xj) = false := decide_eq_false hl
                have PS : Hid (PartE a b (i + 1) (j - 1) (Fin.sw d2 i j)) := hpB.out.swap hijB (by have := ST.out; omega) (by rw [← Exj.out, ← Exa.out]; exact hl)
                have cxi : wr.cell? ⟨blk, off + i, none⟩ = some (.int .u64 xi) := by rw [Exi.out]; exact hhB.out.cell i (by omega)
                have fxi : wr.frozen? ⟨blk, off + i, none⟩ = false := hhB.out.loose i (by omega)
                have hne : i < j := by
                  rcases Nat.lt_or_ge i j with h | h
                  · exact h
                  · exfalso
                    have e : i = j := by omega
                    have h1 := ST.out
                    have h2 := Exj.out
                    have h3 := Exa.out
                    rw [e, ← h2, ← h3] at h1
                    omega
                have dji : decide (j < i) = false := decide_eq_false (by omega)
                have dji' : decide ((j : Int) < i) = false := decide_eq_false (by omega)
                go_wp2_with fail
                go_quiet ((go_at_call 33; first | exact Calls.quiet_of_same (less_c _ _ _) | exact quiet2 (less_c _ _ _)))
                go_wp2_with fail
                go_region
                go_wp2_with fail
                go_roundw
                case rel =>
                  exact ⟨i + 1, j - 1, Fin.sw d2 i j, by go_num, by congr 1; omega, by omega, by omega, by omega, (hkB.out.drewN _).sw i j (by omega) (by omega) _ _, (hhB.out.drewN _).sw i j (by omega) (by omega) Exj.out Exi.out,
                    hp.out.trans (Perm.sw _ _ _ (by omega) (by omega) (by omega) (by omega)), (by show Fin.sw d2 i j a = d p; rw [sw_ne _ _ _ _ (by omega) (by omega)]; exact hv.out), PS⟩
                case measure => simp [intOf]; omega

            · have hij : ¬ i ≤ j := hijB
              have dij : decide (i ≤ j) = false := decide_eq_false hij
              have dij' : decide ((i : Int) ≤ j) = false := decide_eq_false (by omega)
              go_wp2_with fail
              go_quiet ((go_at_call 33; first | exact Calls.quiet_of_same (less_c _ _ _) | exact quiet2 (less_c _ _ _)))
              go_wp2_with fail
              go_ret
              exact ⟨i, rfl, by omega, by omega, hkB.out.drewN _, d2, hhB.out.drewN _, hp, hv, hpB.out.left, fun k h1 h2 => hpB.out.right k (by omega) h2⟩

        · have t1 : decide (xa < xi) = false := decide_eq_false hl
          have HN : Hid (PartE a b (i + 1) j0 d2) := hpA.out.up hij (by rw [← Exi.out, ← Exa.out]; exact hl)
          go_wp2_with fail
          go_quiet ((go_at_call 33; first | exact Calls.quiet_of_same (less_c _ _ _) | exact quiet2 (less_c _ _ _)))
          go_wp2_with fail
          go_roundw
          case rel => exact ⟨i + 1, by go_num, by omega, by omega, hkA.out.drewN _, hhA.out.drewN _, HN⟩
          case measure => simp [intOf]; omega

      · have dij : decide (i ≤ j0) = false := decide_eq_false hij
        have dij' : decide ((i : Int) ≤ j0) = false := decide_eq_false (by omega)
        go_wp2_with fail
        go_quiet ((go_at_call 33; first | exact Calls.quiet_of_same (less_c _ _ _) | exact quiet2 (less_c _ _ _)))
        go_wp2_with fail
        have KA : Hid (Keep blk off n w (wr.drewN nq)) := hkA.out.drewN _
        have HA : Hid (Hold (wr.drewN nq) blk off n d2) := hhA.out.drewN _
        have PA := hpA
        clear hkA hhA hpA dij dij'
        go_loopw [10] (fun jv wq => ∃ (j : Nat), jv = .int .i64 j ∧ j ≤ j0 ∧ i ≤ j + 1 ∧ j < b ∧ Hid (Keep blk off n w wq) ∧ Hid (Hold wq blk off n d2) ∧ Hid (PartE a b i j d2) ∧ ¬ i ≤ j) (fun jv _ => (intOf jv).toNat)
        case atStart => exact ⟨j0, rfl, by omega, by omega, by omega, KA, HA, PA, hij⟩
        case round =>
          obtain ⟨j, rfl, hjo, hij1, hjb, hkB, hhB, hpB, hij2⟩ := hrel
          clear KA HA PA
          clear hij
          have hij := hij2
          clear hij2
          have dij : decide (i ≤ j) = false := decide_eq_false hij
          have dij' : decide ((i : Int) ≤ j) = false := decide_eq_false (by omega)
          go_wp2_with fail
          go_quiet ((go_at_call 33; first | exact Calls.quiet_of_same (less_c _ _ _) | exact quiet2 (less_c _ _ _)))
          go_wp2_with fail
          go_ret
          exact ⟨i, rfl, by omega, by omega, hkB.out.drewN _, d2, hhB.out.drewN _, hp, hv, hpB.out.left, fun k h1 h2 => hpB.out.right k (by omega) h2⟩

set_option maxRecDepth 100000 in
set_option maxHeartbeats 4000000 in
theorem part_c (blk off n cap a b p : Nat) (d : Nat → Int) (w : World) (h : Hold w blk off n d) (hap : a ≤ p) (hpb : p < b) (hb : b ≤ n) (hn : n ≤ 65536) :
    Calls Try.prog 35 #[.slice (some ⟨blk, off, none⟩) n cap, .int .i64 a, .int .i64 b, .int .i64 p] w (PPar a b blk off n d w) := by
  have H0 : Hid (Hold w blk off n d) := h
  obtain ⟨x, hx⟩ : ∃ x, x = d a := ⟨_, rfl⟩
  obtain ⟨y, hy⟩ : ∃ y, y = d p := ⟨_, rfl⟩
  have c1 : w.cell? ⟨blk, off + a, none⟩ = some (.int .u64 x) := by rw [hx]; exact h.cell a (by omega)
  have c2 : w.cell? ⟨blk, off + p, none⟩ = some (.int .u64 y) := by rw [hy]; exact h.cell p (by omega)
  have f1 := h.loose a (by omega)
  have f2 := h.loose p (by omega)
  obtain ⟨v', hv'⟩ := cell?_setCell_some (w := w) (p := ⟨blk, off + a, none⟩) (x := .int .u64 y) (q := ⟨blk, off + p, none⟩) (v := .int .u64 y) c2
  have HX : Hid (x = d a) := hx
  have HY : Hid (y = d p) := hy
  have na : (a : Int) < n := by omega
  have np : (p : Int) < n := by omega
  clear hx hy h
  obtain ⟨jo, hjo⟩ : ∃ jo : Nat, b = jo + 1 := ⟨b - 1, by omega⟩
  have ejo : (b : Int) - 1 = jo := by omega
  have hjo1 : b ≤ jo + 1 := by omega
  have hjo2 : jo + 1 ≤ b := by omega
  clear hjo
  go_enter Try.func35, Try.ntmps35
  go_wp2_with fail
  go_region
  have K1 : Hid (Keep blk off n w ((w.setCell ⟨blk, off + a, none⟩ (.int .u64 y)).setCell ⟨blk, off + p, none⟩ (.int .u64 x)).drew) := ((Keep.refl _ _ _ _).sw a p (by omega) (by omega) _ _).drew
  have H1 : Hid (Hold ((w.setCell ⟨blk, off + a, none⟩ (.int .u64 y)).setCell ⟨blk, off + p, none⟩ (.int .u64 x)).drew blk off n (Fin.sw d a p)) := (H0.out.sw a p (by omega) (by omega) HY.out HX.out).drew
  have P1 : Hid (Perm a b d (Fin.sw d a p)) := Perm.sw _ _ _ (by omega) (by omega) (by omega) (by omega)
  have V1 : Hid (Fin.sw d a p a = d p) := sw_fst _ _ _
  generalize ((w.setCell ⟨blk, off + a, none⟩ (.int .u64 y)).setCell ⟨blk, off + p, none⟩ (.int .u64 x)).drew = w1 at K1 H1 ⊢
  generalize Fin.sw d a p = d1 at H1 P1 V1
  clear c1 c2 f1 f2 hv' H0 HX HY
  have hp := P1
  have PP : Hid (Part a b (a + 1) jo d1) := Part.start d1 (by omega) hjo1 hjo2
  clear V1 P1
  go_wp2_with fail
  go_loopw [10] (fun iv wq => ∃ (i : Nat), iv = .int .i64 i ∧ a < i ∧ i ≤ jo + 1 ∧ Hid (Keep blk off n w wq) ∧ Hid (Hold wq blk off n d1) ∧ Hid (Part a b i jo d1)) (fun iv _ => jo + 1 - (intOf iv).toNat)
  case atStart => exact ⟨a + 1, by go_num, by omega, by omega, K1, H1, PP⟩
  case round =>
    obtain ⟨i, rfl, hai, hij1, hkA, hhA, hpA⟩ := hrel
    clear K1 H1 PP
    by_cases hij : i ≤ jo
    · have dij : decide (i ≤ jo) = true := decide_eq_true hij
      have dij' : decide ((i : Int) ≤ jo) = true := decide_eq_true (by omega)
      obtain ⟨xa, hxa⟩ : ∃ x, x = d1 a := ⟨_, rfl⟩
      have cxa : wr.cell? ⟨blk, off + a, none⟩ = some (.int .u64 xa) := by rw [hxa]; exact hhA.out.cell a (by omega)
      have fxa : wr.frozen? ⟨blk, off + a, none⟩ = false := hhA.out.loose a (by omega)
      have Exa : Hid (xa = d1 a) := hxa
      have nxa : (a : Int) < n := by omega
      clear hxa
      obtain ⟨xi, hxi⟩ : ∃ x, x = d1 i := ⟨_, rfl⟩
      have cxi : wr.cell? ⟨blk, off + i, none⟩ = some (.int .u64 xi) := by rw [hxi]; exact hhA.out.cell i (by omega)
      have fxi : wr.frozen? ⟨blk, off + i, none⟩ = false := hhA.out.loose i (by omega)
      have Exi : Hid (xi = d1 i) := hxi
      have nxi : (i : Int) < n := by omega
      clear hxi
      by_cases hl : xi < xa
      · have t1 : decide (xi < xa) = true := decide_eq_true hl
        have HN : Hid (Part a b (i + 1) jo d1) := hpA.out.up hij (by rw [← Exi.out, ← Exa.out]; exact hl)
        go_wp2_with fail
        go_quiet ((go_at_call 33; first | exact Calls.quiet_of_same (less_c _ _ _) | exact quiet2 (less_c _ _ _)))
        go_wp2_with fail
        go_roundw
        case rel => exact ⟨i + 1, by go_num, by omega, by omega, hkA.out.drewN _, hhA.out.drewN _, HN⟩
        case measure => simp [intOf]; omega

      · have t1 : decide (xi < xa) = false := decide_eq_false hl
        have ST : Hid (¬ d1 i < d1 a) := by rw [← Exi.out, ← Exa.out]; exact hl
        go_wp2_with fail
        go_quiet ((go_at_call 33; first | exact Calls.quiet_of_same (less_c _ _ _) | exact quiet2 (less_c _ _ _)))
        go_wp2_with fail
        have KA : Hid (Keep blk off n w (wr.drewN nq)) := hkA.out.drewN _
        have HA : Hid (Hold (wr.drewN nq) blk off n d1) := hhA.out.drewN _
        have PA := hpA
        clear hkA hhA hpA cxa fxa cxi fxi t1 hl Exa nxa dij dij' hij
        go_loopw [11] (fun jv wq => ∃ (j : Nat), jv = .int .i64 j ∧ j ≤ jo ∧ i ≤ j + 1 ∧ j < b ∧ Hid (Keep blk off n w wq) ∧ Hid (Hold wq blk off n d1) ∧ Hid (Part a b i j d1)) (fun jv _ => (intOf jv).toNat)
        case atStart => exact ⟨jo, rfl, by omega, by omega, by omega, KA, HA, PA⟩
        case round =>
          obtain ⟨j, rfl, hjo, hij1, hjb, hkB, hhB, hpB⟩ := hrel
          clear KA HA PA
          by_cases hijB : i ≤ j
          · have dij : decide (i ≤ j) = true := decide_eq_true hijB
            have dij' : decide ((i : Int) ≤ j) = true := decide_eq_true (by omega)
            obtain ⟨xa, hxa⟩ : ∃ x, x = d1 a := ⟨_, rfl⟩
            have cxa : wr.cell? ⟨blk, off + a, none⟩ = some (.int .u64 xa) := by rw [hxa]; exact hhB.out.cell a (by omega)
            have fxa : wr.frozen? ⟨blk, off + a, none⟩ = false := hhB.out.loose a (by omega)
            have Exa : Hid (xa = d1 a) := hxa
            have nxa : (a : Int) < n := by omega
            clear hxa
            obtain ⟨xj, hxj⟩ : ∃ x, x = d1 j := ⟨_, rfl⟩
            have cxj : wr.cell? ⟨blk, off + j, none⟩ = some (.int .u64 xj) := by rw [hxj]; exact hhB.out.cell j (by omega)
            have fxj : wr.frozen? ⟨blk, off + j, none⟩ = false := hhB.out.loose j (by omega)
            have Exj : Hid (xj = d1 j) := hxj
            have nxj : (j : Int) < n := by omega
            clear hxj
            by_cases hl : xj < xa
            · have t1 : decide (xj < xa) = true := decide_eq_true hl
              have PS : Hid (Part a b (i + 1) (j - 1) (Fin.sw d1 i j)) := hpB.out.swap hijB (by have := ST.out; omega) (by rw [← Exj.out, ← Exa.out]; exact hl)
              have cxi : wr.cell? ⟨blk, off + i, none⟩ = some (.int .u64 xi) := by rw [Exi.out]; exact hhB.out.cell i (by omega)
              have fxi : wr.frozen? ⟨blk, off + i, none⟩ = false := hhB.out.loose i (by omega)
              have hne : i < j := by
                rcases Nat.lt_or_ge i j with h | h
                · exact h
                · exfalso
                  have e : i = j := by omega
                  have h1 := ST.out
                  have h2 := Exj.out
                  have h3 := Exa.out
                  rw [e, ← h2, ← h3] at h1
                  omega
              have dji : decide (j < i) = false := decide_eq_false (by omega)
              have dji' : decide ((j : Int) < i) = false := decide_eq_false (by omega)
              go_wp2_with fail
              go_quiet ((go_at_call 33; first | exact Calls.quiet_of_same (less_c _ _ _) | exact quiet2 (less_c _ _ _)))
              go_wp2_with fail
              go_region
              have K2 : Hid (Keep blk off n w (((wr.drewN (nq + 1)).setCell ⟨blk, off + i, none⟩ (.int .u64 xj)).setCell ⟨blk, off + j, none⟩ (.int .u64 xi))) := (hkB.out.drewN _).sw i j (by omega) (by omega) _ _
              have H2 : Hid (Hold (((wr.drewN (nq + 1)).setCell ⟨blk, off + i, none⟩ (.int .u64 xj)).setCell ⟨blk, off + j, none⟩ (.int .u64 xi)) blk off n (Fin.sw d1 i j)) := (hhB.out.drewN _).sw i j (by omega) (by omega) Exj.out Exi.out
              have P2 : Hid (Perm a b d (Fin.sw d1 i j)) := hp.out.trans (Perm.sw _ _ _ (by omega) (by omega) (by omega) (by omega))
              generalize ((wr.drewN (nq + 1)).setCell ⟨blk, off + i, none⟩ (.int .u64 xj)).setCell ⟨blk, off + j, none⟩ (.int .u64 xi) = w2 at K2 H2 ⊢
              generalize Fin.sw d1 i j = d3 at H2 P2 PS
              clear hkB hhB hpB hp Exi Exj Exa ST cxi cxj cxa fxi fxj fxa hl t1
              go_wp2_with fail
              go_loopw [10, 11] (fun iv jv wq => ∃ (i j : Nat) (d2 : Nat → Int), iv = .int .i64 i ∧ jv = .int .i64 j ∧ a < i ∧ i ≤ j + 1 ∧ j < b ∧ Hid (Keep blk off n w wq) ∧ Hid (Hold wq blk off n d2) ∧ Hid (Perm a b d d2) ∧ Hid (Part a b i j d2)) (fun _ jv _ => (intOf jv).toNat)
              case atStart => exact ⟨i + 1, j - 1, d3, by go_num, by congr 1; omega, by omega, by omega, by omega, K2, H2, P2, PS⟩
              case round =>
                obtain ⟨i0, j0, d2, rfl, rfl, hai0, hij0, hjb0, hk2, hh2, hp, hpp⟩ := hrel
                clear K2 H2 P2 PS
                go_wp2_with fail
                go_loopw [10] (fun iv wq => ∃ (i : Nat), iv = .int .i64 i ∧ a < i ∧ i ≤ j0 + 1 ∧ Hid (Keep blk off n w wq) ∧ Hid (Hold wq blk off n d2) ∧ Hid (Part a b i j0 d2)) (fun iv _ => j0 + 1 - (intOf iv).toNat)
                case atStart => exact ⟨i0, rfl, by omega, by omega, hk2, hh2, hpp⟩
                case round =>
                  obtain ⟨i, rfl, hai, hij1, hkA, hhA, hpA⟩ := hrel
                  clear hk2 hh2 hpp
                  by_cases hij : i ≤ j0
                  · have dij : decide (i ≤ j0) = true := decide_eq_true hij
                    have dij' : decide ((i : Int) ≤ j0) = true := decide_eq_true (by omega)
                    obtain ⟨xa, hxa⟩ : ∃ x, x = d2 a := ⟨_, rfl⟩
                    have cxa : wr.cell? ⟨blk, off + a, none⟩ = some (.int .u64 xa) := by rw [hxa]; exact hhA.out.cell a (by omega)
                    have fxa : wr.frozen? ⟨blk, off + a, none⟩ = false := hhA.out.loose a (by omega)
                    have Exa : Hid (xa = d2 a) := hxa
                    have nxa : (a : Int) < n := by omega
                    clear hxa
                    obtain ⟨xi, hxi⟩ : ∃ x, x = d2 i := ⟨_, rfl⟩
                    have cxi : wr.cell? ⟨blk, off + i, none⟩ = some (.int .u64 xi) := by rw [hxi]; exact hhA.out.cell i (by omega)
                    have fxi : wr.frozen? ⟨blk, off + i, none⟩ = false := hhA.out.loose i (by omega)
                    have Exi : Hid (xi = d2 i) := hxi
                    have nxi : (i : Int) < n := by omega
                    clear hxi
                    by_cases hl : xi < xa
                    · have t1 : decide (xi < xa) = true := decide_eq_true hl
                      have HN : Hid (Part a b (i + 1) j0 d2) := hpA.out.up hij (by rw [← Exi.out, ← Exa.out]; exact hl)
                      go_wp2_with fail
                      go_quiet ((go_at_call 33; first | exact Calls.quiet_of_same (less_c _ _ _) | exact quiet2 (less_c _ _ _)))
                      go_wp2_with fail
                      go_roundw
                      case rel => exact ⟨i + 1, by go_num, by omega, by omega, hkA.out.drewN _, hhA.out.drewN _, HN⟩
                      case measure => simp [intOf]; omega

                    · have t1 : decide (xi < xa) = false := decide_eq_false hl
                      have ST : Hid (¬ d2 i < d2 a) := by rw [← Exi.out, ← Exa.out]; exact hl
                      go_wp2_with fail
                      go_quiet ((go_at_call 33; first | exact Calls.quiet_of_same (less_c _ _ _) | exact quiet2 (less_c _ _ _)))
                      go_wp2_with fail
                      have KA : Hid (Keep blk off n w (wr.drewN nq)) := hkA.out.drewN _
                      have HA : Hid (Hold (wr.drewN nq) blk off n d2) := hhA.out.drewN _
                      have PA := hpA
                      clear hkA hhA hpA cxa fxa cxi fxi t1 hl Exa nxa dij dij' hij
                      go_loopw [11] (fun jv wq => ∃ (j : Nat), jv = .int .i64 j ∧ j ≤ j0 ∧ i ≤ j + 1 ∧ j < b ∧ Hid (Keep blk off n w wq) ∧ Hid (Hold wq blk off n d2) ∧ Hid (Part a b i j d2)) (fun jv _ => (intOf jv).toNat)
                      case atStart => exact ⟨j0, rfl, by omega, by omega, by omega, KA, HA, PA⟩
                      case round =>
                        obtain ⟨j, rfl, hjo, hij1, hjb, hkB, hhB, hpB⟩ := hrel
                        clear KA HA PA
                        by_cases hijB : i ≤ j
                        · have dij : decide (i ≤ j) = true := decide_eq_true hijB
                          have dij' : decide ((i : Int) ≤ j) = true := decide_eq_true (by omega)
                          obtain ⟨xa, hxa⟩ : ∃ x, x = d2 a := ⟨_, rfl⟩
                          have cxa : wr.cell? ⟨blk, off + a, none⟩ = some (.int .u64 xa) := by rw [hxa]; exact hhB.out.cell a (by omega)
                          have fxa : wr.frozen? ⟨blk, off + a, none⟩ = false := hhB.out.loose a (by omega)
                          have Exa : Hid (xa = d2 a) := hxa
                          have nxa : (a : Int) < n := by omega
                          clear hxa
                          obtain ⟨xj, hxj⟩ : ∃ x, x = d2 j := ⟨_, rfl⟩
                          have cxj : wr.cell? ⟨blk, off + j, none⟩ = some (.int .u64 xj) := by rw [hxj]; exact hhB.out.cell j (by omega)
                          have fxj : wr.frozen? ⟨blk, off + j, none⟩ = false := hhB.out.loose j (by omega)
                          have Exj : Hid (xj = d2 j) := hxj
                          have nxj : (j : Int) < n := by omega
                          clear hxj
                          by_cases hl : xj < xa
                          · have t1 : decide (xj < xa) = true := decide_eq_true hl
                            have PS : Hid (Part a b (i + 1) (j - 1) (Fin.sw d2 i j)) := hpB.out.swap hijB (by have := ST.out; omega) (by rw [← Exj.out, ← Exa.out]; exact hl)
                            have cxi : wr.cell? ⟨blk, off + i, none⟩ = some (.int .u64 xi) := by rw [Exi.out]; exact hhB.out.cell i (by omega)
                            have fxi : wr.frozen? ⟨blk, off + i, none⟩ = false := hhB.out.loose i (by omega)
                            have hne : i < j := by
                              rcases Nat.lt_or_ge i j with h | h
                              · exact h
                              · exfalso
                                have e : i = j := by omega
                                have h1 := ST.out
                                have h2 := Exj.out
                                have h3 := Exa.out
                                rw [e, ← h2, ← h3] at h1
                                omega
                            have dji : decide (j < i) = false := decide_eq_false (by omega)
                            have dji' : decide ((j : Int) < i) = false := decide_eq_false (by omega)
                            go_wp2_with fail
                            go_quiet ((go_at_call 33; first | exact Calls.quiet_of_same (less_c _ _ _) | exact quiet2 (less_c _ _ _)))
                            go_wp2_with fail
                            go_region
                            go_wp2_with fail
                            go_roundw
                            case rel =>
                              exact ⟨i + 1, j - 1, Fin.sw d2 i j, by go_num, by congr 1; omega, by omega, by omega, by omega, (hkB.out.drewN _).sw i j (by omega) (by omega) _ _, (hhB.out.drewN _).sw i j (by omega) (by omega) Exj.out Exi.out,
                                hp.out.trans (Perm.sw _ _ _ (by omega) (by omega) (by omega) (by omega)), PS⟩
                            case measure => simp [intOf]; omega

                          · have t1 : decide (xj < xa) = false := decide_eq_false hl
                            have HN : Hid (Part a b i (j - 1) d2) := hpB.out.down hijB (by rw [← Exj.out, ← Exa.out]; exact hl)
                            go_wp2_with fail
                            go_quiet ((go_at_call 33; first | exact Calls.quiet_of_same (less_c _ _ _) | exact quiet2 (less_c _ _ _)))
                            go_wp2_with fail
                            go_roundw
                            case rel => exact ⟨j - 1, by congr 1; omega, by omega, by omega, by omega, hkB.out.drewN _, hhB.out.drewN _, HN⟩
                            case measure => simp [intOf]; omega

                        · have hij : ¬ i ≤ j := hijB
                          have dij : decide (i ≤ j) = false := decide_eq_false hij
                          have dij' : decide ((i : Int) ≤ j) = false := decide_eq_false (by omega)
                          go_wp2_with fail
                          go_quiet ((go_at_call 33; first | exact Calls.quiet_of_same (less_c _ _ _) | exact quiet2 (less_c _ _ _)))
                          go_wp2_with fail
                          obtain ⟨xa', hxa'⟩ : ∃ x, x = d2 a := ⟨_, rfl⟩
                          obtain ⟨xj', hxj'⟩ : ∃ x, x = d2 j := ⟨_, rfl⟩
                          have ca' : wr.cell? ⟨blk, off + a, none⟩ = some (.int .u64 xa') := by rw [hxa']; exact hhB.out.cell a (by omega)
                          have cj' : wr.cell? ⟨blk, off + j, none⟩ = some (.int .u64 xj') := by rw [hxj']; exact hhB.out.cell j (by omega)
                          have fa' : wr.frozen? ⟨blk, off + a, none⟩ = false := hhB.out.loose a (by omega)
                          have fj' : wr.frozen? ⟨blk, off + j, none⟩ = false := hhB.out.loose j (by omega)
                          have EA' : Hid (xa' = d2 a) := hxa'
                          have EJ' : Hid (xj' = d2 j) := hxj'
                          have na' : (a : Int) < n := by omega
                          have nj' : (j : Int) < n := by omega
                          clear hxa' hxj'
                          obtain ⟨v', hv'⟩ := cell?_setCell_some (w := wr.drewN (nq + 1)) (p := ⟨blk, off + j, none⟩) (x := .int .u64 xa') (q := ⟨blk, off + a, none⟩) (v := .int .u64 xa') ca'
                          go_region
                          go_wp2_with fail
                          go_ret2
                          exact ⟨j, false, rfl, (hkB.out.drewN _).sw j a (by omega) (by omega) _ _, Fin.sw d2 j a, (hhB.out.drewN _).sw j a (by omega) (by omega) EA'.out EJ'.out, hp.out.trans (Perm.sw _ _ _ (by omega) (by omega) (by omega) (by omega)), hpB.out.done hij⟩

                  · have dij : decide (i ≤ j0) = false := decide_eq_false hij
                    have dij' : decide ((i : Int) ≤ j0) = false := decide_eq_false (by omega)
                    go_wp2_with fail
                    go_quiet ((go_at_call 33; first | exact Calls.quiet_of_same (less_c _ _ _) | exact quiet2 (less_c _ _ _)))
                    go_wp2_with fail
                    have KA : Hid (Keep blk off n w (wr.drewN nq)) := hkA.out.drewN _
                    have HA : Hid (Hold (wr.drewN nq) blk off n d2) := hhA.out.drewN _
                    have PA := hpA
                    clear hkA hhA hpA dij dij'
                    go_loopw [11] (fun jv wq => ∃ (j : Nat), jv = .int .i64 j ∧ j ≤ j0 ∧ i ≤ j + 1 ∧ j < b ∧ Hid (Keep blk off n w wq) ∧ Hid (Hold wq blk off n d2) ∧ Hid (Part a b i j d2) ∧ ¬ i ≤ j) (fun jv _ => (intOf jv).toNat)
                    case atStart => exact ⟨j0, rfl, by omega, by omega, by omega, KA, HA, PA, hij⟩
                    case round =>
                      obtain ⟨j, rfl, hjo, hij1, hjb, hkB, hhB, hpB, hij2⟩ := hrel
                      clear KA HA PA
                      clear hij
                      have hij := hij2
                      clear hij2
                      have dij : decide (i ≤ j) = false := decide_eq_false hij
                      have dij' : decide ((i : Int) ≤ j) = false := decide_eq_false (by omega)
                      go_wp2_with fail
                      go_quiet ((go_at_call 33; first | exact Calls.quiet_of_same (less_c _ _ _) | exact quiet2 (less_c _ _ _)))
                      go_wp2_with fail
                      obtain ⟨xa', hxa'⟩ : ∃ x, x = d2 a := ⟨_, rfl⟩
                      obtain ⟨xj', hxj'⟩ : ∃ x, x = d2 j := ⟨_, rfl⟩
                      have ca' : wr.cell? ⟨blk, off + a, none⟩ = some (.int .u64 xa') := by rw [hxa']; exact hhB.out.cell a (by omega)
                      have cj' : wr.cell? ⟨blk, off + j, none⟩ = some (.int .u64 xj') := by rw [hxj']; exact hhB.out.cell j (by omega)
                      have fa' : wr.frozen? ⟨blk, off + a, none⟩ = false := hhB.out.loose a (by omega)
                      have fj' : wr.frozen? ⟨blk, off + j, none⟩ = false := hhB.out.loose j (by omega)
                      have EA' : Hid (xa' = d2 a) := hxa'
                      have EJ' : Hid (xj' = d2 j) := hxj'
                      have na' : (a : Int) < n := by omega
                      have nj' : (j : Int) < n := by omega
                      clear hxa' hxj'
                      obtain ⟨v', hv'⟩ := cell?_setCell_some (w := wr.drewN (nq + 1)) (p := ⟨blk, off + j, none⟩) (x := .int .u64 xa') (q := ⟨blk, off + a, none⟩) (v := .int .u64 xa') ca'
                      go_region
                      go_wp2_with fail
                      go_ret2
                      exact ⟨j, false, rfl, (hkB.out.drewN _).sw j a (by omega) (by omega) _ _, Fin.sw d2 j a, (hhB.out.drewN _).sw j a (by omega) (by omega) EA'.out EJ'.out, hp.out.trans (Perm.sw _ _ _ (by omega) (by omega) (by omega) (by omega)), hpB.out.done hij⟩

            · have t1 : decide (xj < xa) = false := decide_eq_false hl
              have HN : Hid (Part a b i (j - 1) d1) := hpB.out.down hijB (by rw [← Exj.out, ← Exa.out]; exact hl)
              go_wp2_with fail
              go_quiet ((go_at_call 33; first | exact Calls.quiet_of_same (less_c _ _ _) | exact quiet2 (less_c _ _ _)))
              go_wp2_with fail
              go_roundw
              case rel => exact ⟨j - 1, by congr 1; omega, by omega, by omega, by omega, hkB.out.drewN _, hhB.out.drewN _, HN⟩
              case measure => simp [intOf]; omega

          · have hij : ¬ i ≤ j := hijB
            have dij : decide (i ≤ j) = false := decide_eq_false hij
            have dij' : decide ((i : Int) ≤ j) = false := decide_eq_false (by omega)
            go_wp2_with fail
            go_quiet ((go_at_call 33; first | exact Calls.quiet_of_same (less_c _ _ _) | exact quiet2 (less_c _ _ _)))
            go_wp2_with fail
            obtain ⟨xa', hxa'⟩ : ∃ x, x = d1 a := ⟨_, rfl⟩
            obtain ⟨xj', hxj'⟩ : ∃ x, x = d1 j := ⟨_, rfl⟩
            have ca' : wr.cell? ⟨blk, off + a, none⟩ = some (.int .u64 xa') := by rw [hxa']; exact hhB.out.cell a (by omega)
            have cj' : wr.cell? ⟨blk, off + j, none⟩ = some (.int .u64 xj') := by rw [hxj']; exact hhB.out.cell j (by omega)
            have fa' : wr.frozen? ⟨blk, off + a, none⟩ = false := hhB.out.loose a (by omega)
            have fj' : wr.frozen? ⟨blk, off + j, none⟩ = false := hhB.out.loose j (by omega)
            have EA' : Hid (xa' = d1 a) := hxa'
            have EJ' : Hid (xj' = d1 j) := hxj'
            have na' : (a : Int) < n := by omega
            have nj' : (j : Int) < n := by omega
            clear hxa' hxj'
            obtain ⟨v', hv'⟩ := cell?_setCell_some (w := wr.drewN (nq + 1)) (p := ⟨blk, off + j, none⟩) (x := .int .u64 xa') (q := ⟨blk, off + a, none⟩) (v := .int .u64 xa') ca'
            go_region
            go_wp2_with fail
            go_ret2
            exact ⟨j, true, rfl, (hkB.out.drewN _).sw j a (by omega) (by omega) _ _, Fin.sw d1 j a, (hhB.out.drewN _).sw j a (by omega) (by omega) EA'.out EJ'.out, hp.out.trans (Perm.sw _ _ _ (by omega) (by omega) (by omega) (by omega)), hpB.out.done hij⟩

    · have dij : decide (i ≤ jo) = false := decide_eq_false hij
      have dij' : decide ((i : Int) ≤ jo) = false := decide_eq_false (by omega)
      go_wp2_with fail
      go_quiet ((go_at_call 33; first | exact Calls.quiet_of_same (less_c _ _ _) | exact quiet2 (less_c _ _ _)))
      go_wp2_with fail
      have KA : Hid (Keep blk off n w (wr.drewN nq)) := hkA.out.drewN _
      have HA : Hid (Hold (wr.drewN nq) blk off n d1) := hhA.out.drewN _
      have PA := hpA
      clear hkA hhA hpA dij dij'
      go_loopw [11] (fun jv wq => ∃ (j : Nat), jv = .int .i64 j ∧ j ≤ jo ∧ i ≤ j + 1 ∧ j < b ∧ Hid (Keep blk off n w wq) ∧ Hid (Hold wq blk off n d1) ∧ Hid (Part a b i j d1) ∧ ¬ i ≤ j) (fun jv _ => (intOf jv).toNat)
      case atStart => exact ⟨jo, rfl, by omega, by omega, by omega, KA, HA, PA, hij⟩
      case round =>
        obtain ⟨j, rfl, hjo, hij1, hjb, hkB, hhB, hpB, hij2⟩ := hrel
        clear KA HA PA
        clear hij
        have hij := hij2
        clear hij2
        have dij : decide (i ≤ j) = false := decide_eq_false hij
        have dij' : decide ((i : Int) ≤ j) = false := decide_eq_false (by omega)
        go_wp2_with fail
        go_quiet ((go_at_call 33; first | exact Calls.quiet_of_same (less_c _ _ _) | exact quiet2 (less_c _ _ _)))
        go_wp2_with fail
        obtain ⟨xa', hxa'⟩ : ∃ x, x = d1 a := ⟨_, rfl⟩
        obtain ⟨xj', hxj'⟩ : ∃ x, x = d1 j := ⟨_, rfl⟩
        have ca' : wr.cell? ⟨blk, off + a, none⟩ = some (.int .u64 xa') := by rw [hxa']; exact hhB.out.cell a (by omega)
        have cj' : wr.cell? ⟨blk, off + j, none⟩ = some (.int .u64 xj') := by rw [hxj']; exact hhB.out.cell j (by omega)
        have fa' : wr.frozen? ⟨blk, off + a, none⟩ = false := hhB.out.loose a (by omega)
        have fj' : wr.frozen? ⟨blk, off + j, none⟩ = false := hhB.out.loose j (by omega)
        have EA' : Hid (xa' = d1 a) := hxa'
        have EJ' : Hid (xj' = d1 j) := hxj'
        have na' : (a : Int) < n := by omega
        have nj' : (j : Int) < n := by omega
        clear hxa' hxj'
        obtain ⟨v', hv'⟩ := cell?_setCell_some (w := wr.drewN (nq + 1)) (p := ⟨blk, off + j, none⟩) (x := .int .u64 xa') (q := ⟨blk, off + a, none⟩) (v := .int .u64 xa') ca'
        go_region
        go_wp2_with fail
        go_ret2
        exact ⟨j, true, rfl, (hkB.out.drewN _).sw j a (by omega) (by omega) _ _, Fin.sw d1 j a, (hhB.out.drewN _).sw j a (by omega) (by omega) EA'.out EJ'.out, hp.out.trans (Perm.sw _ _ _ (by omega) (by omega) (by omega) (by omega)), hpB.out.done hij⟩

end Go.Proofs.Qxb6601408a.Fin
