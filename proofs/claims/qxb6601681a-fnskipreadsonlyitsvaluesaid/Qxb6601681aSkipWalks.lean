/-
  The walks of (*cursor).passString, (*cursor).skip and ZZSkip.
-/
import Derived.Test.Qxb6601681aRows
import Derived.Test.Qxb6601681aSkipPlain
import Derived.WalkKit
import Derived.WalkSpells
import Derived.WalkLawsBesides
import Derived.Deep.QuietTactic
import Derived.BigQuiet
namespace Go.Proofs.Qxb6601681a.Skip
open Go.RowKit

/-- w' is w with at most the one cell c written. -/
structure Touch (c : Addr) (w w' : World) : Prop where
  os : w'.os = w.os
  tape : w'.tape = w.tape
  output : w'.output = w.output
  size : w'.heap.size = w.heap.size
  block : ∀ k, k ≠ c.block → w'.heap[k]? = w.heap[k]?
  cell : ∀ a, c ≠ a → w'.cell? a = w.cell? a
  frozen : ∀ a, w'.frozen? a = w.frozen? a

theorem Touch.refl (c : Addr) (w : World) : Touch c w w := ⟨rfl, rfl, rfl, rfl, fun _ _ => rfl, fun _ _ => rfl, fun _ => rfl⟩
theorem Touch.drewN {c : Addr} {a w : World} (h : Touch c a w) (n : Nat) : Touch c a (w.drewN n) := ⟨h.os, h.tape, h.output, h.size, h.block, h.cell, h.frozen⟩
theorem Touch.trans {c : Addr} {u v w : World} (h : Touch c u v) (k : Touch c v w) : Touch c u w :=
  ⟨k.os.trans h.os, k.tape.trans h.tape, k.output.trans h.output, k.size.trans h.size, fun i hi => (k.block i hi).trans (h.block i hi), fun a ha => (k.cell a ha).trans (h.cell a ha), fun a => (k.frozen a).trans (h.frozen a)⟩
theorem Touch.setCell {c : Addr} {a w : World} (h : Touch c a w) (v : Value) : Touch c a (w.setCell c v) :=
  h.trans ⟨rfl, rfl, rfl, by simp [World.setCell], fun k hk => Below.heap_setCell _ _ _ _ hk, fun x hx => World.cell?_setCell_other _ _ _ _ hx, fun x => World.frozen?_setCell _ _ _ _⟩
theorem Touch.below {c : Addr} {w w' : World} (h : Touch c w w') {B : Nat} (hB : B ≤ c.block) : Below B w w' :=
  ⟨h.os, h.tape, h.output, Nat.le_of_eq h.size.symm, fun k hk => h.block k (by omega)⟩

/-- what the cursor at block cb, its text and its place look like -/
structure Cur (w : World) (cb b off n cap p : Nat) : Prop where
  text : w.cell? ⟨cb, 0, none⟩ = some (.slice (some ⟨b, off, none⟩) n cap)
  at_ : w.cell? ⟨cb, 1, none⟩ = some (.int .i64 p)
  loose : w.frozen? ⟨cb, 1, none⟩ = false
  apart : b ≠ cb
  len : n ≤ cap
  fits : cap ≤ 9223372036854775807

theorem Cur.drewN {w : World} {cb b off n cap p : Nat} (h : Cur w cb b off n cap p) (k : Nat) : Cur (w.drewN k) cb b off n cap p := ⟨h.text, h.at_, h.loose, h.apart, h.len, h.fits⟩
theorem Cur.moved {w w' : World} {cb b off n cap p p' : Nat} (h : Cur w cb b off n cap p) (ht : Touch ⟨cb, 1, none⟩ w w') (hp : w'.cell? ⟨cb, 1, none⟩ = some (.int .i64 p')) : Cur w' cb b off n cap p' :=
  ⟨by rw [ht.cell _ (by simp)]; exact h.text, hp, by rw [ht.frozen]; exact h.loose, h.apart, h.len, h.fits⟩
theorem Cur.ne {w : World} {cb b off n cap p : Nat} (h : Cur w cb b off n cap p) (i : Nat) : (⟨cb, 1, none⟩ : Addr) ≠ ⟨b, i, none⟩ := by
  intro e; injection e with e1; exact h.apart e1.symm

def placeOf (cb : Nat) (w : World) : Nat := (intOf ((w.cell? ⟨cb, 1, none⟩).getD (.int .i64 0))).toNat

theorem placeOf_eq {cb : Nat} {w : World} {p : Int} (h : w.cell? ⟨cb, 1, none⟩ = some (.int .i64 p)) : placeOf cb w = p.toNat := by
  unfold placeOf; rw [h]; rfl
theorem set_at {w : World} {c : Addr} {u v : Value} (h : w.cell? c = some u) (n : Nat) : ((w.drewN n).setCell c v).cell? c = some v := World.cell?_setCell_same _ _ _ (by exact h)
theorem set_at2 {w : World} {c : Addr} {u v v' : Value} (h : w.cell? c = some u) (n : Nat) : (((w.drewN n).setCell c v').setCell c v).cell? c = some v := World.cell?_setCell_same _ _ _ (set_at h n)

def Passed (cb q : Nat) (w : World) (e : Ending) (w' : World) : Prop :=
  (∃ v0 v1, e = .returned (.tuple #[v0, v1])) ∧ Touch ⟨cb, 1, none⟩ w w' ∧ w'.cell? ⟨cb, 1, none⟩ = some (.int .i64 q)

set_option maxHeartbeats 1000000 in
theorem pass_c (cb b off n cap p0 o t : Nat) (y : Nat → Int) (w : World) (hc : Cur w cb b off n cap (p0 + o))
    (hy : ∀ j, j < o + t + 2 → w.cell? ⟨b, off + (p0 + j), none⟩ = some (.int .u8 (y j))) (hn : p0 + (o + t + 2) ≤ n) (hs : StrClose y o t) :
    Calls Try.prog 26 #[.pointer (some ⟨cb, 0, none⟩)] w (Passed cb (p0 + o + t + 2) w) := by
  obtain ⟨h1, h2, h3, h4, h5, h6⟩ := hc
  have HY : Hid (∀ j, j < o + t + 2 → w.cell? ⟨b, off + (p0 + j), none⟩ = some (.int .u8 (y j))) := hy
  have HS : Hid (StrClose y o t) := hs
  clear hy hs
  go_enter Try.func26, Try.ntmps26
  go_wp2
  go_loopw [3] (fun _ wr => ∃ s p : Nat, s ≤ t ∧ Hid (p = p0 + (o + 1 + s)) ∧ Hid (runAt y o s % 2 = 0) ∧ Hid (Touch ⟨cb, 1, none⟩ w wr) ∧ wr.cell? ⟨cb, 1, none⟩ = some (.int .i64 p)) (fun _ wr => n - placeOf cb wr)
  case atStart =>
    exact ⟨0, p0 + (o + 1 + 0), Nat.zero_le _, rfl, rfl, (Touch.refl _ _).setCell _, by rw [World.cell?_setCell_same _ _ _ h2]; congr 2⟩
  case round =>
    obtain ⟨s, p, hs1, hp, hr, ht, hpc⟩ := hrel
    have g1 : wr.cell? ⟨cb, 0, none⟩ = some (.slice (some ⟨b, off, none⟩) n cap) := by rw [ht.out.cell _ (by simp)]; exact h1
    have g3 : wr.frozen? ⟨cb, 1, none⟩ = false := by rw [ht.out.frozen]; exact h3
    have hpl : p < n := by have := hp.out; omega
    have hpo : p0 + o < p := by have := hp.out; omega
    obtain ⟨c, hcv⟩ : ∃ c, c = y (o + 1 + s) := ⟨_, rfl⟩
    have hne : (⟨cb, 1, none⟩ : Addr) ≠ ⟨b, off + p, none⟩ := by intro h; injection h with e1; exact h4 e1.symm
    have g4 : wr.cell? ⟨b, off + p, none⟩ = some (.int .u8 c) := by
      rw [ht.out.cell _ hne, hp.out, hcv]; exact HY _ (by omega)
    have HC : Hid (c = y (o + 1 + s)) := hcv
    clear hcv hne h1 h2 h3
    by_cases hq : c = 34
    · have hq' : (c != 34) = false := by simp [hq]
      have HQ : Hid (c = 34) := hq
      clear hq
      go_wp2
      go_quiet (fail)
      go_wp2
      go_quiet (fail)
      go_wp2
      go_ret2
      have hst := HS.out.hit hs1 hr (by rw [← HC.out]; exact HQ)
      refine ⟨⟨_, _, rfl⟩, ((ht.out.drewN _).setCell _).drewN _, ?_⟩
      rw [World.cell?_drewN, set_at hpc]
      have := hp.out
      congr 2; omega
    · have hq' : (c != 34) = true := by simp [hq]
      have HQ : Hid (¬ c = 34) := hq
      clear hq
      have hlt : s < t := HS.out.lt hs1 (by rw [← HC.out]; exact HQ)
      by_cases he : c = 92
      · have he' : (c == 92) = true := by simp [he]
        have HE : Hid (c = 92) := he
        clear he
        have hst := HS.out.esc hs1 hr (by rw [← HC.out]; exact HE)
        have hb : p + 2 < n := by have := hp.out; omega
        go_wp2
        go_quiet (fail)
        go_wp2
        go_quiet (fail)
        go_wp2
        go_roundw
        case rel =>
          exact ⟨s + 2, p + 2, hst.1, by have := hp.out; show _ = _; omega, hst.2, ((ht.out.drewN _).setCell _).setCell _, by rw [set_at2 hpc]; congr 2⟩
        case measure => rw [placeOf_eq (set_at2 hpc _), placeOf_eq hpc]; omega
      · have he' : (c == 92) = false := by simp [he]
        have HE : Hid (¬ c = 92) := he
        clear he
        have hst := HS.out.other hs1 (by rw [← HC.out]; exact HQ) (by rw [← HC.out]; exact HE)
        have hb : p + 1 < n := by have := hp.out; omega
        go_wp2
        go_quiet (fail)
        go_wp2
        go_quiet (fail)
        go_wp2
        go_roundw
        case rel =>
          exact ⟨s + 1, p + 1, hst.1, by have := hp.out; show _ = _; omega, hst.2, (ht.out.drewN _).setCell _, by rw [set_at hpc]; congr 2⟩
        case measure => rw [placeOf_eq (set_at hpc _), placeOf_eq hpc]; omega

def Skipped (cb q : Nat) (w : World) (e : Ending) (w' : World) : Prop :=
  e = .returned (.tuple #[]) ∧ Touch ⟨cb, 1, none⟩ w w' ∧ w'.cell? ⟨cb, 1, none⟩ = some (.int .i64 q)

set_option maxHeartbeats 1000000 in
theorem skip_str (cb b off n cap p0 t : Nat) (y : Nat → Int) (w : World) (hc : Cur w cb b off n cap p0)
    (hy : ∀ j, j < t + 2 → w.cell? ⟨b, off + (p0 + j), none⟩ = some (.int .u8 (y j))) (hn : p0 + (t + 2) ≤ n) (h0 : y 0 = 34) (hs : StrClose y 0 t) :
    Calls Try.prog 28 #[.pointer (some ⟨cb, 0, none⟩)] w (Skipped cb (p0 + t + 2) w) := by
  have HC : Hid (Cur w cb b off n cap p0) := hc
  have g := hy 0 (by omega)
  rw [h0, Nat.add_zero] at g
  obtain ⟨h1, h2, h3, h4, h5, h6⟩ := hc
  have HY : Hid (∀ j, j < 0 + t + 2 → w.cell? ⟨b, off + (p0 + j), none⟩ = some (.int .u8 (y j))) := fun j hj => hy j (by omega)
  have HS : Hid (StrClose y 0 t) := hs
  clear hy hs h0
  have hlt : p0 < n := by omega
  go_enter Try.func28, Try.ntmps28
  go_wp2_with fail
  go_quiet (fail)
  go_wp2_with fail
  have hc' : Cur (w.drewN nq) cb b off n cap (p0 + 0) := HC.out.drewN _
  refine (pass_c cb b off n cap p0 0 t y _ hc' HY.out (by omega) HS).mono ?_
  rintro e w' ⟨⟨v0, v1, rfl⟩, ht, hp⟩
  go_wp2_with fail
  go_end0
  exact ⟨rfl, ((Touch.refl _ _).drewN _).trans ht, hp⟩

set_option maxHeartbeats 1000000 in
theorem skip_brk (cb b off n cap p0 M : Nat) (y : Nat → Int) (w : World) (hc : Cur w cb b off n cap p0)
    (hy : ∀ j, j < M + 1 → w.cell? ⟨b, off + (p0 + j), none⟩ = some (.int .u8 (y j))) (hn : p0 + (M + 1) ≤ n) (h0 : isOpen (y 0)) (hs : BrkEnd y M) :
    Calls Try.prog 28 #[.pointer (some ⟨cb, 0, none⟩)] w (Skipped cb (p0 + M + 1) w) := by
  have HC : Hid (Cur w cb b off n cap p0) := hc
  have g := hy 0 (by omega)
  rw [Nat.add_zero] at g
  obtain ⟨h1, h2, h3, h4, h5, h6⟩ := hc
  have HY : Hid (∀ j, j < M + 1 → w.cell? ⟨b, off + (p0 + j), none⟩ = some (.int .u8 (y j))) := hy
  have HS : Hid (BrkEnd y M) := hs
  have HO : Hid (isOpen (y 0)) := h0
  have hlt : p0 < n := by omega
  generalize hg0 : y 0 = c0 at g h0
  clear hy hs hg0
  have hc34 : (c0 == 34) = false := by simp; unfold isOpen at h0; omega
  by_cases hb : c0 = 123
  · subst hb
    go_enter Try.func28, Try.ntmps28
    go_wp2_with fail
    go_quiet (fail)
    go_wp2_with fail
    go_loopw [2] (fun dv wr => ∃ (m p : Nat) (d : Int), dv = .int .i64 d ∧ Hid (p = p0 + m) ∧ Hid (At y M m d) ∧ Hid (Touch ⟨cb, 1, none⟩ w wr) ∧ wr.cell? ⟨cb, 1, none⟩ = some (.int .i64 p) ∧ 0 ≤ d ∧ d ≤ m) (fun _ wr => n - placeOf cb wr)
    case atStart =>
      exact ⟨0, p0, 0, rfl, rfl, At.start HS, (Touch.refl _ _).drewN _, h2, by omega, by omega⟩
    case round =>
      obtain ⟨m, p, d, rfl, hp, HA, ht, hpc, hd0, hdm⟩ := hrel
      have hmM := HA.out.le.1
      have HK : Hid (Cur wr cb b off n cap p) := HC.out.moved ht.out hpc
      have g1 := HK.out.text
      have g3 := HK.out.loose
      have hpl : p < n := by have := hp.out; omega
      have hmn : m < n := by omega
      have hn63 : n ≤ 9223372036854775807 := by omega
      obtain ⟨c, hcv⟩ : ∃ c, c = y m := ⟨_, rfl⟩
      have g4 : wr.cell? ⟨b, off + p, none⟩ = some (.int .u8 c) := by
        rw [ht.out.cell _ (HC.out.ne _), hp.out, hcv]; exact HY _ (by omega)
      have HCV : Hid (c = y m) := hcv
      clear hcv h1 h2 h3 g
      by_cases h34 : c = 34
      · have t0 : (c == 34) = true := by simp [h34]
        obtain ⟨t, hst, hle, hat⟩ := HA.out.string HO (by rw [← HCV.out]; exact h34)
        have HST : Hid (StrClose y m t) := hst
        have HT : Hid (At y M (m + t + 2) d) := hat
        have HYT : Hid (∀ j, j < m + t + 2 → wr.cell? ⟨b, off + (p0 + j), none⟩ = some (.int .u8 (y j))) := fun j hj => by
          rw [ht.out.cell _ (HC.out.ne _)]; exact HY j (by omega)
        clear h34 hst hat
        go_wp2_with fail
        go_quiet (fail)
        go_wp2_with fail
        have hK : Cur (wr.drewN nq) cb b off n cap (p0 + m) := by rw [← hp.out]; exact HK.out.drewN _
        refine (pass_c cb b off n cap p0 m t y _ hK HYT.out (by omega) HST).mono ?_
        rintro e w' ⟨⟨v0, v1, rfl⟩, htp, hpp⟩
        have HTP : Hid (Touch ⟨cb, 1, none⟩ w w') := ht.out.trans (((Touch.refl _ _).drewN _).trans htp)
        clear hK htp g1 g3 g4
        go_wp2_with fail
        go_roundw
        case rel =>
          exact ⟨m + t + 2, p0 + m + t + 2, d, rfl, by show _ = _; omega, HT, HTP, hpp, hd0, by omega⟩
        case measure =>
          have := hp.out
          rw [placeOf_eq hpp, placeOf_eq hpc]; omega
      · have t0 : (c == 34) = false := by simp [h34]
        by_cases k1 : c = 123
        · have hdl : delta c = 1 := delta_open (by unfold isOpen; omega)
          have hpl2 := HA.out.plain HO (by rw [← HCV.out]; exact h34)
          rw [← HCV.out, hdl] at hpl2
          clear hdl
          have t1 : (c == 123) = true := by rw [k1]; rfl
          clear k1
          rcases hpl2 with ⟨hz, hm⟩ | ⟨hz, hm, hat⟩
          · have z1 : (d + 1 == 0) = true := by simp; omega
            have HZ : Hid (m = M) := hm
            clear hz hm
            go_wp2_with fail
            go_quiet (fail)
            go_wp2_with fail
            go_end0
            have e1 := hp.out
            have e2 := HZ.out
            refine ⟨rfl, (ht.out.drewN _).setCell _, ?_⟩
            rw [set_at hpc]
            congr 2; omega
          · have z1 : (d + 1 == 0) = false := by simp; omega
            have HZ : Hid (¬ d + 1 = 0) := hz
            have HT : Hid (At y M (m + 1) (d + 1)) := hat
            have HB := hat.le
            clear hz hat
            go_wp2_with fail
            go_quiet (fail)
            go_wp2_with fail
            go_roundw
            case rel =>
              exact ⟨m + 1, p + 1, d + 1, by go_num, by have := hp.out; show _ = _; omega, (by have := HT.out; rwa [show d + 1 = d + 1 from by omega] at this), (ht.out.drewN _).setCell _, by rw [set_at hpc]; congr 2, by omega, by omega⟩
            case measure => rw [placeOf_eq (set_at hpc _), placeOf_eq hpc]; omega
        · by_cases k2 : c = 91
          · have hdl : delta c = 1 := delta_open (by unfold isOpen; omega)
            have hpl2 := HA.out.plain HO (by rw [← HCV.out]; exact h34)
            rw [← HCV.out, hdl] at hpl2
            clear hdl
            clear k1
            have t1 : (c == 123) = false := by rw [k2]; rfl
            have t2 : (c == 91) = true := by rw [k2]; rfl
            clear k2
            rcases hpl2 with ⟨hz, hm⟩ | ⟨hz, hm, hat⟩
            · have z1 : (d + 1 == 0) = true := by simp; omega
              have HZ : Hid (m = M) := hm
              clear hz hm
              go_wp2_with fail
              go_quiet (fail)
              go_wp2_with fail
              go_end0
              have e1 := hp.out
              have e2 := HZ.out
              refine ⟨rfl, (ht.out.drewN _).setCell _, ?_⟩
              rw [set_at hpc]
              congr 2; omega
            · have z1 : (d + 1 == 0) = false := by simp; omega
              have HZ : Hid (¬ d + 1 = 0) := hz
              have HT : Hid (At y M (m + 1) (d + 1)) := hat
              have HB := hat.le
              clear hz hat
              go_wp2_with fail
              go_quiet (fail)
              go_wp2_with fail
              go_roundw
              case rel =>
                exact ⟨m + 1, p + 1, d + 1, by go_num, by have := hp.out; show _ = _; omega, (by have := HT.out; rwa [show d + 1 = d + 1 from by omega] at this), (ht.out.drewN _).setCell _, by rw [set_at hpc]; congr 2, by omega, by omega⟩
              case measure => rw [placeOf_eq (set_at hpc _), placeOf_eq hpc]; omega
          · by_cases k3 : c = 125
            · have hdl : delta c = -1 := delta_close (by unfold isClose; omega)
              have hpl2 := HA.out.plain HO (by rw [← HCV.out]; exact h34)
              rw [← HCV.out, hdl] at hpl2
              clear hdl
              clear k1 k2
              have t1 : (c == 123) = false := by rw [k3]; rfl
              have t2 : (c == 91) = false := by rw [k3]; rfl
              have t3 : (c == 125) = true := by rw [k3]; rfl
              clear k3
              rcases hpl2 with ⟨hz, hm⟩ | ⟨hz, hm, hat⟩
              · have z1 : (d - 1 == 0) = true := by simp; omega
                have HZ : Hid (m = M) := hm
                clear hz hm
                go_wp2_with fail
                go_quiet (fail)
                go_wp2_with fail
                go_end0
                have e1 := hp.out
                have e2 := HZ.out
                refine ⟨rfl, (ht.out.drewN _).setCell _, ?_⟩
                rw [set_at hpc]
                congr 2; omega
              · have z1 : (d - 1 == 0) = false := by simp; omega
                have HZ : Hid (¬ d + -1 = 0) := hz
                have HT : Hid (At y M (m + 1) (d + -1)) := hat
                have HB := hat.le
                clear hz hat
                go_wp2_with fail
                go_quiet (fail)
                go_wp2_with fail
                go_roundw
                case rel =>
                  exact ⟨m + 1, p + 1, d - 1, by go_num, by have := hp.out; show _ = _; omega, (by have := HT.out; rwa [show d + -1 = d - 1 from by omega] at this), (ht.out.drewN _).setCell _, by rw [set_at hpc]; congr 2, by omega, by omega⟩
                case measure => rw [placeOf_eq (set_at hpc _), placeOf_eq hpc]; omega
            · by_cases k4 : c = 93
              · have hdl : delta c = -1 := delta_close (by unfold isClose; omega)
                have hpl2 := HA.out.plain HO (by rw [← HCV.out]; exact h34)
                rw [← HCV.out, hdl] at hpl2
                clear hdl
                clear k1 k2 k3
                have t1 : (c == 123) = false := by rw [k4]; rfl
                have t2 : (c == 91) = false := by rw [k4]; rfl
                have t3 : (c == 125) = false := by rw [k4]; rfl
                have t4 : (c == 93) = true := by rw [k4]; rfl
                clear k4
                rcases hpl2 with ⟨hz, hm⟩ | ⟨hz, hm, hat⟩
                · have z1 : (d - 1 == 0) = true := by simp; omega
                  have HZ : Hid (m = M) := hm
                  clear hz hm
                  go_wp2_with fail
                  go_quiet (fail)
                  go_wp2_with fail
                  go_end0
                  have e1 := hp.out
                  have e2 := HZ.out
                  refine ⟨rfl, (ht.out.drewN _).setCell _, ?_⟩
                  rw [set_at hpc]
                  congr 2; omega
                · have z1 : (d - 1 == 0) = false := by simp; omega
                  have HZ : Hid (¬ d + -1 = 0) := hz
                  have HT : Hid (At y M (m + 1) (d + -1)) := hat
                  have HB := hat.le
                  clear hz hat
                  go_wp2_with fail
                  go_quiet (fail)
                  go_wp2_with fail
                  go_roundw
                  case rel =>
                    exact ⟨m + 1, p + 1, d - 1, by go_num, by have := hp.out; show _ = _; omega, (by have := HT.out; rwa [show d + -1 = d - 1 from by omega] at this), (ht.out.drewN _).setCell _, by rw [set_at hpc]; congr 2, by omega, by omega⟩
                  case measure => rw [placeOf_eq (set_at hpc _), placeOf_eq hpc]; omega
              · have hdl : delta c = 0 := delta_other (by unfold isOpen; omega) (by unfold isClose; omega)
                have hpl2 := HA.out.plain HO (by rw [← HCV.out]; exact h34)
                rw [← HCV.out, hdl] at hpl2
                clear hdl
                have t1 : (c == 123) = false := by simp; omega
                have t2 : (c == 91) = false := by simp; omega
                have t3 : (c == 125) = false := by simp; omega
                have t4 : (c == 93) = false := by simp; omega
                clear k1 k2 k3 k4
                rcases hpl2 with ⟨hz, hm⟩ | ⟨hz, hm, hat⟩
                · have z1 : (d == 0) = true := by simp; omega
                  have HZ : Hid (m = M) := hm
                  clear hz hm
                  go_wp2_with fail
                  go_quiet (fail)
                  go_wp2_with fail
                  go_end0
                  have e1 := hp.out
                  have e2 := HZ.out
                  refine ⟨rfl, (ht.out.drewN _).setCell _, ?_⟩
                  rw [set_at hpc]
                  congr 2; omega
                · have z1 : (d == 0) = false := by simp; omega
                  have HZ : Hid (¬ d + 0 = 0) := hz
                  have HT : Hid (At y M (m + 1) (d + 0)) := hat
                  have HB := hat.le
                  clear hz hat
                  go_wp2_with fail
                  go_quiet (fail)
                  go_wp2_with fail
                  go_roundw
                  case rel =>
                    exact ⟨m + 1, p + 1, d, by go_num, by have := hp.out; show _ = _; omega, (by have := HT.out; rwa [show d + 0 = d from by omega] at this), (ht.out.drewN _).setCell _, by rw [set_at hpc]; congr 2, by omega, by omega⟩
                  case measure => rw [placeOf_eq (set_at hpc _), placeOf_eq hpc]; omega
  · obtain rfl : c0 = 91 := by unfold isOpen at h0; omega
    go_enter Try.func28, Try.ntmps28
    go_wp2_with fail
    go_quiet (fail)
    go_wp2_with fail
    go_loopw [2] (fun dv wr => ∃ (m p : Nat) (d : Int), dv = .int .i64 d ∧ Hid (p = p0 + m) ∧ Hid (At y M m d) ∧ Hid (Touch ⟨cb, 1, none⟩ w wr) ∧ wr.cell? ⟨cb, 1, none⟩ = some (.int .i64 p) ∧ 0 ≤ d ∧ d ≤ m) (fun _ wr => n - placeOf cb wr)
    case atStart =>
      exact ⟨0, p0, 0, rfl, rfl, At.start HS, (Touch.refl _ _).drewN _, h2, by omega, by omega⟩
    case round =>
      obtain ⟨m, p, d, rfl, hp, HA, ht, hpc, hd0, hdm⟩ := hrel
      have hmM := HA.out.le.1
      have HK : Hid (Cur wr cb b off n cap p) := HC.out.moved ht.out hpc
      have g1 := HK.out.text
      have g3 := HK.out.loose
      have hpl : p < n := by have := hp.out; omega
      have hmn : m < n := by omega
      have hn63 : n ≤ 9223372036854775807 := by omega
      obtain ⟨c, hcv⟩ : ∃ c, c = y m := ⟨_, rfl⟩
      have g4 : wr.cell? ⟨b, off + p, none⟩ = some (.int .u8 c) := by
        rw [ht.out.cell _ (HC.out.ne _), hp.out, hcv]; exact HY _ (by omega)
      have HCV : Hid (c = y m) := hcv
      clear hcv h1 h2 h3 g
      by_cases h34 : c = 34
      · have t0 : (c == 34) = true := by simp [h34]
        obtain ⟨t, hst, hle, hat⟩ := HA.out.string HO (by rw [← HCV.out]; exact h34)
        have HST : Hid (StrClose y m t) := hst
        have HT : Hid (At y M (m + t + 2) d) := hat
        have HYT : Hid (∀ j, j < m + t + 2 → wr.cell? ⟨b, off + (p0 + j), none⟩ = some (.int .u8 (y j))) := fun j hj => by
          rw [ht.out.cell _ (HC.out.ne _)]; exact HY j (by omega)
        clear h34 hst hat
        go_wp2_with fail
        go_quiet (fail)
        go_wp2_with fail
        have hK : Cur (wr.drewN nq) cb b off n cap (p0 + m) := by rw [← hp.out]; exact HK.out.drewN _
        refine (pass_c cb b off n cap p0 m t y _ hK HYT.out (by omega) HST).mono ?_
        rintro e w' ⟨⟨v0, v1, rfl⟩, htp, hpp⟩
        have HTP : Hid (Touch ⟨cb, 1, none⟩ w w') := ht.out.trans (((Touch.refl _ _).drewN _).trans htp)
        clear hK htp g1 g3 g4
        go_wp2_with fail
        go_roundw
        case rel =>
          exact ⟨m + t + 2, p0 + m + t + 2, d, rfl, by show _ = _; omega, HT, HTP, hpp, hd0, by omega⟩
        case measure =>
          have := hp.out
          rw [placeOf_eq hpp, placeOf_eq hpc]; omega
      · have t0 : (c == 34) = false := by simp [h34]
        by_cases k1 : c = 123
        · have hdl : delta c = 1 := delta_open (by unfold isOpen; omega)
          have hpl2 := HA.out.plain HO (by rw [← HCV.out]; exact h34)
          rw [← HCV.out, hdl] at hpl2
          clear hdl
          have t1 : (c == 123) = true := by rw [k1]; rfl
          clear k1
          rcases hpl2 with ⟨hz, hm⟩ | ⟨hz, hm, hat⟩
          · have z1 : (d + 1 == 0) = true := by simp; omega
            have HZ : Hid (m = M) := hm
            clear hz hm
            go_wp2_with fail
            go_quiet (fail)
            go_wp2_with fail
            go_end0
            have e1 := hp.out
            have e2 := HZ.out
            refine ⟨rfl, (ht.out.drewN _).setCell _, ?_⟩
            rw [set_at hpc]
            congr 2; omega
          · have z1 : (d + 1 == 0) = false := by simp; omega
            have HZ : Hid (¬ d + 1 = 0) := hz
            have HT : Hid (At y M (m + 1) (d + 1)) := hat
            have HB := hat.le
            clear hz hat
            go_wp2_with fail
            go_quiet (fail)
            go_wp2_with fail
            go_roundw
            case rel =>
              exact ⟨m + 1, p + 1, d + 1, by go_num, by have := hp.out; show _ = _; omega, (by have := HT.out; rwa [show d + 1 = d + 1 from by omega] at this), (ht.out.drewN _).setCell _, by rw [set_at hpc]; congr 2, by omega, by omega⟩
            case measure => rw [placeOf_eq (set_at hpc _), placeOf_eq hpc]; omega
        · by_cases k2 : c = 91
          · have hdl : delta c = 1 := delta_open (by unfold isOpen; omega)
            have hpl2 := HA.out.plain HO (by rw [← HCV.out]; exact h34)
            rw [← HCV.out, hdl] at hpl2
            clear hdl
            clear k1
            have t1 : (c == 123) = false := by rw [k2]; rfl
            have t2 : (c == 91) = true := by rw [k2]; rfl
            clear k2
            rcases hpl2 with ⟨hz, hm⟩ | ⟨hz, hm, hat⟩
            · have z1 : (d + 1 == 0) = true := by simp; omega
              have HZ : Hid (m = M) := hm
              clear hz hm
              go_wp2_with fail
              go_quiet (fail)
              go_wp2_with fail
              go_end0
              have e1 := hp.out
              have e2 := HZ.out
              refine ⟨rfl, (ht.out.drewN _).setCell _, ?_⟩
              rw [set_at hpc]
              congr 2; omega
            · have z1 : (d + 1 == 0) = false := by simp; omega
              have HZ : Hid (¬ d + 1 = 0) := hz
              have HT : Hid (At y M (m + 1) (d + 1)) := hat
              have HB := hat.le
              clear hz hat
              go_wp2_with fail
              go_quiet (fail)
              go_wp2_with fail
              go_roundw
              case rel =>
                exact ⟨m + 1, p + 1, d + 1, by go_num, by have := hp.out; show _ = _; omega, (by have := HT.out; rwa [show d + 1 = d + 1 from by omega] at this), (ht.out.drewN _).setCell _, by rw [set_at hpc]; congr 2, by omega, by omega⟩
              case measure => rw [placeOf_eq (set_at hpc _), placeOf_eq hpc]; omega
          · by_cases k3 : c = 125
            · have hdl : delta c = -1 := delta_close (by unfold isClose; omega)
              have hpl2 := HA.out.plain HO (by rw [← HCV.out]; exact h34)
              rw [← HCV.out, hdl] at hpl2
              clear hdl
              clear k1 k2
              have t1 : (c == 123) = false := by rw [k3]; rfl
              have t2 : (c == 91) = false := by rw [k3]; rfl
              have t3 : (c == 125) = true := by rw [k3]; rfl
              clear k3
              rcases hpl2 with ⟨hz, hm⟩ | ⟨hz, hm, hat⟩
              · have z1 : (d - 1 == 0) = true := by simp; omega
                have HZ : Hid (m = M) := hm
                clear hz hm
                go_wp2_with fail
                go_quiet (fail)
                go_wp2_with fail
                go_end0
                have e1 := hp.out
                have e2 := HZ.out
                refine ⟨rfl, (ht.out.drewN _).setCell _, ?_⟩
                rw [set_at hpc]
                congr 2; omega
              · have z1 : (d - 1 == 0) = false := by simp; omega
                have HZ : Hid (¬ d + -1 = 0) := hz
                have HT : Hid (At y M (m + 1) (d + -1)) := hat
                have HB := hat.le
                clear hz hat
                go_wp2_with fail
                go_quiet (fail)
                go_wp2_with fail
                go_roundw
                case rel =>
                  exact ⟨m + 1, p + 1, d - 1, by go_num, by have := hp.out; show _ = _; omega, (by have := HT.out; rwa [show d + -1 = d - 1 from by omega] at this), (ht.out.drewN _).setCell _, by rw [set_at hpc]; congr 2, by omega, by omega⟩
                case measure => rw [placeOf_eq (set_at hpc _), placeOf_eq hpc]; omega
            · by_cases k4 : c = 93
              · have hdl : delta c = -1 := delta_close (by unfold isClose; omega)
                have hpl2 := HA.out.plain HO (by rw [← HCV.out]; exact h34)
                rw [← HCV.out, hdl] at hpl2
                clear hdl
                clear k1 k2 k3
                have t1 : (c == 123) = false := by rw [k4]; rfl
                have t2 : (c == 91) = false := by rw [k4]; rfl
                have t3 : (c == 125) = false := by rw [k4]; rfl
                have t4 : (c == 93) = true := by rw [k4]; rfl
                clear k4
                rcases hpl2 with ⟨hz, hm⟩ | ⟨hz, hm, hat⟩
                · have z1 : (d - 1 == 0) = true := by simp; omega
                  have HZ : Hid (m = M) := hm
                  clear hz hm
                  go_wp2_with fail
                  go_quiet (fail)
                  go_wp2_with fail
                  go_end0
                  have e1 := hp.out
                  have e2 := HZ.out
                  refine ⟨rfl, (ht.out.drewN _).setCell _, ?_⟩
                  rw [set_at hpc]
                  congr 2; omega
                · have z1 : (d - 1 == 0) = false := by simp; omega
                  have HZ : Hid (¬ d + -1 = 0) := hz
                  have HT : Hid (At y M (m + 1) (d + -1)) := hat
                  have HB := hat.le
                  clear hz hat
                  go_wp2_with fail
                  go_quiet (fail)
                  go_wp2_with fail
                  go_roundw
                  case rel =>
                    exact ⟨m + 1, p + 1, d - 1, by go_num, by have := hp.out; show _ = _; omega, (by have := HT.out; rwa [show d + -1 = d - 1 from by omega] at this), (ht.out.drewN _).setCell _, by rw [set_at hpc]; congr 2, by omega, by omega⟩
                  case measure => rw [placeOf_eq (set_at hpc _), placeOf_eq hpc]; omega
              · have hdl : delta c = 0 := delta_other (by unfold isOpen; omega) (by unfold isClose; omega)
                have hpl2 := HA.out.plain HO (by rw [← HCV.out]; exact h34)
                rw [← HCV.out, hdl] at hpl2
                clear hdl
                have t1 : (c == 123) = false := by simp; omega
                have t2 : (c == 91) = false := by simp; omega
                have t3 : (c == 125) = false := by simp; omega
                have t4 : (c == 93) = false := by simp; omega
                clear k1 k2 k3 k4
                rcases hpl2 with ⟨hz, hm⟩ | ⟨hz, hm, hat⟩
                · have z1 : (d == 0) = true := by simp; omega
                  have HZ : Hid (m = M) := hm
                  clear hz hm
                  go_wp2_with fail
                  go_quiet (fail)
                  go_wp2_with fail
                  go_end0
                  have e1 := hp.out
                  have e2 := HZ.out
                  refine ⟨rfl, (ht.out.drewN _).setCell _, ?_⟩
                  rw [set_at hpc]
                  congr 2; omega
                · have z1 : (d == 0) = false := by simp; omega
                  have HZ : Hid (¬ d + 0 = 0) := hz
                  have HT : Hid (At y M (m + 1) (d + 0)) := hat
                  have HB := hat.le
                  clear hz hat
                  go_wp2_with fail
                  go_quiet (fail)
                  go_wp2_with fail
                  go_roundw
                  case rel =>
                    exact ⟨m + 1, p + 1, d, by go_num, by have := hp.out; show _ = _; omega, (by have := HT.out; rwa [show d + 0 = d from by omega] at this), (ht.out.drewN _).setCell _, by rw [set_at hpc]; congr 2, by omega, by omega⟩
                  case measure => rw [placeOf_eq (set_at hpc _), placeOf_eq hpc]; omega

end Go.Proofs.Qxb6601681a.Skip
