/-
  The walks of (*cursor).skip at a scalar, and of ZZSkip.
-/
import Derived.Test.Qxb6601681aSkipWalks
namespace Go.Proofs.Qxb6601681a.Skip
open Go.RowKit

def isEnd (c : Int) : Prop := c = 44 ∨ c = 125

set_option maxHeartbeats 1000000 in
theorem skip_scl (cb b off n cap p0 r : Nat) (y : Nat → Int) (w : World) (hc : Cur w cb b off n cap p0)
    (hy : ∀ j, j < r + 1 → w.cell? ⟨b, off + (p0 + j), none⟩ = some (.int .u8 (y j))) (hn : p0 + (r + 1) ≤ n)
    (h0 : ¬ y 0 = 34 ∧ ¬ isOpen (y 0)) (hs : isEnd (y r) ∧ ∀ j, j < r → ¬ isEnd (y j)) :
    Calls Try.prog 28 #[.pointer (some ⟨cb, 0, none⟩)] w (Skipped cb (p0 + r) w) := by
  have HC : Hid (Cur w cb b off n cap p0) := hc
  have g := hy 0 (by omega)
  rw [Nat.add_zero] at g
  obtain ⟨h1, h2, h3, h4, h5, h6⟩ := hc
  have HY : Hid (∀ j, j < r + 1 → w.cell? ⟨b, off + (p0 + j), none⟩ = some (.int .u8 (y j))) := hy
  have HS : Hid (isEnd (y r) ∧ ∀ j, j < r → ¬ isEnd (y j)) := hs
  have hlt : p0 < n := by omega
  generalize hg0 : y 0 = c0 at g h0
  have q1 : (c0 == 34) = false := by simp; exact h0.1
  have q2 : (c0 == 123) = false := by simp; have := h0.2; unfold isOpen at this; omega
  have q3 : (c0 == 91) = false := by simp; have := h0.2; unfold isOpen at this; omega
  clear hy hs hg0 h0
  go_enter Try.func28, Try.ntmps28
  go_wp2_with fail
  go_quiet (fail)
  go_wp2_with fail
  go_loopw [13] (fun _ wr => ∃ m p : Nat, m ≤ r ∧ Hid (p = p0 + m) ∧ Hid (Touch ⟨cb, 1, none⟩ w wr) ∧ wr.cell? ⟨cb, 1, none⟩ = some (.int .i64 p)) (fun _ wr => n - placeOf cb wr)
  case atStart => exact ⟨0, p0, Nat.zero_le _, rfl, (Touch.refl _ _).drewN _, h2⟩
  case round =>
    obtain ⟨m, p, hmr, hp, ht, hpc⟩ := hrel
    have HK : Hid (Cur wr cb b off n cap p) := HC.out.moved ht.out hpc
    have g1 := HK.out.text
    have g3 := HK.out.loose
    have hpl : p < n := by have := hp.out; omega
    have hn63 : n ≤ 9223372036854775807 := by omega
    obtain ⟨c, hcv⟩ : ∃ c, c = y m := ⟨_, rfl⟩
    have g4 : wr.cell? ⟨b, off + p, none⟩ = some (.int .u8 c) := by
      rw [ht.out.cell _ (HC.out.ne _), hp.out, hcv]; exact HY _ (by omega)
    have HCV : Hid (c = y m) := hcv
    clear hcv h1 h2 h3 g
    have hend : isEnd c → m = r := fun h => by
      by_cases e : m = r
      · exact e
      · exact absurd (by rw [← HCV.out]; exact h) (HS.out.2 m (by omega))
    have hgo : ¬ isEnd c → m + 1 ≤ r := fun h => by
      by_cases e : m = r
      · subst e; exact absurd (by rw [HCV.out]; exact HS.out.1) h
      · omega
    by_cases k1 : c = 44
    · have t1 : (c != 44) = false := by simp [k1]
      have HM : Hid (m = r) := hend (.inl k1)
      clear k1 hend hgo
      go_wp2_with fail
      go_quiet (fail)
      go_wp2_with fail
      go_end0
      exact ⟨rfl, ht.out.drewN _, by rw [World.cell?_drewN, hpc, ← HM.out, hp.out]⟩
    · have t1 : (c != 44) = true := by simp [k1]
      by_cases k2 : c = 125
      · have t2 : (c != 125) = false := by simp [k2]
        have HM : Hid (m = r) := hend (.inr k2)
        clear k1 k2 hend hgo
        go_wp2_with fail
        go_quiet (fail)
        go_wp2_with fail
        go_end0
        exact ⟨rfl, ht.out.drewN _, by rw [World.cell?_drewN, hpc, ← HM.out, hp.out]⟩
      · have t2 : (c != 125) = true := by simp [k2]
        have HM : Hid (m + 1 ≤ r) := hgo (by unfold isEnd; omega)
        clear k1 k2 hend hgo
        go_wp2_with fail
        go_quiet (fail)
        go_wp2_with fail
        go_roundw
        case rel =>
          exact ⟨m + 1, p + 1, HM, by have := hp.out; show _ = _; omega, (ht.out.drewN _).setCell _, by rw [set_at hpc]; congr 2⟩
        case measure => rw [placeOf_eq (set_at hpc _), placeOf_eq hpc]; omega

/-- where the value that opens at y 0 ends: r bytes on; L: how many bytes that hangs on -/
def ValEnd (y : Nat → Int) (r L : Nat) : Prop :=
  (y 0 = 34 ∧ ∃ t, StrClose y 0 t ∧ r = t + 2 ∧ L = r) ∨ (isOpen (y 0) ∧ ∃ M, BrkEnd y M ∧ r = M + 1 ∧ L = r) ∨
  ((¬ y 0 = 34 ∧ ¬ isOpen (y 0)) ∧ (isEnd (y r) ∧ ∀ j, j < r → ¬ isEnd (y j)) ∧ L = r + 1)

theorem skip_c (cb b off n cap p0 r L : Nat) (y : Nat → Int) (w : World) (hc : Cur w cb b off n cap p0)
    (hy : ∀ j, j < L → w.cell? ⟨b, off + (p0 + j), none⟩ = some (.int .u8 (y j))) (hn : p0 + L ≤ n) (hv : ValEnd y r L) :
    Calls Try.prog 28 #[.pointer (some ⟨cb, 0, none⟩)] w (Skipped cb (p0 + r) w) := by
  rcases hv with ⟨h0, t, hs, rfl, rfl⟩ | ⟨h0, M, hs, rfl, rfl⟩ | ⟨h0, hs, rfl⟩
  · exact skip_str cb b off n cap p0 t y w hc hy hn h0 hs
  · exact skip_brk cb b off n cap p0 M y w hc hy hn h0 hs
  · exact skip_scl cb b off n cap p0 r y w hc hy hn h0 hs

def ZZSkipped (q : Nat) (w : World) (e : Ending) (w' : World) : Prop := e = .returned (.int .i64 q) ∧ Below w.heap.size w w'

set_option maxHeartbeats 1000000 in
theorem zzskip_c (b off n cap p0 r L : Nat) (y : Nat → Int) (w : World) (hb : b < w.heap.size) (hnc : n ≤ cap) (hcap : cap ≤ 9223372036854775807)
    (hy : ∀ j, j < L → w.cell? ⟨b, off + (p0 + j), none⟩ = some (.int .u8 (y j))) (hn : p0 + L ≤ n) (hv : ValEnd y r L) :
    Calls Try.prog 17 #[.slice (some ⟨b, off, none⟩) n cap, .int .i64 p0] w (ZZSkipped (p0 + r) w) := by
  have HY : Hid (∀ j, j < L → w.cell? ⟨b, off + (p0 + j), none⟩ = some (.int .u8 (y j))) := hy
  have HV : Hid (ValEnd y r L) := hv
  clear hy hv
  go_enter Try.func17, Try.ntmps17
  go_wp2_with fail
  have hc : Cur (w.alloc (Obj.cells #[Value.slice (some ⟨b, off, none⟩) n cap, Value.int IntKind.i64 (p0 : Int)] 46)) w.heap.size b off n cap p0 :=
    ⟨by simp, by simp, by simp, by omega, hnc, hcap⟩
  refine (skip_c w.heap.size b off n cap p0 r L y _ hc (fun j hj => by rw [World.cell?_alloc_lt _ _ _ hb]; exact HY j hj) hn HV).mono ?_
  rintro e w' ⟨rfl, ht, hp⟩
  have HT : Hid (Touch ⟨w.heap.size, 1, none⟩ (w.alloc (Obj.cells #[Value.slice (some ⟨b, off, none⟩) n cap, Value.int IntKind.i64 (p0 : Int)] 46)) w') := ht
  clear ht hc
  go_wp2_with fail
  go_ret
  exact ⟨rfl, ((Below.refl _ _).alloc (Nat.le_refl _) _).trans (HT.out.below (Nat.le_refl _))⟩
end Go.Proofs.Qxb6601681a.Skip
