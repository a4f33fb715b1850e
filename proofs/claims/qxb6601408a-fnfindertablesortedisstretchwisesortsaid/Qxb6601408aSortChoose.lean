/-
  The walks of order2Ordered, medianOrdered, medianAdjacentOrdered, choosePivotOrdered at uint64: the row is only read.
-/
import Derived.Test.Qxb6601408aSortBreak
namespace Go.Proofs.Qxb6601408a.Fin
open Go.RowKit
set_option linter.unusedVariables false

/-- the counter of swaps: an int cell that may be written -/
def Cnt (w : World) (sb : Nat) : Prop := ∃ k : Int, w.cell? ⟨sb, 0, none⟩ = some (.int .i64 k) ∧ w.frozen? ⟨sb, 0, none⟩ = false

theorem Cnt.set {w : World} {sb : Nat} (h : Cnt w sb) (k : Int) : Cnt (w.setCell ⟨sb, 0, none⟩ (.int .i64 k)) sb := by
  obtain ⟨j, h1, h2⟩ := h
  exact ⟨k, World.cell?_setCell_same _ _ _ h1, by rw [World.frozen?_setCell]; exact h2⟩
theorem Cnt.drewN {w : World} {sb : Nat} (h : Cnt w sb) (k : Nat) : Cnt (w.drewN k) sb := h

/-- the call answered v and turned nothing but the counter -/
def Saw (sb : Nat) (P : Ending → Prop) (w : World) (e : Ending) (w' : World) : Prop := P e ∧ Keep sb 0 1 w w' ∧ Cnt w' sb

set_option maxHeartbeats 1000000 in
theorem order2_c (blk off n cap a b sb : Nat) (d : Nat → Int) (w : World) (h : Hold w blk off n d) (hc : Cnt w sb) (ha : a < n) (hb : b < n) (hn : n ≤ 65536) (av bv : Int) (ea : av = a) (eb : bv = b) :
    Calls Try.prog 44 #[.slice (some ⟨blk, off, none⟩) n cap, .int .i64 av, .int .i64 bv, .pointer (some ⟨sb, 0, none⟩)] w
      (Saw sb (fun e => ∃ p q : Nat, e = .returned (.tuple #[.int .i64 p, .int .i64 q]) ∧ ((p = a ∧ q = b) ∨ (p = b ∧ q = a))) w) := by
  subst ea eb
  have HC : Hid (Cnt w sb) := hc
  obtain ⟨k, k1, k2⟩ := hc
  obtain ⟨x, hx⟩ : ∃ x, x = d a := ⟨_, rfl⟩
  obtain ⟨y, hy⟩ : ∃ y, y = d b := ⟨_, rfl⟩
  have c1 : w.cell? ⟨blk, off + a, none⟩ = some (.int .u64 x) := by rw [hx]; exact h.cell a ha
  have c2 : w.cell? ⟨blk, off + b, none⟩ = some (.int .u64 y) := by rw [hy]; exact h.cell b hb
  clear hx hy h
  by_cases hl : y < x
  · have t1 : decide (y < x) = true := decide_eq_true hl
    go_enter Try.func44, Try.ntmps44
    go_wp2_with fail
    go_quiet ((go_at_call 33; first | exact Calls.quiet_of_same (less_c _ _ _) | exact quiet2 (less_c _ _ _)))
    go_wp2_with fail
    go_ret2
    exact ⟨⟨b, a, rfl, .inr ⟨rfl, rfl⟩⟩, ((Keep.refl _ _ _ _).drewN _).setCell 0 (by omega) _, (HC.out.drewN _).set _⟩
  · have t1 : decide (y < x) = false := decide_eq_false hl
    go_enter Try.func44, Try.ntmps44
    go_wp2_with fail
    go_quiet ((go_at_call 33; first | exact Calls.quiet_of_same (less_c _ _ _) | exact quiet2 (less_c _ _ _)))
    go_wp2_with fail
    go_ret2
    exact ⟨⟨a, b, rfl, .inl ⟨rfl, rfl⟩⟩, (Keep.refl _ _ _ _).drewN _, HC.out.drewN _⟩

/-- the row and the counter, under one roof: the row is left as it is -/
structure Both (blk off n sb : Nat) (d : Nat → Int) (w : World) : Prop where
  hold : Hold w blk off n d
  cnt : Cnt w sb
  ne : blk ≠ sb
  lt : blk < w.heap.size

theorem Both.on {blk off n sb : Nat} {d : Nat → Int} {w w' : World} (h : Both blk off n sb d w) (k : Keep sb 0 1 w w') (c : Cnt w' sb) : Both blk off n sb d w' :=
  ⟨h.hold.other k h.ne h.lt, c, h.ne, Nat.lt_of_lt_of_le h.lt k.size⟩

set_option maxHeartbeats 1000000 in
theorem median_c (blk off n cap a b c sb : Nat) (d : Nat → Int) (w : World) (h : Both blk off n sb d w) (ha : a < n) (hb : b < n) (hc : c < n) (hn : n ≤ 65536) (av bv cv : Int) (ea : av = a) (eb : bv = b) (ec : cv = c) :
    Calls Try.prog 42 #[.slice (some ⟨blk, off, none⟩) n cap, .int .i64 av, .int .i64 bv, .int .i64 cv, .pointer (some ⟨sb, 0, none⟩)] w
      (Saw sb (fun e => ∃ r : Nat, e = .returned (.int .i64 r) ∧ (r = a ∨ r = b ∨ r = c)) w) := by
  subst ea eb ec
  have H0 : Hid (Both blk off n sb d w) := h
  clear h
  go_enter Try.func42, Try.ntmps42
  go_wp2_with fail
  refine (order2_c blk off n cap a b sb d _ H0.out.hold H0.out.cnt ha hb hn _ _ rfl rfl).mono ?_
  rintro e w1 ⟨⟨p, q, rfl, hpq⟩, k1, c1⟩
  have H1 : Hid (Both blk off n sb d w1) := H0.out.on k1 c1
  have K1 : Hid (Keep sb 0 1 w w1) := k1
  have P1 : Hid ((p = a ∧ q = b) ∨ (p = b ∧ q = a)) := hpq
  have hp1 : p < n := by omega
  have hq1 : q < n := by omega
  clear k1 c1 hpq
  go_wp2_with fail
  refine (order2_c blk off n cap q c sb d _ H1.out.hold H1.out.cnt hq1 hc hn _ _ rfl rfl).mono ?_
  rintro e w2 ⟨⟨q2, c2, rfl, hpq⟩, k1, c1⟩
  have H2 : Hid (Both blk off n sb d w2) := H1.out.on k1 c1
  have K2 : Hid (Keep sb 0 1 w w2) := K1.out.trans k1
  have P2 : Hid ((q2 = q ∧ c2 = c) ∨ (q2 = c ∧ c2 = q)) := hpq
  have hq2 : q2 < n := by omega
  clear k1 c1 hpq
  go_wp2_with fail
  refine (order2_c blk off n cap p q2 sb d _ H2.out.hold H2.out.cnt hp1 hq2 hn _ _ rfl rfl).mono ?_
  rintro e w3 ⟨⟨p3, q3, rfl, hpq⟩, k1, c1⟩
  have K3 : Hid (Keep sb 0 1 w w3) := K2.out.trans k1
  have P3 : Hid ((p3 = p ∧ q3 = q2) ∨ (p3 = q2 ∧ q3 = p)) := hpq
  have C3 : Hid (Cnt w3 sb) := c1
  clear k1 c1 hpq
  go_wp2_with fail
  go_ret
  refine ⟨⟨q3, rfl, ?_⟩, K3, C3⟩
  have h1 := P1.out; have h2 := P2.out; have h3 := P3.out
  omega

set_option maxHeartbeats 1000000 in
theorem adj_c (blk off n cap a sb : Nat) (d : Nat → Int) (w : World) (h : Both blk off n sb d w) (ha0 : 1 ≤ a) (ha : a + 1 < n) (hn : n ≤ 65536) (av : Int) (ea : av = a) :
    Calls Try.prog 41 #[.slice (some ⟨blk, off, none⟩) n cap, .int .i64 av, .pointer (some ⟨sb, 0, none⟩)] w
      (Saw sb (fun e => ∃ r : Nat, e = .returned (.int .i64 r) ∧ a ≤ r + 1 ∧ r ≤ a + 1) w) := by
  subst ea
  have H0 : Hid (Both blk off n sb d w) := h
  clear h
  go_enter Try.func41, Try.ntmps41
  go_wp2_with fail
  refine (median_c blk off n cap (a - 1) a (a + 1) sb d _ H0.out (by omega) (by omega) ha hn _ _ _ (by omega) rfl (by omega)).mono ?_
  rintro e w1 ⟨⟨r, rfl, hr⟩, k1, c1⟩
  have K1 : Hid (Keep sb 0 1 w w1) := k1
  have C1 : Hid (Cnt w1 sb) := c1
  clear k1 c1
  go_wp2_with fail
  go_ret
  exact ⟨⟨r, rfl, by omega, by omega⟩, K1, C1⟩

theorem Cnt.fresh (w : World) (k : Int) (t : TypeId) : Cnt (w.alloc (Obj.cells #[.int .i64 k] t)) w.heap.size := ⟨k, by rw [World.cell?_alloc_new]; rfl, by simp⟩

/-- the answer of choosePivot: a place in the row, and a hint -/
def Chose (a b : Nat) (blk off n : Nat) (d : Nat → Int) (w : World) (e : Ending) (w' : World) : Prop :=
  (∃ (p : Nat) (hint : Int), e = .returned (.tuple #[.int .i64 p, .int .i64 hint]) ∧ a ≤ p ∧ p < b) ∧ Keep blk off n w w' ∧ Hold w' blk off n d

set_option maxHeartbeats 1000000 in
theorem choose_c (blk off n cap a b : Nat) (d : Nat → Int) (w : World) (h : Hold w blk off n d) (hab : a + 8 ≤ b) (hb : b ≤ n) (hn : n ≤ 65536) :
    Calls Try.prog 30 #[.slice (some ⟨blk, off, none⟩) n cap, .int .i64 a, .int .i64 b] w (Chose a b blk off n d w) := by
  have H0 : Hid (Hold w blk off n d) := h
  have hlt := h.lt (by omega)
  clear h
  obtain ⟨L, hL⟩ : ∃ L : Nat, b = a + L := ⟨b - a, by omega⟩
  have e1 : (b : Int) - a = L := by omega
  have hL1 : b ≤ a + L := by omega
  have hL2 : a + L ≤ b := by omega
  clear hL
  obtain ⟨Q, hQ⟩ : ∃ Q : Nat, Q = L / 4 := ⟨_, rfl⟩
  have q1 : (L : Int) / 4 = Q := by omega
  have q2 : 4 * Q ≤ L := by omega
  have q3 : L < 4 * Q + 4 := by omega
  clear hQ
  have d8 : decide (8 ≤ L) = true := decide_eq_true (by omega)
  by_cases h50 : 50 ≤ L
  · have d50 : decide (50 ≤ L) = true := decide_eq_true h50
    go_enter Try.func30, Try.ntmps30
    go_wp2_with fail
    have HB : Hid (Both blk off n w.heap.size d (w.alloc (Obj.cells #[.int .i64 0] 3))) := ⟨H0.out.alloc hlt _, Cnt.fresh w 0 3, Nat.ne_of_lt hlt, by simp; omega⟩
    have HK : Hid (Keep blk off n w (w.alloc (Obj.cells #[.int .i64 0] 3))) := (Keep.refl _ _ _ _).alloc hlt _
    generalize w.alloc (Obj.cells #[.int .i64 0] 3) = w1 at HB HK ⊢
    obtain ⟨sb, hsb⟩ : ∃ sb, sb = w.heap.size := ⟨_, rfl⟩
    rw [← hsb] at HB ⊢
    have HSB : Hid (w.heap.size ≤ sb) := by rw [hsb]; exact Nat.le_refl _
    have HLT : Hid (blk < w.heap.size) := hlt
    clear hsb hlt H0
    refine (adj_c blk off n cap (a + Q) sb d _ HB.out (by omega) (by omega) hn _ (by omega)).mono ?_
    rintro e v1 ⟨⟨r1, rfl, hr1a, hr1b⟩, k1, c1⟩
    have HB1 : Hid (Both blk off n sb d v1) := HB.out.on k1 c1
    have HK1 : Hid (Keep blk off n w v1) := HK.out.other k1 HSB.out HLT.out
    clear k1 c1
    go_wp2_with fail
    refine (adj_c blk off n cap (a + Q * 2) sb d _ HB1.out (by omega) (by omega) hn _ (by omega)).mono ?_
    rintro e v2 ⟨⟨r2, rfl, hr2a, hr2b⟩, k1, c1⟩
    have HB2 : Hid (Both blk off n sb d v2) := HB1.out.on k1 c1
    have HK2 : Hid (Keep blk off n w v2) := HK1.out.other k1 HSB.out HLT.out
    clear k1 c1
    go_wp2_with fail
    refine (adj_c blk off n cap (a + Q * 3) sb d _ HB2.out (by omega) (by omega) hn _ (by omega)).mono ?_
    rintro e v3 ⟨⟨r3, rfl, hr3a, hr3b⟩, k1, c1⟩
    have HB3 : Hid (Both blk off n sb d v3) := HB2.out.on k1 c1
    have HK3 : Hid (Keep blk off n w v3) := HK2.out.other k1 HSB.out HLT.out
    clear k1 c1
    go_wp2_with fail
    refine (median_c blk off n cap r1 r2 r3 sb d _ HB3.out (by omega) (by omega) (by omega) hn _ _ _ rfl rfl rfl).mono ?_
    rintro e w5 ⟨⟨r, rfl, hr⟩, k1, c1⟩
    have HB5 : Hid (Both blk off n sb d w5) := HB3.out.on k1 c1
    have HK5 : Hid (Keep blk off n w w5) := HK3.out.other k1 HSB.out HLT.out
    obtain ⟨k, ck1, ck2⟩ := c1
    clear k1
    by_cases hk0 : k = 0
    · have t0 : (k == 0) = true := by simp [hk0]
      go_wp2_with fail
      go_ret2
      exact ⟨⟨r, _, rfl, by omega, by omega⟩, HK5, HB5.out.hold⟩
    · have t0 : (k == 0) = false := by simp [hk0]
      by_cases hk12 : k = 12
      · have t1 : (k == 12) = true := by simp [hk12]
        go_wp2_with fail
        go_ret2
        exact ⟨⟨r, _, rfl, by omega, by omega⟩, HK5, HB5.out.hold⟩
      · have t1 : (k == 12) = false := by simp [hk12]
        go_wp2_with fail
        go_ret2
        exact ⟨⟨r, _, rfl, by omega, by omega⟩, HK5, HB5.out.hold⟩
  · have d50 : decide (50 ≤ L) = false := decide_eq_false h50
    go_enter Try.func30, Try.ntmps30
    go_wp2_with fail
    have HB : Hid (Both blk off n w.heap.size d (w.alloc (Obj.cells #[.int .i64 0] 3))) := ⟨H0.out.alloc hlt _, Cnt.fresh w 0 3, Nat.ne_of_lt hlt, by simp; omega⟩
    have HK : Hid (Keep blk off n w (w.alloc (Obj.cells #[.int .i64 0] 3))) := (Keep.refl _ _ _ _).alloc hlt _
    generalize w.alloc (Obj.cells #[.int .i64 0] 3) = w1 at HB HK ⊢
    obtain ⟨sb, hsb⟩ : ∃ sb, sb = w.heap.size := ⟨_, rfl⟩
    rw [← hsb] at HB ⊢
    have HSB : Hid (w.heap.size ≤ sb) := by rw [hsb]; exact Nat.le_refl _
    have HLT : Hid (blk < w.heap.size) := hlt
    clear hsb hlt H0
    refine (median_c blk off n cap (a + Q) (a + Q * 2) (a + Q * 3) sb d _ HB.out (by omega) (by omega) (by omega) hn _ _ _ (by omega) (by omega) (by omega)).mono ?_
    rintro e w5 ⟨⟨r, rfl, hr⟩, k1, c1⟩
    have HB5 : Hid (Both blk off n sb d w5) := HB.out.on k1 c1
    have HK5 : Hid (Keep blk off n w w5) := HK.out.other k1 HSB.out HLT.out
    obtain ⟨k, ck1, ck2⟩ := c1
    clear k1
    by_cases hk0 : k = 0
    · have t0 : (k == 0) = true := by simp [hk0]
      go_wp2_with fail
      go_ret2
      exact ⟨⟨r, _, rfl, by omega, by omega⟩, HK5, HB5.out.hold⟩
    · have t0 : (k == 0) = false := by simp [hk0]
      by_cases hk12 : k = 12
      · have t1 : (k == 12) = true := by simp [hk12]
        go_wp2_with fail
        go_ret2
        exact ⟨⟨r, _, rfl, by omega, by omega⟩, HK5, HB5.out.hold⟩
      · have t1 : (k == 12) = false := by simp [hk12]
        go_wp2_with fail
        go_ret2
        exact ⟨⟨r, _, rfl, by omega, by omega⟩, HK5, HB5.out.hold⟩
end Go.Proofs.Qxb6601408a.Fin
