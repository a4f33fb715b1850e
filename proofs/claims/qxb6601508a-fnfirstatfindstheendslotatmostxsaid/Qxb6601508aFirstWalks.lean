/-
  The walks of (*minTree).firstAt.
-/
import Derived.Test.Qxb6601508aFirstPlain
import Derived.Test.Qxb6601508aTreeReads
namespace Go.Proofs.Qxb6601508a.Tree
open Go.RowKit
set_option linter.unusedVariables false

def FoundIs (back : Bool) (low add : Nat → Int) (size : Nat) (f t x : Int) (h i lo : Nat) (w : World) (e : Ending) (w' : World) : Prop :=
  w = w' ∧ ∃ r, e = .returned (.int .i64 r) ∧ Ends back low add size f t x h i lo r

set_option maxHeartbeats 1000000 in
theorem firstF (T N size : Nat) (n f t : Int) (low add : Nat → Int) (dd : ByteArray) (w : World) (hat : At w T N n size low add) (hs : size ≤ 65536) (hdd : (dd.toList == [98, 97, 99, 107, 119, 97, 114, 100]) = false) :
    ∀ (h i lo : Nat) (x iv lov hiv : Int), iv = i → lov = lo → hiv = ((lo + 2 ^ h : Nat) : Int) → i * 2 ^ h = size + lo → lo + 2 ^ h ≤ size → Prem low add h i x → (-2147483648 ≤ x ∧ x ≤ 2147483647) →
    Calls Try.prog 37 #[.pointer (some ⟨T, 0, none⟩), .int .i64 iv, .int .i64 lov, .int .i64 hiv, .int .i64 f, .int .i64 t, .int .i32 x, .string dd] w (FoundIs false low add size f t x h i lo w) := by
  have HA : Hid (At w T N n size low add) := hat
  have g0 := hat.nodes
  have g1 := hat.size_
  clear hat
  intro h
  induction h with
  | zero =>
    intro i lo x iv lov hiv e1 e2 e3 hil hlo hp hRx
    subst e1 e2 e3
    rw [Nat.pow_zero] at *
    have hi2 : i < 2 * size := by omega
    have hi3 : size ≤ i := by omega
    have g2 := HA.out.low_ i hi2
    obtain ⟨v, hv⟩ : ∃ v, v = low i := ⟨_, rfl⟩
    rw [← hv] at g2
    have HV : Hid (v = low i) := hv
    clear hv
    obtain ⟨hiN, hhi⟩ : ∃ hiN : Nat, hiN = lo + 1 := ⟨_, rfl⟩
    rw [← hhi]
    have HH : Hid (hiN = lo + 1) := hhi
    clear hhi hil
    by_cases k1 : (hiN : Int) ≤ f
    · have d1 : decide ((hiN : Int) ≤ f) = true := decide_eq_true k1
      have HE : Hid (Ends false low add size f t x 0 i lo (-1)) := Ends.none hp (.inl (by rw [Nat.pow_zero, ← HH.out]; exact k1))
      clear hp
      go_enter Try.func37, Try.ntmps37
      go_wp2_with fail
      go_ret
      exact ⟨rfl, _, rfl, HE⟩
    · have d1 : decide ((hiN : Int) ≤ f) = false := decide_eq_false k1
      by_cases k2 : t ≤ (lo : Int)
      · have d2 : decide (t ≤ (lo : Int)) = true := decide_eq_true k2
        have HE : Hid (Ends false low add size f t x 0 i lo (-1)) := Ends.none hp (.inr (.inl k2))
        clear hp
        go_enter Try.func37, Try.ntmps37
        go_wp2_with fail
        go_ret
        exact ⟨rfl, _, rfl, HE⟩
      · have d2 : decide (t ≤ (lo : Int)) = false := decide_eq_false k2
        by_cases k3 : x < v
        · have d3 : decide (x < v) = true := decide_eq_true k3
          have HE : Hid (Ends false low add size f t x 0 i lo (-1)) := Ends.none hp (.inr (.inr (by rw [← HV.out]; exact k3)))
          clear hp
          go_enter Try.func37, Try.ntmps37
          go_wp2_with fail
          go_ret
          exact ⟨rfl, _, rfl, HE⟩
        · have d3 : decide (x < v) = false := decide_eq_false k3
          have HE : Hid (Ends false low add size f t x 0 i lo lo) := Ends.leaf (by rw [Nat.pow_zero, ← HH.out]; exact k1) k2 (by rw [← HV.out]; exact k3)
          clear hp
          go_enter Try.func37, Try.ntmps37
          go_wp2_with fail
          go_ret
          exact ⟨rfl, _, rfl, HE⟩
  | succ h ih =>
    intro i lo x iv lov hiv e1 e2 e3 hil hlo hp hRx0
    subst e1 e2 e3
    have HP0 : Hid (Prem low add (h + 1) i x) := hp
    obtain ⟨hp1, hp2, hp3, hp4⟩ := hp
    have HIH := ih
    obtain ⟨P, hP⟩ : ∃ P, P = 2 ^ h := ⟨_, rfl⟩
    have hPpos : 0 < P := by rw [hP]; exact Nat.pow_pos (by decide)
    have HP : Hid (P = 2 ^ h) := hP
    have HIL : Hid (i * 2 ^ (h + 1) = size + lo) := hil
    have cl := child_l hil
    have cr := child_r hil
    rw [pow_split, ← hP] at hlo
    rw [pow_split, ← hP]
    rw [← hP] at cl cr
    have hi4 : i < size := by
      have : 2 * i * 1 ≤ 2 * i * P := Nat.mul_le_mul_left _ hPpos
      omega
    have HCL : Hid (2 * i * P = size + lo) := cl
    have HCR : Hid ((2 * i + 1) * P = size + (lo + P)) := cr
    have hp3 : Hid (Prem low add h (2 * i) (x - add i)) := hp3
    have hp4 : Hid (Prem low add h (2 * i + 1) (x - add i)) := hp4
    have g2 := HA.out.low_ i (by omega)
    have g3 := HA.out.add_ i (by omega)
    have hRx := hp2
    unfold R at hRx
    obtain ⟨v, hv⟩ : ∃ v, v = low i := ⟨_, rfl⟩
    rw [← hv] at g2
    have HV : Hid (v = low i) := hv
    obtain ⟨c, hc⟩ : ∃ c, c = add i := ⟨_, rfl⟩
    rw [← hc] at g3 hp3 hp4 hRx
    have HC : Hid (c = add i) := hc
    have HI : Hid (∀ (i lo : Nat) (x iv lov hiv : Int), iv = i → lov = lo → hiv = ((lo + 2 ^ h : Nat) : Int) → i * 2 ^ h = size + lo → lo + 2 ^ h ≤ size → Prem low add h i x → (-2147483648 ≤ x ∧ x ≤ 2147483647) →
      Calls Try.prog 37 #[.pointer (some ⟨T, 0, none⟩), .int .i64 iv, .int .i64 lov, .int .i64 hiv, .int .i64 f, .int .i64 t, .int .i32 x, .string dd] w (FoundIs false low add size f t x h i lo w)) := ih
    clear hv hc hP hil cl cr hp1 hp2 ih HIH
    obtain ⟨hiN, hhi⟩ : ∃ hiN : Nat, hiN = lo + P + P := ⟨_, rfl⟩
    rw [← hhi]
    have HH : Hid (hiN = lo + P + P) := hhi
    have hh1 : hiN ≤ lo + P + P := by omega
    have hh2 : lo + P + P ≤ hiN := by omega
    clear hhi
    by_cases k1 : (hiN : Int) ≤ f
    · have d1 : decide ((hiN : Int) ≤ f) = true := decide_eq_true k1
      have HE : Hid (Ends false low add size f t x (h + 1) i lo (-1)) := Ends.none HP0 (.inl (by rw [pow_split, ← HP.out, ← HH.out]; exact k1))
      go_enter Try.func37, Try.ntmps37
      go_wp2_with fail
      go_ret
      exact ⟨rfl, _, rfl, HE⟩
    · have d1 : decide ((hiN : Int) ≤ f) = false := decide_eq_false k1
      by_cases k2 : t ≤ (lo : Int)
      · have d2 : decide (t ≤ (lo : Int)) = true := decide_eq_true k2
        have HE : Hid (Ends false low add size f t x (h + 1) i lo (-1)) := Ends.none HP0 (.inr (.inl k2))
        go_enter Try.func37, Try.ntmps37
        go_wp2_with fail
        go_ret
        exact ⟨rfl, _, rfl, HE⟩
      · have d2 : decide (t ≤ (lo : Int)) = false := decide_eq_false k2
        by_cases k3 : x < v
        · have d3 : decide (x < v) = true := decide_eq_true k3
          have HE : Hid (Ends false low add size f t x (h + 1) i lo (-1)) := Ends.none HP0 (.inr (.inr (by rw [← HV.out]; exact k3)))
          go_enter Try.func37, Try.ntmps37
          go_wp2_with fail
          go_ret
          exact ⟨rfl, _, rfl, HE⟩
        · have d3 : decide (x < v) = false := decide_eq_false k3
          clear HP0 k1 k2 k3
          go_enter Try.func37, Try.ntmps37
          go_wp2_with fail
          refine (HI.out (2 * i) lo (x - c) _ _ _ (by omega) (by omega) (by rw [← HP.out]; omega) (by rw [← HP.out]; exact HCL.out) (by rw [← HP.out]; omega) hp3.out hRx).mono ?_
          rintro e w' ⟨rfl, r, rfl, hr⟩
          have HR : Hid (Ends false low add size f t (x - add i) h (2 * i) lo r) := by rw [← HC.out]; exact hr
          clear hr
          by_cases k4 : 0 ≤ r
          · have HE : Hid (Ends false low add size f t x (h + 1) i lo r) := Ends.fst HIL.out (by have := HR.out; exact this) k4
            go_wp2_with fail
            go_ret
            exact ⟨rfl, _, rfl, HE⟩
          · have K4 : Hid (¬ 0 ≤ r) := k4
            go_wp2_with fail
            refine (HI.out (2 * i + 1) (lo + P) (x - c) _ _ _ (by omega) (by omega) (by rw [← HP.out]; omega) (by rw [← HP.out]; exact HCR.out) (by rw [← HP.out]; omega) hp4.out hRx).mono ?_
            rintro e w' ⟨rfl, r', rfl, hr⟩
            have HE : Hid (Ends false low add size f t x (h + 1) i lo r') := Ends.snd HIL.out (by have := HR.out; exact this) (by have := K4.out; omega) (by have := hr; rw [HC.out] at this; rw [HP.out] at this; exact this)
            clear hr
            go_wp2_with fail
            go_ret
            exact ⟨rfl, _, rfl, HE⟩

set_option maxHeartbeats 1000000 in
theorem firstB (T N size : Nat) (n f t : Int) (low add : Nat → Int) (dd : ByteArray) (w : World) (hat : At w T N n size low add) (hs : size ≤ 65536) (hdd : (dd.toList == [98, 97, 99, 107, 119, 97, 114, 100]) = true) :
    ∀ (h i lo : Nat) (x iv lov hiv : Int), iv = i → lov = lo → hiv = ((lo + 2 ^ h : Nat) : Int) → i * 2 ^ h = size + lo → lo + 2 ^ h ≤ size → Prem low add h i x → (-2147483648 ≤ x ∧ x ≤ 2147483647) →
    Calls Try.prog 37 #[.pointer (some ⟨T, 0, none⟩), .int .i64 iv, .int .i64 lov, .int .i64 hiv, .int .i64 f, .int .i64 t, .int .i32 x, .string dd] w (FoundIs true low add size f t x h i lo w) := by
  have HA : Hid (At w T N n size low add) := hat
  have g0 := hat.nodes
  have g1 := hat.size_
  clear hat
  intro h
  induction h with
  | zero =>
    intro i lo x iv lov hiv e1 e2 e3 hil hlo hp hRx
    subst e1 e2 e3
    rw [Nat.pow_zero] at *
    have hi2 : i < 2 * size := by omega
    have hi3 : size ≤ i := by omega
    have g2 := HA.out.low_ i hi2
    obtain ⟨v, hv⟩ : ∃ v, v = low i := ⟨_, rfl⟩
    rw [← hv] at g2
    have HV : Hid (v = low i) := hv
    clear hv
    obtain ⟨hiN, hhi⟩ : ∃ hiN : Nat, hiN = lo + 1 := ⟨_, rfl⟩
    rw [← hhi]
    have HH : Hid (hiN = lo + 1) := hhi
    clear hhi hil
    by_cases k1 : (hiN : Int) ≤ f
    · have d1 : decide ((hiN : Int) ≤ f) = true := decide_eq_true k1
      have HE : Hid (Ends true low add size f t x 0 i lo (-1)) := Ends.none hp (.inl (by rw [Nat.pow_zero, ← HH.out]; exact k1))
      clear hp
      go_enter Try.func37, Try.ntmps37
      go_wp2_with fail
      go_ret
      exact ⟨rfl, _, rfl, HE⟩
    · have d1 : decide ((hiN : Int) ≤ f) = false := decide_eq_false k1
      by_cases k2 : t ≤ (lo : Int)
      · have d2 : decide (t ≤ (lo : Int)) = true := decide_eq_true k2
        have HE : Hid (Ends true low add size f t x 0 i lo (-1)) := Ends.none hp (.inr (.inl k2))
        clear hp
        go_enter Try.func37, Try.ntmps37
        go_wp2_with fail
        go_ret
        exact ⟨rfl, _, rfl, HE⟩
      · have d2 : decide (t ≤ (lo : Int)) = false := decide_eq_false k2
        by_cases k3 : x < v
        · have d3 : decide (x < v) = true := decide_eq_true k3
          have HE : Hid (Ends true low add size f t x 0 i lo (-1)) := Ends.none hp (.inr (.inr (by rw [← HV.out]; exact k3)))
          clear hp
          go_enter Try.func37, Try.ntmps37
          go_wp2_with fail
          go_ret
          exact ⟨rfl, _, rfl, HE⟩
        · have d3 : decide (x < v) = false := decide_eq_false k3
          have HE : Hid (Ends true low add size f t x 0 i lo lo) := Ends.leaf (by rw [Nat.pow_zero, ← HH.out]; exact k1) k2 (by rw [← HV.out]; exact k3)
          clear hp
          go_enter Try.func37, Try.ntmps37
          go_wp2_with fail
          go_ret
          exact ⟨rfl, _, rfl, HE⟩
  | succ h ih =>
    intro i lo x iv lov hiv e1 e2 e3 hil hlo hp hRx0
    subst e1 e2 e3
    have HP0 : Hid (Prem low add (h + 1) i x) := hp
    obtain ⟨hp1, hp2, hp3, hp4⟩ := hp
    have HIH := ih
    obtain ⟨P, hP⟩ : ∃ P, P = 2 ^ h := ⟨_, rfl⟩
    have hPpos : 0 < P := by rw [hP]; exact Nat.pow_pos (by decide)
    have HP : Hid (P = 2 ^ h) := hP
    have HIL : Hid (i * 2 ^ (h + 1) = size + lo) := hil
    have cl := child_l hil
    have cr := child_r hil
    rw [pow_split, ← hP] at hlo
    rw [pow_split, ← hP]
    rw [← hP] at cl cr
    have hi4 : i < size := by
      have : 2 * i * 1 ≤ 2 * i * P := Nat.mul_le_mul_left _ hPpos
      omega
    have HCL : Hid (2 * i * P = size + lo) := cl
    have HCR : Hid ((2 * i + 1) * P = size + (lo + P)) := cr
    have hp3 : Hid (Prem low add h (2 * i) (x - add i)) := hp3
    have hp4 : Hid (Prem low add h (2 * i + 1) (x - add i)) := hp4
    have g2 := HA.out.low_ i (by omega)
    have g3 := HA.out.add_ i (by omega)
    have hRx := hp2
    unfold R at hRx
    obtain ⟨v, hv⟩ : ∃ v, v = low i := ⟨_, rfl⟩
    rw [← hv] at g2
    have HV : Hid (v = low i) := hv
    obtain ⟨c, hc⟩ : ∃ c, c = add i := ⟨_, rfl⟩
    rw [← hc] at g3 hp3 hp4 hRx
    have HC : Hid (c = add i) := hc
    have HI : Hid (∀ (i lo : Nat) (x iv lov hiv : Int), iv = i → lov = lo → hiv = ((lo + 2 ^ h : Nat) : Int) → i * 2 ^ h = size + lo → lo + 2 ^ h ≤ size → Prem low add h i x → (-2147483648 ≤ x ∧ x ≤ 2147483647) →
      Calls Try.prog 37 #[.pointer (some ⟨T, 0, none⟩), .int .i64 iv, .int .i64 lov, .int .i64 hiv, .int .i64 f, .int .i64 t, .int .i32 x, .string dd] w (FoundIs true low add size f t x h i lo w)) := ih
    clear hv hc hP hil cl cr hp1 hp2 ih HIH
    obtain ⟨hiN, hhi⟩ : ∃ hiN : Nat, hiN = lo + P + P := ⟨_, rfl⟩
    rw [← hhi]
    have HH : Hid (hiN = lo + P + P) := hhi
    have hh1 : hiN ≤ lo + P + P := by omega
    have hh2 : lo + P + P ≤ hiN := by omega
    clear hhi
    by_cases k1 : (hiN : Int) ≤ f
    · have d1 : decide ((hiN : Int) ≤ f) = true := decide_eq_true k1
      have HE : Hid (Ends true low add size f t x (h + 1) i lo (-1)) := Ends.none HP0 (.inl (by rw [pow_split, ← HP.out, ← HH.out]; exact k1))
      go_enter Try.func37, Try.ntmps37
      go_wp2_with fail
      go_ret
      exact ⟨rfl, _, rfl, HE⟩
    · have d1 : decide ((hiN : Int) ≤ f) = false := decide_eq_false k1
      by_cases k2 : t ≤ (lo : Int)
      · have d2 : decide (t ≤ (lo : Int)) = true := decide_eq_true k2
        have HE : Hid (Ends true low add size f t x (h + 1) i lo (-1)) := Ends.none HP0 (.inr (.inl k2))
        go_enter Try.func37, Try.ntmps37
        go_wp2_with fail
        go_ret
        exact ⟨rfl, _, rfl, HE⟩
      · have d2 : decide (t ≤ (lo : Int)) = false := decide_eq_false k2
        by_cases k3 : x < v
        · have d3 : decide (x < v) = true := decide_eq_true k3
          have HE : Hid (Ends true low add size f t x (h + 1) i lo (-1)) := Ends.none HP0 (.inr (.inr (by rw [← HV.out]; exact k3)))
          go_enter Try.func37, Try.ntmps37
          go_wp2_with fail
          go_ret
          exact ⟨rfl, _, rfl, HE⟩
        · have d3 : decide (x < v) = false := decide_eq_false k3
          clear HP0 k1 k2 k3
          go_enter Try.func37, Try.ntmps37
          go_wp2_with fail
          refine (HI.out (2 * i + 1) (lo + P) (x - c) _ _ _ (by omega) (by omega) (by rw [← HP.out]; omega) (by rw [← HP.out]; exact HCR.out) (by rw [← HP.out]; omega) hp4.out hRx).mono ?_
          rintro e w' ⟨rfl, r, rfl, hr⟩
          have HR : Hid (Ends true low add size f t (x - add i) h (2 * i + 1) (lo + P) r) := by rw [← HC.out]; exact hr
          clear hr
          by_cases k4 : 0 ≤ r
          · have HE : Hid (Ends true low add size f t x (h + 1) i lo r) := Ends.fstB HIL.out (by have := HR.out; rw [HP.out] at this; exact this) k4
            go_wp2_with fail
            go_ret
            exact ⟨rfl, _, rfl, HE⟩
          · have K4 : Hid (¬ 0 ≤ r) := k4
            go_wp2_with fail
            refine (HI.out (2 * i) lo (x - c) _ _ _ (by omega) (by omega) (by rw [← HP.out]; omega) (by rw [← HP.out]; exact HCL.out) (by rw [← HP.out]; omega) hp3.out hRx).mono ?_
            rintro e w' ⟨rfl, r', rfl, hr⟩
            have HE : Hid (Ends true low add size f t x (h + 1) i lo r') := Ends.sndB HIL.out (by have := HR.out; rw [HP.out] at this; exact this) (by have := K4.out; omega) (by have := hr; rw [HC.out] at this; exact this)
            clear hr
            go_wp2_with fail
            go_ret
            exact ⟨rfl, _, rfl, HE⟩

end Go.Proofs.Qxb6601508a.Tree
