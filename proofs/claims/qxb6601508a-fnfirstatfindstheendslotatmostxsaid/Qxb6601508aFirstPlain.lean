/-
  The plain law beneath FnFirstAtFindsTheEndSlotAtMostX: the search below a node, its premise, the values as seen from the node.
-/
import Derived.Test.Qxb6601508aAddPlain
namespace Go.Proofs.Qxb6601508a.Tree
open Go.RowKit

/-- slot s's number as seen from node i, which stands h levels above the leaves -/
def V (low add : Nat → Int) (size : Nat) : Nat → Nat → Nat → Int
  | 0, i, _ => low i
  | h + 1, i, s => add i + if size + s < (2 * i + 1) * 2 ^ h then V low add size h (2 * i) s else V low add size h (2 * i + 1) s

/-- below node i every inner node is exactly the least below it, and x less the adds stays an int32 -/
def Prem (low add : Nat → Int) : Nat → Nat → Int → Prop
  | 0, _, _ => True
  | h + 1, i, x => low i = add i + min2 (low (2 * i)) (low (2 * i + 1)) ∧ R (x - add i) ∧ Prem low add h (2 * i) (x - add i) ∧ Prem low add h (2 * i + 1) (x - add i)

theorem min2_le (a b : Int) : min2 a b ≤ a ∧ min2 a b ≤ b := by unfold min2; split <;> omega

theorem low_le_V (low add : Nat → Int) (size : Nat) : ∀ (h i : Nat) (x : Int), Prem low add h i x → ∀ s, low i ≤ V low add size h i s := by
  intro h
  induction h with
  | zero => intro i x _ s; exact Int.le_refl _
  | succ h ih =>
    intro i x hp s
    obtain ⟨h1, _, h3, h4⟩ := hp
    have hm := min2_le (low (2 * i)) (low (2 * i + 1))
    rw [V]
    split
    · have := ih _ _ h3 s; omega
    · have := ih _ _ h4 s; omega

def Sat (low add : Nat → Int) (size : Nat) (f t x : Int) (h i s : Nat) : Prop := f ≤ (s : Int) ∧ (s : Int) < t ∧ V low add size h i s ≤ x

/-- r is the first slot that will do (back: the last), -1 where there is none -/
def Ends (back : Bool) (low add : Nat → Int) (size : Nat) (f t x : Int) (h i lo : Nat) (r : Int) : Prop :=
  (r = -1 ∧ ∀ s, lo ≤ s → s < lo + 2 ^ h → ¬ Sat low add size f t x h i s) ∨
  ∃ s : Nat, r = s ∧ lo ≤ s ∧ s < lo + 2 ^ h ∧ Sat low add size f t x h i s ∧ ∀ s', lo ≤ s' → s' < lo + 2 ^ h → (if back then s < s' else s' < s) → ¬ Sat low add size f t x h i s'

theorem Ends.uniq {back : Bool} {low add : Nat → Int} {size : Nat} {f t x : Int} {h i lo : Nat} {r r' : Int} (h1 : Ends back low add size f t x h i lo r) (h2 : Ends back low add size f t x h i lo r') : r = r' := by
  rcases h1 with ⟨a1, a2⟩ | ⟨s, a1, a2, a3, a4, a5⟩ <;> rcases h2 with ⟨b1, b2⟩ | ⟨u, b1, b2, b3, b4, b5⟩
  · rw [a1, b1]
  · exact absurd b4 (a2 u b2 b3)
  · exact absurd a4 (b2 s a2 a3)
  · have : s = u := by
      by_cases e : s = u
      · exact e
      · by_cases hlt : s < u
        · cases back
          · exact absurd a4 (b5 s a2 a3 (by simpa using hlt))
          · exact absurd b4 (a5 u b2 b3 (by simpa using hlt))
        · cases back
          · exact absurd b4 (a5 u b2 b3 (by simp; omega))
          · exact absurd a4 (b5 s a2 a3 (by simp; omega))
    rw [a1, b1, this]

theorem pow_split (h lo : Nat) : lo + 2 ^ (h + 1) = lo + 2 ^ h + 2 ^ h := by rw [Nat.pow_succ]; omega

theorem V_left {low add : Nat → Int} {size h i lo s : Nat} (hi : i * 2 ^ (h + 1) = size + lo) (hs : s < lo + 2 ^ h) : V low add size (h + 1) i s = add i + V low add size h (2 * i) s := by
  have e : (2 * i + 1) * 2 ^ h = size + lo + 2 ^ h := by rw [Nat.succ_mul, ← hi, Nat.pow_succ, Nat.mul_assoc, Nat.mul_left_comm]; congr 1; rw [Nat.mul_comm 2]
  rw [V, if_pos (by omega)]
theorem V_right {low add : Nat → Int} {size h i lo s : Nat} (hi : i * 2 ^ (h + 1) = size + lo) (hs : lo + 2 ^ h ≤ s) : V low add size (h + 1) i s = add i + V low add size h (2 * i + 1) s := by
  have e : (2 * i + 1) * 2 ^ h = size + lo + 2 ^ h := by rw [Nat.succ_mul, ← hi, Nat.pow_succ, Nat.mul_assoc, Nat.mul_left_comm]; congr 1; rw [Nat.mul_comm 2]
  rw [V, if_neg (by omega)]

theorem child_l {size h i lo : Nat} (hi : i * 2 ^ (h + 1) = size + lo) : (2 * i) * 2 ^ h = size + lo := by
  rw [← hi, Nat.pow_succ, Nat.mul_comm 2 i, Nat.mul_assoc, Nat.mul_comm 2]
theorem child_r {size h i lo : Nat} (hi : i * 2 ^ (h + 1) = size + lo) : (2 * i + 1) * 2 ^ h = size + (lo + 2 ^ h) := by
  rw [Nat.succ_mul, child_l hi]; omega

theorem Sat_left {low add : Nat → Int} {size h i lo s : Nat} {f t x : Int} (hi : i * 2 ^ (h + 1) = size + lo) (hs : s < lo + 2 ^ h) :
    Sat low add size f t x (h + 1) i s ↔ Sat low add size f t (x - add i) h (2 * i) s := by
  unfold Sat; rw [V_left hi hs]
  constructor <;> rintro ⟨a, b, c⟩ <;> exact ⟨a, b, by omega⟩
theorem Sat_right {low add : Nat → Int} {size h i lo s : Nat} {f t x : Int} (hi : i * 2 ^ (h + 1) = size + lo) (hs : lo + 2 ^ h ≤ s) :
    Sat low add size f t x (h + 1) i s ↔ Sat low add size f t (x - add i) h (2 * i + 1) s := by
  unfold Sat; rw [V_right hi hs]
  constructor <;> rintro ⟨a, b, c⟩ <;> exact ⟨a, b, by omega⟩

/-- the half that is searched first has such a slot -/
theorem Ends.fst {low add : Nat → Int} {size h i lo : Nat} {f t x r : Int} (hi : i * 2 ^ (h + 1) = size + lo)
    (h1 : Ends false low add size f t (x - add i) h (2 * i) lo r) (hr : 0 ≤ r) : Ends false low add size f t x (h + 1) i lo r := by
  rcases h1 with ⟨a1, _⟩ | ⟨s, a1, a2, a3, a4, a5⟩
  · omega
  · refine .inr ⟨s, a1, a2, by rw [pow_split]; omega, (Sat_left hi a3).2 a4, fun s' b1 b2 b3 b4 => ?_⟩
    have b3' : s' < s := by simpa using b3
    exact a5 s' b1 (by omega) b3 ((Sat_left hi (by omega)).1 b4)
theorem Ends.snd {low add : Nat → Int} {size h i lo : Nat} {f t x r r' : Int} (hi : i * 2 ^ (h + 1) = size + lo)
    (h1 : Ends false low add size f t (x - add i) h (2 * i) lo r) (hr : ¬ 0 ≤ r) (h2 : Ends false low add size f t (x - add i) h (2 * i + 1) (lo + 2 ^ h) r') : Ends false low add size f t x (h + 1) i lo r' := by
  rcases h1 with ⟨a1, a2⟩ | ⟨s, a1, _⟩
  · rcases h2 with ⟨b1, b2⟩ | ⟨s, b1, b2, b3, b4, b5⟩
    · refine .inl ⟨b1, fun s c1 c2 c3 => ?_⟩
      rw [pow_split] at c2
      by_cases e : s < lo + 2 ^ h
      · exact a2 s c1 e ((Sat_left hi e).1 c3)
      · exact b2 s (by omega) c2 ((Sat_right hi (by omega)).1 c3)
    · refine .inr ⟨s, b1, by omega, by rw [pow_split]; omega, (Sat_right hi b2).2 b4, fun s' c1 c2 c3 c4 => ?_⟩
      rw [pow_split] at c2
      by_cases e : s' < lo + 2 ^ h
      · exact a2 s' c1 e ((Sat_left hi e).1 c4)
      · exact b5 s' (by omega) c2 c3 ((Sat_right hi (by omega)).1 c4)
  · omega
theorem Ends.fstB {low add : Nat → Int} {size h i lo : Nat} {f t x r : Int} (hi : i * 2 ^ (h + 1) = size + lo)
    (h1 : Ends true low add size f t (x - add i) h (2 * i + 1) (lo + 2 ^ h) r) (hr : 0 ≤ r) : Ends true low add size f t x (h + 1) i lo r := by
  rcases h1 with ⟨a1, _⟩ | ⟨s, a1, a2, a3, a4, a5⟩
  · omega
  · refine .inr ⟨s, a1, by omega, by rw [pow_split]; omega, (Sat_right hi a2).2 a4, fun s' b1 b2 b3 b4 => ?_⟩
    rw [pow_split] at b2
    have b3' : s < s' := by simpa using b3
    exact a5 s' (by omega) b2 b3 ((Sat_right hi (by omega)).1 b4)
theorem Ends.sndB {low add : Nat → Int} {size h i lo : Nat} {f t x r r' : Int} (hi : i * 2 ^ (h + 1) = size + lo)
    (h1 : Ends true low add size f t (x - add i) h (2 * i + 1) (lo + 2 ^ h) r) (hr : ¬ 0 ≤ r) (h2 : Ends true low add size f t (x - add i) h (2 * i) lo r') : Ends true low add size f t x (h + 1) i lo r' := by
  rcases h1 with ⟨a1, a2⟩ | ⟨s, a1, _⟩
  · rcases h2 with ⟨b1, b2⟩ | ⟨s, b1, b2, b3, b4, b5⟩
    · refine .inl ⟨b1, fun s c1 c2 c3 => ?_⟩
      rw [pow_split] at c2
      by_cases e : s < lo + 2 ^ h
      · exact b2 s c1 e ((Sat_left hi e).1 c3)
      · exact a2 s (by omega) c2 ((Sat_right hi (by omega)).1 c3)
    · refine .inr ⟨s, b1, by omega, by rw [pow_split]; omega, (Sat_left hi b3).2 b4, fun s' c1 c2 c3 c4 => ?_⟩
      rw [pow_split] at c2
      by_cases e : s' < lo + 2 ^ h
      · exact b5 s' c1 e c3 ((Sat_left hi e).1 c4)
      · exact a2 s' (by omega) c2 ((Sat_right hi (by omega)).1 c4)
  · omega

theorem Ends.none {back : Bool} {low add : Nat → Int} {size h i lo : Nat} {f t x : Int} (hp : Prem low add h i x) (hc : ((lo + 2 ^ h : Nat) : Int) ≤ f ∨ t ≤ (lo : Int) ∨ x < low i) : Ends back low add size f t x h i lo (-1) := by
  refine .inl ⟨rfl, fun s h1 h2 h3 => ?_⟩
  obtain ⟨a, b, c⟩ := h3
  have := low_le_V low add size h i x hp s
  omega
theorem Ends.leaf {back : Bool} {low add : Nat → Int} {size i lo : Nat} {f t x : Int} (h1 : ¬ ((lo + 2 ^ 0 : Nat) : Int) ≤ f) (h2 : ¬ t ≤ (lo : Int)) (h3 : ¬ x < low i) : Ends back low add size f t x 0 i lo lo := by
  rw [Nat.pow_zero] at h1
  refine .inr ⟨lo, rfl, Nat.le_refl _, by rw [Nat.pow_zero]; omega, ⟨by omega, by omega, by rw [V]; omega⟩, fun s' c1 c2 c3 => ?_⟩
  rw [Nat.pow_zero] at c2
  have : s' = lo := by omega
  subst this
  cases back <;> simp at c3

/-- the adds from a up to i -/
def usum (add : Nat → Int) (i : Nat) : Nat → Nat → Int
  | 0, _ => 0
  | f + 1, a => if a < i then 0 else add a + usum add i f (a / 2)

theorem usum_fuel (add : Nat → Int) (i : Nat) (hi : i ≠ 0) : ∀ (f g a : Nat), a ≤ f → a ≤ g → usum add i f a = usum add i g a := by
  intro f
  induction f with
  | zero =>
    intro g a h1 _
    have : a = 0 := by omega
    subst this
    cases g with
    | zero => rfl
    | succ g => rw [usum, usum, if_pos (by omega)]
  | succ f ih =>
    intro g a h1 h2
    cases g with
    | zero => have : a = 0 := by omega
              subst this; rw [usum, usum, if_pos (by omega)]
    | succ g =>
      rw [usum, usum]
      by_cases h : a < i
      · rw [if_pos h, if_pos h]
      · rw [if_neg h, if_neg h, ih g (a / 2) (by omega) (by omega)]

def U (add : Nat → Int) (i a : Nat) : Int := usum add i a a
theorem U_lt (add : Nat → Int) (i a : Nat) (h : a < i) : U add i a = 0 := by
  unfold U
  cases a with
  | zero => rfl
  | succ a => rw [usum, if_pos h]
theorem U_step (add : Nat → Int) (i a : Nat) (hi : i ≠ 0) (h : i ≤ a) : U add i a = add a + U add i (a / 2) := by
  unfold U
  cases a with
  | zero => omega
  | succ a => rw [usum, if_neg (by omega), usum_fuel add i hi a ((a + 1) / 2) ((a + 1) / 2) (by omega) (Nat.le_refl _)]

theorem U_up (add : Nat → Int) (i c : Nat) (hi : i ≠ 0) (hc : c / 2 = i) : ∀ (t a : Nat), a / 2 ^ t = c → U add i a = U add c a + add i := by
  intro t
  induction t with
  | zero =>
    intro a ha
    rw [Nat.pow_zero, Nat.div_one] at ha
    subst ha
    rw [U_step add i a hi (by omega), U_step add a a (by omega) (Nat.le_refl _), hc, U_step add i i hi (Nat.le_refl _), U_lt add i (i / 2) (by omega), U_lt add a i (by omega)]
    omega
  | succ t ih =>
    intro a ha
    have h1 : a / 2 / 2 ^ t = c := by rw [Nat.div_div_eq_div_mul, Nat.mul_comm, ← Nat.pow_succ]; exact ha
    have h2 : c ≤ a / 2 := by rw [← h1]; exact Nat.div_le_self _ _
    rw [U_step add i a hi (by omega), U_step add c a (by omega) (by omega), ih (a / 2) h1]
    omega

theorem V_sum (low add : Nat → Int) (size : Nat) : ∀ (h i lo s : Nat), i ≠ 0 → i * 2 ^ h = size + lo → lo ≤ s → s < lo + 2 ^ h → low (size + s) + U add i ((size + s) / 2) = V low add size h i s := by
  intro h
  induction h with
  | zero =>
    intro i lo s h0 h1 h2 h3
    rw [Nat.pow_zero] at *
    have e : size + s = i := by omega
    rw [e, V, U_lt add i _ (by omega)]; omega
  | succ h ih =>
    intro i lo s h0 h1 h2 h3
    have hp : 0 < 2 ^ h := Nat.pow_pos (by decide)
    rw [pow_split] at h3
    -- the leaf's half lies h levels below the child
    have key : ∀ c lo', c / 2 = i → c * 2 ^ h = size + lo' → lo' ≤ s → s < lo' + 2 ^ h → low (size + s) + U add i ((size + s) / 2) = add i + V low add size h c s := by
      intro c lo' hc e1 e2 e3
      rw [← ih c lo' s (by omega) e1 e2 e3]
      have hdiv : (size + s) / 2 ^ h = c := (div_iff _ _ _).2 ⟨by omega, by omega⟩
      cases h with
      | zero =>
        rw [Nat.pow_zero, Nat.div_one] at hdiv
        rw [hdiv, hc, U_step add i i h0 (Nat.le_refl _), U_lt add i (i / 2) (by omega), U_lt add c i (by omega)]
        omega
      | succ g =>
        have : (size + s) / 2 / 2 ^ g = c := by rw [Nat.div_div_eq_div_mul, Nat.mul_comm, ← Nat.pow_succ]; exact hdiv
        rw [U_up add i c h0 hc g _ this]; omega
    by_cases e : s < lo + 2 ^ h
    · rw [V_left h1 e]; exact key (2 * i) lo (by omega) (child_l h1) h2 e
    · rw [V_right h1 (by omega)]; exact key (2 * i + 1) (lo + 2 ^ h) (by omega) (child_r h1) (by omega) (by omega)

/-- node j of the premise's check: X holds what is left of x there -/
def Node (low add X : Nat → Int) (j : Nat) : Prop :=
  low j = add j + min2 (low (2 * j)) (low (2 * j + 1)) ∧ R (X j - add j) ∧ X (2 * j) = X j - add j ∧ X (2 * j + 1) = X j - add j

/-- all that lie below i and before J have been checked -/
def Checked (low add : Nat → Int) (size i : Nat) (x : Int) (J : Nat) (X : Nat → Int) : Prop :=
  X i = x ∧ ∀ j, Anc i j → j < J → j < size → Node low add X j

theorem anc_gap {i t j : Nat} (h : Anc i j) (hj : (i + 1) * 2 ^ t ≤ j) : i * 2 ^ (t + 1) ≤ j := by
  obtain ⟨s, hs⟩ := h
  have hd := (div_iff j s i).1 hs
  have hp : ∀ n, 0 < 2 ^ n := fun n => Nat.pow_pos (by decide)
  by_cases e : s ≤ t
  · have h1 : (i + 1) * 2 ^ s ≤ (i + 1) * 2 ^ t := Nat.mul_le_mul_left _ (Nat.pow_le_pow_right (by decide) e)
    rw [Nat.succ_mul] at h1
    omega
  · have h1 : i * 2 ^ (t + 1) ≤ i * 2 ^ s := Nat.mul_le_mul_left _ (Nat.pow_le_pow_right (by decide) (by omega))
    omega

theorem Checked.start (low add : Nat → Int) (size i : Nat) (x : Int) (X : Nat → Int) (h : X i = x) : Checked low add size i x i X :=
  ⟨h, fun j hj hlt => by have := hj.le; omega⟩
theorem Checked.gap {low add X : Nat → Int} {size i : Nat} {x : Int} {t : Nat} (h : Checked low add size i x ((i + 1) * 2 ^ t) X) : Checked low add size i x (i * 2 ^ (t + 1)) X :=
  ⟨h.1, fun j h1 h2 h3 => h.2 j h1 (by
    by_cases e : j < (i + 1) * 2 ^ t
    · exact e
    · have := anc_gap (t := t) h1 (by omega); omega) h3⟩
theorem Checked.step {low add X : Nat → Int} {size i : Nat} {x : Int} {J : Nat} (h : Checked low add size i x J X) (h0 : i ≠ 0) (hiJ : i ≤ J)
    (c1 : low J = add J + min2 (low (2 * J)) (low (2 * J + 1))) (c2 : R (X J - add J)) : Checked low add size i x (J + 1) (upd (upd X (2 * J) (X J - add J)) (2 * J + 1) (X J - add J)) := by
  have hX : ∀ j, j ≤ J → upd (upd X (2 * J) (X J - add J)) (2 * J + 1) (X J - add J) j = X j := fun j hj => by rw [upd_ne _ _ _ _ (by omega), upd_ne _ _ _ _ (by omega)]
  refine ⟨by rw [hX i hiJ]; exact h.1, fun j h1 h2 h3 => ?_⟩
  by_cases e : j = J
  · subst e
    refine ⟨c1, by rw [hX j (Nat.le_refl _)]; exact c2, ?_, ?_⟩
    · rw [upd_ne _ _ _ _ (by omega), upd_same, hX j (Nat.le_refl _)]
    · rw [upd_same, hX j (Nat.le_refl _)]
  · obtain ⟨a, b, c, d⟩ := h.2 j h1 (by omega) h3
    refine ⟨a, by rw [hX j (by omega)]; exact b, ?_, ?_⟩
    · rw [upd_ne _ _ _ _ (by omega), upd_ne _ _ _ _ (by omega), hX j (by omega)]; exact c
    · rw [upd_ne _ _ _ _ (by omega), upd_ne _ _ _ _ (by omega), hX j (by omega)]; exact d

theorem Checked.prem {low add X : Nat → Int} {size i : Nat} {x : Int} {J : Nat} (hc : Checked low add size i x J X) (hJ : size ≤ J) :
    ∀ (h j lo : Nat), Anc i j → j * 2 ^ h = size + lo → lo + 2 ^ h ≤ size → Prem low add h j (X j) := by
  intro h
  induction h with
  | zero => intro j lo _ _ _; trivial
  | succ h ih =>
    intro j lo h1 h2 h3
    have hp : 0 < 2 ^ h := Nat.pow_pos (by decide)
    have e1 := child_l h2
    have hj : j < size := by
      have : 2 * j * 1 ≤ 2 * j * 2 ^ h := Nat.mul_le_mul_left _ hp
      rw [pow_split] at h3
      omega
    obtain ⟨a, b, c, d⟩ := hc.2 j h1 (by omega) hj
    rw [pow_split] at h3
    refine ⟨a, b, ?_, ?_⟩
    · rw [← c]; exact ih (2 * j) lo (by apply Anc.up; rw [show 2 * j / 2 = j from by omega]; exact h1) e1 (by omega)
    · rw [← d]; exact ih (2 * j + 1) (lo + 2 ^ h) (by apply Anc.up; rw [show (2 * j + 1) / 2 = j from by omega]; exact h1) (child_r h2) (by omega)
end Go.Proofs.Qxb6601508a.Tree
