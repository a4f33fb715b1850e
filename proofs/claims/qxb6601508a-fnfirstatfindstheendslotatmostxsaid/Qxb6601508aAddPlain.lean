/-
  The plain law beneath the two laws on addRun: a tree of lows and adds over Nat, its slots' values, adding along the two paths, mending. No Go in sight (but for the name of the wrap of int32).
-/
import Derived.RowKit
namespace Go.Proofs.Qxb6601508a.Tree
open Go.RowKit

def upd (f : Nat → Int) (i : Nat) (v : Int) : Nat → Int := fun k => if k = i then v else f k
theorem upd_same (f : Nat → Int) (i : Nat) (v : Int) : upd f i v i = v := by unfold upd; rw [if_pos rfl]
theorem upd_ne (f : Nat → Int) (i : Nat) (v : Int) (k : Nat) (h : k ≠ i) : upd f i v k = f k := by unfold upd; rw [if_neg h]

theorem wrap32_mod (x : Int) : wrap32 x % 4294967296 = x % 4294967296 := by unfold wrap32; omega
theorem wrap32_congr {x y : Int} (h : x % 4294967296 = y % 4294967296) : wrap32 x = wrap32 y := by unfold wrap32; omega
theorem wrap32_left (x y : Int) : wrap32 (wrap32 x + y) = wrap32 (x + y) := by unfold wrap32; omega

/-- the adds of a and of all that lie above it; f: how many steps up at most -/
def asum (add : Nat → Int) : Nat → Nat → Int
  | 0, _ => 0
  | f + 1, a => if a = 0 then 0 else add a + asum add f (a / 2)

theorem asum_fuel (add : Nat → Int) : ∀ (f g a : Nat), a ≤ f → a ≤ g → asum add f a = asum add g a := by
  intro f
  induction f with
  | zero =>
    intro g a h1 _
    have : a = 0 := by omega
    subst this
    cases g <;> simp [asum]
  | succ f ih =>
    intro g a h1 h2
    cases g with
    | zero => have : a = 0 := by omega
              subst this; simp [asum]
    | succ g =>
      rw [asum, asum]
      by_cases h : a = 0
      · rw [if_pos h, if_pos h]
      · rw [if_neg h, if_neg h, ih g (a / 2) (by omega) (by omega)]

def S (add : Nat → Int) (a : Nat) : Int := asum add a a
theorem S_zero (add : Nat → Int) : S add 0 = 0 := rfl
theorem S_step (add : Nat → Int) (a : Nat) (h : a ≠ 0) : S add a = add a + S add (a / 2) := by
  unfold S
  cases a with
  | zero => exact absurd rfl h
  | succ a => rw [asum, if_neg h, asum_fuel add a ((a + 1) / 2) ((a + 1) / 2) (by omega) (Nat.le_refl _)]

/-- j stands at or above a -/
def Anc (j a : Nat) : Prop := ∃ i, a / 2 ^ i = j

theorem Anc.self (a : Nat) : Anc a a := ⟨0, by simp⟩
theorem Anc.up {j a : Nat} (h : Anc j (a / 2)) : Anc j a := by
  obtain ⟨i, hi⟩ := h
  exact ⟨i + 1, by rw [← hi, Nat.div_div_eq_div_mul, Nat.pow_succ, Nat.mul_comm]⟩
theorem Anc.cases {j a : Nat} (h : Anc j a) : a = j ∨ Anc j (a / 2) := by
  obtain ⟨i, hi⟩ := h
  cases i with
  | zero => left; simpa using hi
  | succ i => right; exact ⟨i, by rw [← hi, Nat.div_div_eq_div_mul, Nat.pow_succ, Nat.mul_comm]⟩
theorem Anc.le {j a : Nat} (h : Anc j a) : j ≤ a := by
  obtain ⟨i, hi⟩ := h
  rw [← hi]; exact Nat.div_le_self _ _

theorem S_no (add : Nat → Int) (j : Nat) (v : Int) : ∀ (n a : Nat), a ≤ n → ¬ Anc j a → S (upd add j v) a = S add a := by
  intro n
  induction n with
  | zero => intro a h _; have : a = 0 := by omega
            subst this; rfl
  | succ n ih =>
    intro a h hn
    by_cases h0 : a = 0
    · subst h0; rfl
    · rw [S_step _ a h0, S_step _ a h0, ih (a / 2) (by omega) (fun k => hn k.up), upd_ne _ _ _ _ (fun e => hn (by subst e; exact Anc.self _))]

theorem S_yes (add : Nat → Int) (j : Nat) (d : Int) (hj : j ≠ 0) : ∀ (n a : Nat), a ≤ n → Anc j a → S (upd add j (wrap32 (add j + d))) a % 4294967296 = (S add a + d) % 4294967296 := by
  intro n
  induction n with
  | zero => intro a h hA; have := hA.le; omega
  | succ n ih =>
    intro a h hA
    have h0 : a ≠ 0 := by have := hA.le; omega
    rw [S_step _ a h0, S_step _ a h0]
    by_cases e : a = j
    · subst e
      rw [S_no add a _ n (a / 2) (by omega) (fun k => by have := k.le; omega), upd_same]
      have := wrap32_mod (add a + d)
      omega
    · rcases hA.cases with h1 | h1
      · exact absurd h1 e
      · have := ih (a / 2) (by omega) h1
        rw [upd_ne _ _ _ _ e]
        omega

/-- at one level a leaf has one node above it -/
theorem anc_level (k Q a j : Nat) (h1 : Q * 2 ^ k ≤ a) (h2 : a < 2 * Q * 2 ^ k) (h3 : Q ≤ j) (h4 : j < 2 * Q) : Anc j a ↔ a / 2 ^ k = j := by
  have hp : ∀ i, 0 < 2 ^ i := fun i => Nat.pow_pos (by decide)
  constructor
  · rintro ⟨i, hi⟩
    by_cases e : i = k
    · subst e; exact hi
    · by_cases hlt : i < k
      · obtain ⟨m, rfl⟩ : ∃ m, k = i + 1 + m := ⟨k - i - 1, by omega⟩
        have : 2 * Q ≤ a / 2 ^ i := by
          rw [Nat.le_div_iff_mul_le (hp i)]
          refine Nat.le_trans ?_ h1
          rw [Nat.pow_add, Nat.pow_add, Nat.pow_one]
          have h5 : 2 * Q * 2 ^ i = Q * (2 ^ i * 2 * 1) := by
            rw [Nat.mul_one, Nat.mul_comm 2 Q, Nat.mul_assoc, Nat.mul_comm 2 (2 ^ i)]
          rw [h5]
          exact Nat.mul_le_mul_left _ (Nat.mul_le_mul_left _ (hp m))
        omega
      · obtain ⟨m, rfl⟩ : ∃ m, i = k + (1 + m) := ⟨i - k - 1, by omega⟩
        have h5 : a / 2 ^ k < 2 * Q := (Nat.div_lt_iff_lt_mul (hp k)).2 h2
        rw [Nat.pow_add, ← Nat.div_div_eq_div_mul, Nat.pow_add, Nat.pow_one, ← Nat.div_div_eq_div_mul] at hi
        have h6 : a / 2 ^ k / 2 / 2 ^ m ≤ a / 2 ^ k / 2 := Nat.div_le_self _ _
        omega
  · intro h; exact ⟨k, h⟩

/-- the value of the slot whose leaf is l -/
def val (low add : Nat → Int) (l : Nat) : Int := low l + S add (l / 2)

/-- adding d at node j -/
def bumpL (low : Nat → Int) (j : Nat) (d : Int) : Nat → Int := upd low j (wrap32 (low j + d))

theorem val_bump (low add : Nat → Int) (k Q j l : Nat) (d : Int) (hj1 : Q ≤ j) (hj2 : j < 2 * Q) (hQ : j ≠ 0) (hl1 : Q * 2 ^ k ≤ l) (hl2 : l < 2 * Q * 2 ^ k) :
    (l / 2 ^ k = j → val (bumpL low j d) (bumpL add j d) l % 4294967296 = (val low add l + d) % 4294967296) ∧
    (¬ l / 2 ^ k = j → val (bumpL low j d) (bumpL add j d) l = val low add l) := by
  unfold val bumpL
  cases k with
  | zero =>
    simp only [Nat.pow_zero, Nat.mul_one, Nat.div_one] at *
    have hna : ¬ Anc j (l / 2) := fun h => by have := h.le; omega
    rw [S_no add j _ (l / 2) (l / 2) (Nat.le_refl _) hna]
    constructor
    · rintro rfl; rw [upd_same]; have := wrap32_mod (low l + d); omega
    · intro h; rw [upd_ne _ _ _ _ h]
  | succ k =>
    have hp : 0 < 2 ^ k := Nat.pow_pos (by decide)
    have e1 : Q * 2 ^ (k + 1) = 2 * (Q * 2 ^ k) := by rw [Nat.pow_succ]; rw [← Nat.mul_assoc, Nat.mul_comm]
    have e2 : 2 * Q * 2 ^ (k + 1) = 2 * (2 * Q * 2 ^ k) := by rw [Nat.pow_succ]; rw [← Nat.mul_assoc, Nat.mul_comm]
    have e3 : Q ≤ Q * 2 ^ k := Nat.le_mul_of_pos_right _ hp
    have hl : l ≠ j := by omega
    have hlev := anc_level k Q (l / 2) j (by omega) (by omega) hj1 hj2
    rw [Nat.div_div_eq_div_mul, Nat.mul_comm 2, ← Nat.pow_succ] at hlev
    rw [upd_ne _ _ _ _ hl]
    constructor
    · intro h
      have := S_yes add j d hQ (l / 2) (l / 2) (Nat.le_refl _) (hlev.2 h)
      omega
    · intro h
      rw [S_no add j _ (l / 2) (l / 2) (Nat.le_refl _) (fun h' => h (hlev.1 h'))]

/-- where the climb from the leaves L and H stands, k levels up -/
structure Climb (a L H k lo hi : Nat) : Prop where
  l1 : L ≤ lo * 2 ^ k
  l2 : lo * 2 ^ k < L + 2 ^ k
  h1 : hi * 2 ^ k ≤ H
  h2 : H < hi * 2 ^ k + 2 ^ k
  fromL : 2 ^ a ≤ L
  toL : L < 2 * 2 ^ a
  toH : H ≤ 2 * 2 ^ a

theorem Climb.start {a L H : Nat} (h1 : 2 ^ a ≤ L) (h2 : L < 2 * 2 ^ a) (h3 : H ≤ 2 * 2 ^ a) : Climb a L H 0 L H :=
  ⟨by simp, by simp, by simp, by simp, h1, h2, h3⟩

theorem Climb.level {a L H k lo hi : Nat} (h : Climb a L H k lo hi) (hlt : lo < hi) : ∃ Q, 1 ≤ Q ∧ 2 ^ a = Q * 2 ^ k ∧ Q ≤ lo ∧ hi ≤ 2 * Q := by
  have hp : ∀ i, 0 < 2 ^ i := fun i => Nat.pow_pos (by decide)
  have := h.l1; have := h.h1; have := h.fromL; have := h.toH; have := hp k; have := hp a
  have hlo : 1 ≤ lo := by
    rcases Nat.eq_zero_or_pos lo with h0 | h0
    · subst h0; rw [Nat.zero_mul] at *; omega
    · exact h0
  have h2k : 2 * 2 ^ k ≤ hi * 2 ^ k := Nat.mul_le_mul_right _ (by omega)
  have hka : k ≤ a := by
    by_cases e : k ≤ a
    · exact e
    · have := Nat.pow_lt_pow_right (show 1 < 2 by decide) (show a < k by omega); omega
  have hs : 2 ^ a = 2 ^ (a - k) * 2 ^ k := by rw [← Nat.pow_add]; congr 1; omega
  refine ⟨2 ^ (a - k), hp _, hs, ?_, ?_⟩
  · refine Nat.le_of_mul_le_mul_right ?_ (hp k); rw [← hs]; omega
  · refine Nat.le_of_mul_le_mul_right ?_ (hp k); rw [Nat.mul_assoc, ← hs]; omega

theorem two_pow (k x : Nat) : x * 2 ^ (k + 1) = 2 * (x * 2 ^ k) := by rw [Nat.pow_succ, ← Nat.mul_assoc, Nat.mul_comm]

/-- one level up: p, q say whether lo, hi were odd -/
theorem Climb.next {a L H k lo hi lo' hi' : Nat} (h : Climb a L H k lo hi) (h1 : 2 * lo' = lo ∨ 2 * lo' = lo + 1) (h2 : 2 * hi' = hi ∨ 2 * hi' + 1 = hi) : Climb a L H (k + 1) lo' hi' := by
  have := h.l1; have := h.l2; have := h.h1; have := h.h2
  have e : 2 ^ (k + 1) = 2 * 2 ^ k := by rw [Nat.pow_succ, Nat.mul_comm]
  have e1 : lo' * 2 ^ (k + 1) = (2 * lo') * 2 ^ k := by rw [two_pow, Nat.mul_assoc]
  have e2 : hi' * 2 ^ (k + 1) = (2 * hi') * 2 ^ k := by rw [two_pow, Nat.mul_assoc]
  have f1 : (lo + 1) * 2 ^ k = lo * 2 ^ k + 2 ^ k := Nat.succ_mul _ _
  refine ⟨?_, ?_, ?_, ?_, h.fromL, h.toL, h.toH⟩
  · rcases h1 with h1 | h1 <;> rw [e1, h1] <;> omega
  · rcases h1 with h1 | h1 <;> rw [e1, e, h1] <;> omega
  · rcases h2 with h2 | h2
    · rw [e2, h2]; omega
    · have f2 : hi * 2 ^ k = 2 * hi' * 2 ^ k + 2 ^ k := by rw [← h2]; exact Nat.succ_mul _ _
      rw [e2]; omega
  · rcases h2 with h2 | h2
    · rw [e2, e, h2]; omega
    · have f2 : hi * 2 ^ k = 2 * hi' * 2 ^ k + 2 ^ k := by rw [← h2]; exact Nat.succ_mul _ _
      rw [e2, e]; omega

/-- which leaves have been given d when the climb stands at lo, hi -/
def Cov (low0 add0 : Nat → Int) (a L H k lo hi : Nat) (d : Int) (low add : Nat → Int) : Prop :=
  ∀ l, 2 ^ a ≤ l → l < 2 * 2 ^ a →
    (((L ≤ l ∧ l < lo * 2 ^ k) ∨ (hi * 2 ^ k ≤ l ∧ l < H)) → val low add l % 4294967296 = (val low0 add0 l + d) % 4294967296) ∧
    (¬ ((L ≤ l ∧ l < lo * 2 ^ k) ∨ (hi * 2 ^ k ≤ l ∧ l < H)) → val low add l % 4294967296 = val low0 add0 l % 4294967296)

theorem div_iff (l k j : Nat) : l / 2 ^ k = j ↔ j * 2 ^ k ≤ l ∧ l < j * 2 ^ k + 2 ^ k := by
  have hp : 0 < 2 ^ k := Nat.pow_pos (by decide)
  constructor
  · rintro rfl
    have h1 := Nat.div_mul_le_self l (2 ^ k)
    have h2 := Nat.lt_div_mul_add (a := l) hp
    omega
  · rintro ⟨h1, h2⟩
    have a1 := (Nat.le_div_iff_mul_le hp).2 h1
    have a2 : l / 2 ^ k < j + 1 := (Nat.div_lt_iff_lt_mul hp).2 (by rw [Nat.succ_mul]; exact h2)
    omega

theorem Cov.lo {low0 add0 low add : Nat → Int} {a L H k lo hi : Nat} {d : Int} (h : Cov low0 add0 a L H k lo hi d low add) (c : Climb a L H k lo hi) (hlt : lo < hi) :
    Cov low0 add0 a L H k (lo + 1) hi d (bumpL low lo d) (bumpL add lo d) := by
  intro l hl1 hl2
  obtain ⟨Q, hQ, hs, hq1, hq2⟩ := c.level hlt
  have hb := val_bump low add k Q lo l d hq1 (by omega) (by omega) (by omega) (by rw [Nat.mul_assoc, ← hs]; omega)
  have h0 := h l hl1 hl2
  have f1 : (lo + 1) * 2 ^ k = lo * 2 ^ k + 2 ^ k := Nat.succ_mul _ _
  have f2 : (lo + 1) * 2 ^ k ≤ hi * 2 ^ k := Nat.mul_le_mul_right _ hlt
  have := c.l1; have := c.h1
  rw [div_iff] at hb
  generalize lo * 2 ^ k = A at *
  generalize hi * 2 ^ k = B at *
  generalize 2 ^ k = P at *
  rw [f1] at *
  by_cases hin : A ≤ l ∧ l < A + P
  · refine ⟨fun _ => ?_, fun hn => ?_⟩
    · have e1 := hb.1 hin
      have e2 := h0.2 (by omega)
      omega
    · exact absurd (.inl ⟨by omega, by omega⟩) hn
  · have e1 := hb.2 hin
    rw [e1]
    exact ⟨fun hc => h0.1 (by omega), fun hc => h0.2 (by omega)⟩

theorem Cov.hi {low0 add0 low add : Nat → Int} {a L H k lo hi : Nat} {d : Int} (h : Cov low0 add0 a L H k lo (hi + 1) d low add) (Q : Nat) (_hQ : 1 ≤ Q) (hs : 2 ^ a = Q * 2 ^ k) (hq1 : Q ≤ hi) (hq2 : hi < 2 * Q)
    (hH : (hi + 1) * 2 ^ k ≤ H) (hle : lo ≤ hi) :
    Cov low0 add0 a L H k lo hi d (bumpL low hi d) (bumpL add hi d) := by
  intro l hl1 hl2
  have hb := val_bump low add k Q hi l d hq1 hq2 (by omega) (by omega) (by rw [Nat.mul_assoc, ← hs]; omega)
  have h0 := h l hl1 hl2
  have f1 : (hi + 1) * 2 ^ k = hi * 2 ^ k + 2 ^ k := Nat.succ_mul _ _
  have f2 : lo * 2 ^ k ≤ hi * 2 ^ k := Nat.mul_le_mul_right _ hle
  rw [div_iff] at hb
  rw [f1] at h0 hH
  clear f1
  generalize lo * 2 ^ k = A at *
  generalize hi * 2 ^ k = B at *
  generalize 2 ^ k = P at *
  by_cases hin : B ≤ l ∧ l < B + P
  · refine ⟨fun _ => ?_, fun hn => ?_⟩
    · have e1 := hb.1 hin
      have e2 := h0.2 (by omega)
      omega
    · exact absurd (.inr ⟨by omega, by omega⟩) hn
  · have e1 := hb.2 hin
    rw [e1]
    exact ⟨fun hc => h0.1 (by omega), fun hc => h0.2 (by omega)⟩

theorem Cov.next {low0 add0 low add : Nat → Int} {a L H k lo hi : Nat} {d : Int} (h : Cov low0 add0 a L H k (2 * lo) (2 * hi) d low add) : Cov low0 add0 a L H (k + 1) lo hi d low add := by
  intro l hl1 hl2
  have := h l hl1 hl2
  rw [two_pow, two_pow, ← Nat.mul_assoc, ← Nat.mul_assoc]
  exact this

theorem Cov.next2 {low0 add0 low add : Nat → Int} {a L H k lo hi lo' hi' : Nat} {d : Int} (h : Cov low0 add0 a L H k lo hi d low add) (h1 : lo = 2 * lo') (h2 : hi = 2 * hi') : Cov low0 add0 a L H (k + 1) lo' hi' d low add := by
  subst h1 h2; exact h.next

theorem Cov.start (low add : Nat → Int) (a L H : Nat) (d : Int) : Cov low add a L H 0 L H d low add := by
  intro l _ _
  rw [Nat.pow_zero, Nat.mul_one, Nat.mul_one]
  exact ⟨fun h => by omega, fun _ => rfl⟩

/-- the climb is done -/
theorem Cov.done {low0 add0 low add : Nat → Int} {a L H k lo hi : Nat} {d : Int} (h : Cov low0 add0 a L H k lo hi d low add) (c : Climb a L H k lo hi) (hge : hi ≤ lo)
    (hle : lo ≤ hi ∨ (k = 0 ∧ lo = L ∧ hi = H)) (l : Nat) (hl1 : 2 ^ a ≤ l) (hl2 : l < 2 * 2 ^ a) :
    ((L ≤ l ∧ l < H) → val low add l % 4294967296 = (val low0 add0 l + d) % 4294967296) ∧
    (¬ (L ≤ l ∧ l < H) → val low add l % 4294967296 = val low0 add0 l % 4294967296) := by
  have h0 := h l hl1 hl2
  have := c.l1; have := c.h1
  rcases hle with hle | ⟨rfl, rfl, rfl⟩
  · obtain rfl : lo = hi := by omega
    generalize lo * 2 ^ k = A at *
    exact ⟨fun hc => h0.1 (by omega), fun hc => h0.2 (by omega)⟩
  · simp only [Nat.pow_zero, Nat.mul_one] at h0
    exact ⟨fun hc => by omega, fun hc => h0.2 (by omega)⟩

def min2 (a b : Int) : Int := if b < a then b else a

/-- node m's low is its add and the lesser low below it -/
def Least (low add : Nat → Int) (m : Nat) : Prop := low m = wrap32 (add m + min2 (low (2 * m)) (low (2 * m + 1)))

theorem Least.same {low add low' add' : Nat → Int} {m : Nat} (h : Least low add m) (h1 : low' m = low m) (h2 : add' m = add m) (h3 : low' (2 * m) = low (2 * m)) (h4 : low' (2 * m + 1) = low (2 * m + 1)) : Least low' add' m := by
  unfold Least; rw [h1, h2, h3, h4]; exact h

theorem Least.bump {low add : Nat → Int} {m : Nat} (d : Int) (h : Least low add m) (hm : m ≠ 0) : Least (bumpL low m d) (bumpL add m d) m := by
  unfold Least bumpL
  rw [upd_same, upd_same, upd_ne _ _ _ _ (by omega), upd_ne _ _ _ _ (by omega), h, wrap32_left, wrap32_left]
  congr 1; omega

/-- every node is the least below it, but those at or above A or B -/
def Good (size : Nat) (low add : Nat → Int) (A B : Nat) : Prop := ∀ m, m ≠ 0 → m < size → ¬ Anc m A → ¬ Anc m B → Least low add m

theorem Good.bump {size : Nat} {low add : Nat → Int} {A B : Nat} (h : Good size low add A B) (t : Nat) (d : Int) (hp : t / 2 = 0 ∨ Anc (t / 2) A ∨ Anc (t / 2) B) :
    Good size (bumpL low t d) (bumpL add t d) A B := by
  intro m hm hs hA hB
  have h0 := h m hm hs hA hB
  by_cases e : m = t
  · subst e; exact h0.bump d hm
  · have hne : t / 2 ≠ m := by
      rintro rfl
      rcases hp with hp | hp | hp
      · exact hm hp
      · exact hA hp
      · exact hB hp
    exact h0.same (upd_ne _ _ _ _ e) (upd_ne _ _ _ _ e) (upd_ne _ _ _ _ (by omega)) (upd_ne _ _ _ _ (by omega))

def mended (low add : Nat → Int) (i : Nat) : Nat → Int := upd low i (wrap32 (add i + min2 (low (2 * i)) (low (2 * i + 1))))

theorem mended_least (low add : Nat → Int) (i : Nat) (hi : i ≠ 0) : Least (mended low add i) add i := by
  unfold Least mended
  rw [upd_same, upd_ne _ _ _ _ (by omega), upd_ne _ _ _ _ (by omega)]

theorem mended_other {low add : Nat → Int} (i : Nat) {m : Nat} (h : Least low add m) (h1 : m ≠ i) (h2 : i / 2 ≠ m) : Least (mended low add i) add m :=
  h.same (upd_ne _ _ _ _ h1) rfl (upd_ne _ _ _ _ (by omega)) (upd_ne _ _ _ _ (by omega))

theorem Good.one {size : Nat} {low add : Nat → Int} {i j : Nat} (h : Good size low add i j) (hi : i ≠ 0) : Good size (mended low add i) add (i / 2) j := by
  intro m hm hs hA hB
  by_cases e : m = i
  · subst e; exact mended_least low add m hi
  · refine mended_other i (h m hm hs (fun k => ?_) hB) e (fun k => hA (k ▸ Anc.self _))
    rcases k.cases with k | k
    · exact e k.symm
    · exact hA k

theorem Good.two {size : Nat} {low add : Nat → Int} {i j : Nat} (h : Good size low add i j) : Good size (mended low add j) add i (j / 2) := by
  intro m hm hs hA hB
  by_cases e : m = j
  · subst e; exact mended_least low add m hm
  · refine mended_other j (h m hm hs hA (fun k => ?_)) e (fun k => hB (k ▸ Anc.self _))
    rcases k.cases with k | k
    · exact e k.symm
    · exact hB k

theorem Good.same {size : Nat} {low add : Nat → Int} {i : Nat} (h : Good size low add i i) (hi : i ≠ 0) : Good size (mended low add i) add (i / 2) (i / 2) := by
  intro m hm hs hA _
  by_cases e : m = i
  · subst e; exact mended_least low add m hi
  · have hn : ¬ Anc m i := fun k => by
      rcases k.cases with k | k
      · exact e k.symm
      · exact hA k
    exact mended_other i (h m hm hs hn hn) e (fun k => hA (k ▸ Anc.self _))

/-- i and j stand at one level, or j above it -/
def Up (i j : Nat) : Prop := (i = 0 ∧ j = 0) ∨ ∃ k, 2 ^ k ≤ i ∧ i < 2 * 2 ^ k ∧ j < 2 * 2 ^ k

theorem Up.next {i j : Nat} (h : Up i j) (hi : i ≠ 0) : Up (i / 2) (j / 2) := by
  rcases h with ⟨h, _⟩ | ⟨k, h1, h2, h3⟩
  · exact absurd h hi
  · cases k with
    | zero => left; simp at *; omega
    | succ k =>
      right
      rw [Nat.pow_succ] at *
      exact ⟨k, by omega, by omega, by omega⟩

theorem Up.zero {i j : Nat} (h : Up i j) (hi : i = 0) : j = 0 := by
  rcases h with ⟨_, h⟩ | ⟨k, h1, _, _⟩
  · exact h
  · have : 0 < 2 ^ k := Nat.pow_pos (by decide)
    omega

theorem Up.start {a i j : Nat} (h1 : 2 ^ a ≤ i) (h2 : i < 2 * 2 ^ a) (h3 : j < 2 * 2 ^ a) : Up (i / 2) (j / 2) :=
  Up.next (.inr ⟨a, h1, h2, h3⟩) (by have : 0 < 2 ^ a := Nat.pow_pos (by decide)
                                     omega)

theorem Good.done {size : Nat} {low add : Nat → Int} (h : Good size low add 0 0) : ∀ m, m ≠ 0 → m < size → Least low add m := fun m hm hs =>
  h m hm hs (fun k => by have := k.le; omega) (fun k => by have := k.le; omega)

theorem Climb.ancLo {a L H k lo hi q : Nat} (h : Climb a L H k lo hi) (hq : lo = 2 * q + 1) : Anc q (L / 2) := by
  refine ⟨k, ?_⟩
  rw [Nat.div_div_eq_div_mul, Nat.mul_comm 2, ← Nat.pow_succ, div_iff]
  have := h.l1; have := h.l2
  have e : 2 ^ (k + 1) = 2 * 2 ^ k := by rw [Nat.pow_succ, Nat.mul_comm]
  have e1 : q * 2 ^ (k + 1) = (2 * q) * 2 ^ k := by rw [two_pow, Nat.mul_assoc]
  have e2 : lo * 2 ^ k = 2 * q * 2 ^ k + 2 ^ k := by rw [hq]; exact Nat.succ_mul _ _
  rw [e1, e]; omega

theorem Climb.ancHi {a L H k lo hi q : Nat} (h : Climb a L H k lo hi) (hq : hi = 2 * q + 1) : Anc q ((H - 1) / 2) := by
  refine ⟨k, ?_⟩
  rw [Nat.div_div_eq_div_mul, Nat.mul_comm 2, ← Nat.pow_succ, div_iff]
  have := h.h1; have := h.h2
  have hp : 0 < 2 ^ k := Nat.pow_pos (by decide)
  have e : 2 ^ (k + 1) = 2 * 2 ^ k := by rw [Nat.pow_succ, Nat.mul_comm]
  have e1 : q * 2 ^ (k + 1) = (2 * q) * 2 ^ k := by rw [two_pow, Nat.mul_assoc]
  have e2 : hi * 2 ^ k = 2 * q * 2 ^ k + 2 ^ k := by rw [hq]; exact Nat.succ_mul _ _
  rw [e1, e]; omega

/-- x is an int32 -/
def R (x : Int) : Prop := -2147483648 ≤ x ∧ x ≤ 2147483647
theorem R_wrap (x : Int) : R (wrap32 x) := by unfold R wrap32; omega
theorem R_upd {f : Nat → Int} (h : ∀ k, R (f k)) (i : Nat) (x : Int) : ∀ k, R (upd f i (wrap32 x) k) := by
  intro k
  by_cases e : k = i
  · subst e; rw [upd_same]; exact R_wrap x
  · rw [upd_ne _ _ _ _ e]; exact h k
theorem R_eq {x y : Int} (h1 : R x) (h2 : R y) (h : x % 4294967296 = y % 4294967296) : x = y := by unfold R at h1 h2; omega

theorem val_mended (low add : Nat → Int) (i l : Nat) (h : i ≠ l) : val (mended low add i) add l = val low add l := by
  unfold val mended; rw [upd_ne _ _ _ _ (fun e => h e.symm)]
end Go.Proofs.Qxb6601508a.Tree
