/-
  The plain law beneath the finder's table: the merge in place, the bottom-up merge sort, the stretches. No Go in sight.
-/
import Derived.Test.Qxb6601408aSortPlain
namespace Go.Proofs.Qxb6601408a.Fin
set_option linter.unusedVariables false

theorem cnt_cons (d : Nat → Int) (a : Nat) (v : Int) (k : Nat) : cnt d a v (k + 1) = (if d a = v then 1 else 0) + cnt d (a + 1) v k := by
  rw [Nat.add_comm k 1, cnt_add]; simp [cnt]
theorem cnt_shift (d : Nat → Int) (a e : Nat) (v : Int) : ∀ k, cnt (fun t => d (e + t)) a v k = cnt d (e + a) v k := by
  intro k
  induction k with
  | zero => rfl
  | succ k ih => rw [cnt, cnt, ih, Nat.add_assoc]

/-- sorted rows that hold the same, as often, are the same -/
theorem uniq : ∀ (m a a' : Nat) (d d' : Nat → Int), Sorted a (a + m) d → Sorted a' (a' + m) d' → (∀ v, cnt d a v m = cnt d' a' v m) → ∀ t, t < m → d (a + t) = d' (a' + t) := by
  intro m
  induction m with
  | zero => intro a a' d d' _ _ _ t ht; omega
  | succ m ih =>
    intro a a' d d' h h' hc t ht
    have hl : d (a + m) = d' (a' + m) := by
      have e1 := pos_cnt (d := d) (a := a) (i := a + m) (k := m + 1) (by omega) (by omega)
      rw [hc] at e1
      obtain ⟨i, i1, i2, i3⟩ := cnt_pos e1
      have e2 := pos_cnt (d := d') (a := a') (i := a' + m) (k := m + 1) (by omega) (by omega)
      rw [← hc] at e2
      obtain ⟨j, j1, j2, j3⟩ := cnt_pos e2
      have g1 : d' i ≤ d' (a' + m) := by
        by_cases e : i = a' + m
        · rw [e]; exact Int.le_refl _
        · exact h' i (a' + m) i1 (by omega) (by omega)
      have g2 : d j ≤ d (a + m) := by
        by_cases e : j = a + m
        · rw [e]; exact Int.le_refl _
        · exact h j (a + m) j1 (by omega) (by omega)
      omega
    by_cases e : t = m
    · rw [e]; exact hl
    · refine ih a a' d d' (h.sub (Nat.le_refl _) (by omega)) (h'.sub (Nat.le_refl _) (by omega)) (fun v => ?_) t (by omega)
      have := hc v
      rw [cnt, cnt, hl] at this
      omega

/-! ### the merge in place, from the end down: I places of the left run and J of the right are still to come -/
structure Mrg (mid n I J : Nat) (d d1 : Nat → Int) : Prop where
  li : I ≤ mid
  lj : J + mid ≤ n
  left : ∀ t, t < I → d1 t = d t
  out : ∀ t, n ≤ t → d1 t = d t
  cnt : ∀ v, cnt d1 (I + J) v (n - (I + J)) = cnt d I v (mid - I) + cnt d (mid + J) v (n - (mid + J))
  sorted : Sorted (I + J) n d1
  ge1 : ∀ t p, t < I → I + J ≤ p → p < n → d t ≤ d1 p
  ge2 : ∀ t p, t < J → I + J ≤ p → p < n → d (mid + t) ≤ d1 p
theorem Mrg.start {mid n : Nat} (d : Nat → Int) (h : mid ≤ n) : Mrg mid n mid (n - mid) d d :=
  ⟨Nat.le_refl _, by omega, fun _ _ => rfl, fun _ _ => rfl, fun v => by
    rw [show n - (mid + (n - mid)) = 0 from by omega, show mid - mid = 0 from by omega]; rfl, fun p q h1 h2 h3 => by omega, fun t p h1 h2 h3 => by omega, fun t p h1 h2 h3 => by omega⟩
theorem Mrg.stepL {mid n I J : Nat} {d d1 : Nat → Int} (h : Mrg mid n (I + 1) (J + 1) d d1) (s1 : Sorted 0 mid d) (s2 : Sorted mid n d) (hgt : d (mid + J) < d I) : Mrg mid n I (J + 1) d (upd d1 (I + J + 1) (d I)) := by
  have hi := h.li; have hj := h.lj
  have e0 : ∀ t, t ≠ I + J + 1 → upd d1 (I + J + 1) (d I) t = d1 t := fun t ht => upd_ne _ _ _ _ ht
  have e1 : upd d1 (I + J + 1) (d I) (I + J + 1) = d I := upd_same _ _ _
  refine ⟨by omega, hj, fun t ht => by rw [e0 t (by omega)]; exact h.left t (by omega), fun t ht => by rw [e0 t (by omega)]; exact h.out t ht, fun v => ?_, fun p q g1 g2 g3 => ?_, fun t p g1 g2 g3 => ?_, fun t p g1 g2 g3 => ?_⟩
  · have hc := h.cnt v
    rw [show I + 1 + (J + 1) = I + J + 2 from by omega] at hc
    rw [show n - (I + (J + 1)) = (n - (I + J + 2)) + 1 from by omega, show I + (J + 1) = I + J + 1 from by omega, cnt_cons, e1, show I + J + 1 + 1 = I + J + 2 from by omega,
      cnt_congr (d' := upd d1 (I + J + 1) (d I)) (d := d1) v _ (fun i g1 g2 => e0 i (by omega)), hc, show mid - I = (mid - (I + 1)) + 1 from by omega, cnt_cons]
    omega
  · have g4 : d1 q = upd d1 (I + J + 1) (d I) q := (e0 q (by omega)).symm
    rw [← g4]
    by_cases e : p = I + J + 1
    · rw [e, e1]; exact h.ge1 I q (by omega) (by omega) g3
    · rw [e0 p e]; exact h.sorted p q (by omega) g2 g3
  · by_cases e : p = I + J + 1
    · rw [e, e1]; exact s1 t I (by omega) g1 (by omega)
    · rw [e0 p e]; exact h.ge1 t p (by omega) (by omega) g3
  · by_cases e : p = I + J + 1
    · rw [e, e1]
      by_cases e2 : t = J
      · rw [e2]; omega
      · have := s2 (mid + t) (mid + J) (by omega) (by omega) (by omega); omega
    · rw [e0 p e]; exact h.ge2 t p (by omega) (by omega) g3
theorem Mrg.stepR {mid n I J : Nat} {d d1 : Nat → Int} (h : Mrg mid n I (J + 1) d d1) (s1 : Sorted 0 mid d) (s2 : Sorted mid n d) (hle : I = 0 ∨ d (I - 1) ≤ d (mid + J)) : Mrg mid n I J d (upd d1 (I + J) (d (mid + J))) := by
  have hi := h.li; have hj := h.lj
  have e0 : ∀ t, t ≠ I + J → upd d1 (I + J) (d (mid + J)) t = d1 t := fun t ht => upd_ne _ _ _ _ ht
  have e1 : upd d1 (I + J) (d (mid + J)) (I + J) = d (mid + J) := upd_same _ _ _
  refine ⟨hi, by omega, fun t ht => by rw [e0 t (by omega)]; exact h.left t ht, fun t ht => by rw [e0 t (by omega)]; exact h.out t ht, fun v => ?_, fun p q g1 g2 g3 => ?_, fun t p g1 g2 g3 => ?_, fun t p g1 g2 g3 => ?_⟩
  · have hc := h.cnt v
    rw [show I + (J + 1) = I + J + 1 from by omega] at hc
    rw [show n - (I + J) = (n - (I + J + 1)) + 1 from by omega, cnt_cons, e1, cnt_congr (d' := upd d1 (I + J) (d (mid + J))) (d := d1) v _ (fun i g1 g2 => e0 i (by omega)), hc,
      show n - (mid + J) = (n - (mid + (J + 1))) + 1 from by omega, cnt_cons, show mid + J + 1 = mid + (J + 1) from by omega]
    omega
  · have g4 : d1 q = upd d1 (I + J) (d (mid + J)) q := (e0 q (by omega)).symm
    rw [← g4]
    by_cases e : p = I + J
    · rw [e, e1]; exact h.ge2 J q (by omega) (by omega) g3
    · rw [e0 p e]; exact h.sorted p q (by omega) g2 g3
  · by_cases e : p = I + J
    · rw [e, e1]
      rcases hle with e2 | e2
      · omega
      · by_cases e3 : t = I - 1
        · rw [e3]; exact e2
        · have := s1 t (I - 1) (by omega) (by omega) (by omega); omega
    · rw [e0 p e]; exact h.ge1 t p g1 (by omega) g3
  · by_cases e : p = I + J
    · rw [e, e1]; exact s2 (mid + t) (mid + J) (by omega) (by omega) (by omega)
    · rw [e0 p e]; exact h.ge2 t p (by omega) (by omega) g3
theorem Mrg.done {mid n I : Nat} {d d1 : Nat → Int} (h : Mrg mid n I 0 d d1) (s1 : Sorted 0 mid d) : Perm 0 n d d1 ∧ Sorted 0 n d1 := by
  have hi := h.li; have hj := h.lj
  refine ⟨⟨fun i hi => h.out i (by omega), fun v => ?_⟩, fun p q g1 g2 g3 => ?_⟩
  · have hc := h.cnt v
    rw [Nat.add_zero, Nat.add_zero] at hc
    have a1 := cnt_add d1 0 v I (n - I)
    have a2 := cnt_add d 0 v mid (n - mid)
    have a3 := cnt_add d 0 v I (mid - I)
    have a4 := cnt_congr (d' := d1) (d := d) (a := 0) v I (fun i _ g => h.left i (by omega))
    rw [Nat.zero_add] at a1 a2 a3
    rw [show I + (n - I) = n from by omega] at a1
    rw [show mid + (n - mid) = n from by omega] at a2
    rw [show I + (mid - I) = mid from by omega] at a3
    rw [Nat.sub_zero]
    omega
  · by_cases c1 : q < I
    · rw [h.left p (by omega), h.left q c1]; exact s1 p q g1 g2 (by omega)
    · by_cases c2 : p < I
      · rw [h.left p c2]; exact h.ge1 p q c2 (by omega) g3
      · exact h.sorted p q (by omega) g2 g3

/-! ### the merge forward: a[lo, mid) and a[mid, hi) into buf[lo, hi); i and j are the heads -/
structure Fwd (lo mid hi i j : Nat) (d q : Nat → Int) : Prop where
  i1 : lo ≤ i
  i2 : i ≤ mid
  j1 : mid ≤ j
  j2 : j ≤ hi
  cnt : ∀ v, cnt q lo v (i + j - mid - lo) = cnt d lo v (i - lo) + cnt d mid v (j - mid)
  sorted : Sorted lo (i + j - mid) q
  le1 : ∀ t p, i ≤ t → t < mid → lo ≤ p → p < i + j - mid → q p ≤ d t
  le2 : ∀ t p, j ≤ t → t < hi → lo ≤ p → p < i + j - mid → q p ≤ d t
theorem Fwd.start {lo mid hi : Nat} (d q : Nat → Int) (h1 : lo ≤ mid) (h2 : mid ≤ hi) : Fwd lo mid hi lo mid d q :=
  ⟨Nat.le_refl _, h1, Nat.le_refl _, h2, fun v => by rw [show lo + mid - mid - lo = 0 from by omega, show lo - lo = 0 from by omega, show mid - mid = 0 from by omega]; rfl,
    fun p q g1 g2 g3 => by omega, fun t p g1 g2 g3 g4 => by omega, fun t p g1 g2 g3 g4 => by omega⟩
theorem Fwd.left {lo mid hi i j : Nat} {d q : Nat → Int} (h : Fwd lo mid hi i j d q) (s1 : Sorted lo mid d) (s2 : Sorted mid hi d) (hi1 : i < mid) (hle : hi ≤ j ∨ d i ≤ d j) : Fwd lo mid hi (i + 1) j d (upd q (i + j - mid) (d i)) := by
  have a1 := h.i1; have a3 := h.j1; have a4 := h.j2
  have e0 : ∀ t, t ≠ i + j - mid → upd q (i + j - mid) (d i) t = q t := fun t ht => upd_ne _ _ _ _ ht
  have e1 : upd q (i + j - mid) (d i) (i + j - mid) = d i := upd_same _ _ _
  have ek : i + 1 + j - mid = (i + j - mid) + 1 := by omega
  refine ⟨by omega, by omega, a3, a4, fun v => ?_, fun p r g1 g2 g3 => ?_, fun t p g1 g2 g3 g4 => ?_, fun t p g1 g2 g3 g4 => ?_⟩
  · have hc := h.cnt v
    rw [show i + 1 + j - mid - lo = (i + j - mid - lo) + 1 from by omega, Fin.cnt, show lo + (i + j - mid - lo) = i + j - mid from by omega, e1,
      cnt_congr (d' := upd q (i + j - mid) (d i)) (d := q) v _ (fun t g1 g2 => e0 t (by omega)), hc, show i + 1 - lo = (i - lo) + 1 from by omega, Fin.cnt, show lo + (i - lo) = i from by omega]
    omega
  · rw [ek] at g3
    rw [e0 p (by omega)]
    by_cases e : r = i + j - mid
    · rw [e, e1]; exact h.le1 i p (Nat.le_refl _) hi1 g1 (by omega)
    · rw [e0 r e]; exact h.sorted p r g1 g2 (by omega)
  · rw [ek] at g4
    by_cases e : p = i + j - mid
    · rw [e, e1]; exact s1 i t a1 (by omega) g2
    · rw [e0 p e]; exact h.le1 t p (by omega) g2 g3 (by omega)
  · rw [ek] at g4
    by_cases e : p = i + j - mid
    · rw [e, e1]
      rcases hle with e2 | e2
      · omega
      · by_cases e3 : t = j
        · rw [e3]; exact e2
        · have := s2 j t a3 (by omega) g2; omega
    · rw [e0 p e]; exact h.le2 t p g1 g2 g3 (by omega)
theorem Fwd.right {lo mid hi i j : Nat} {d q : Nat → Int} (h : Fwd lo mid hi i j d q) (s1 : Sorted lo mid d) (s2 : Sorted mid hi d) (hj : j < hi) (hle : mid ≤ i ∨ d j ≤ d i) : Fwd lo mid hi i (j + 1) d (upd q (i + j - mid) (d j)) := by
  have a1 := h.i1; have a2 := h.i2; have a3 := h.j1
  have e0 : ∀ t, t ≠ i + j - mid → upd q (i + j - mid) (d j) t = q t := fun t ht => upd_ne _ _ _ _ ht
  have e1 : upd q (i + j - mid) (d j) (i + j - mid) = d j := upd_same _ _ _
  have ek : i + (j + 1) - mid = (i + j - mid) + 1 := by omega
  refine ⟨a1, a2, by omega, by omega, fun v => ?_, fun p r g1 g2 g3 => ?_, fun t p g1 g2 g3 g4 => ?_, fun t p g1 g2 g3 g4 => ?_⟩
  · have hc := h.cnt v
    rw [show i + (j + 1) - mid - lo = (i + j - mid - lo) + 1 from by omega, Fin.cnt, show lo + (i + j - mid - lo) = i + j - mid from by omega, e1,
      cnt_congr (d' := upd q (i + j - mid) (d j)) (d := q) v _ (fun t g1 g2 => e0 t (by omega)), hc, show j + 1 - mid = (j - mid) + 1 from by omega, Fin.cnt, show mid + (j - mid) = j from by omega]
    omega
  · rw [ek] at g3
    rw [e0 p (by omega)]
    by_cases e : r = i + j - mid
    · rw [e, e1]; exact h.le2 j p (Nat.le_refl _) hj g1 (by omega)
    · rw [e0 r e]; exact h.sorted p r g1 g2 (by omega)
  · rw [ek] at g4
    by_cases e : p = i + j - mid
    · rw [e, e1]
      rcases hle with e2 | e2
      · omega
      · by_cases e3 : t = i
        · rw [e3]; exact e2
        · have := s1 i t a1 (by omega) g2; omega
    · rw [e0 p e]; exact h.le1 t p g1 g2 g3 (by omega)
  · rw [ek] at g4
    by_cases e : p = i + j - mid
    · rw [e, e1]; exact s2 j t a3 (by omega) g2
    · rw [e0 p e]; exact h.le2 t p (by omega) g2 g3 (by omega)
theorem Fwd.done {lo mid hi i j : Nat} {d q : Nat → Int} (h : Fwd lo mid hi i j d q) (hk : i + j - mid = hi) : (∀ v, Fin.cnt q lo v (hi - lo) = Fin.cnt d lo v (hi - lo)) ∧ Sorted lo hi q := by
  have a1 := h.i1; have a2 := h.i2; have a3 := h.j1; have a4 := h.j2
  have ei : i = mid := by omega
  have ej : j = hi := by omega
  subst ei ej
  refine ⟨fun v => ?_, by have := h.sorted; rw [hk] at this; exact this⟩
  have hc := h.cnt v
  rw [hk] at hc
  rw [hc, show j - lo = (i - lo) + (j - i) from by omega, cnt_add, show lo + (i - lo) = i from by omega]

/-- each aligned piece of width g is sorted -/
def Runs (g n : Nat) (d : Nat → Int) : Prop := ∀ a, Sorted (g * a) (min (g * a + g) n) d
theorem Runs.one (n : Nat) (d : Nat → Int) : Runs 1 n d := fun a p q h1 h2 h3 => by omega
theorem Runs.all {g n : Nat} {d : Nat → Int} (h : Runs g n d) (hg : n ≤ g) : Sorted 0 n d := fun p q h1 h2 h3 => h 0 p q (by omega) h2 (by omega)

/-! ### the stretches -/
def En (S X : Nat → Nat) : Nat → Nat
  | 0 => 0
  | b + 1 => En S X b + (X b - S b)
structure Dom (S X C : Nat → Nat) (n : Nat) (d : Nat → Int) : Prop where
  sx : ∀ b, b < 256 → S b ≤ X b
  xs : ∀ b, b < 256 → X b ≤ S (b + 1)
  sc : ∀ b, b < 256 → S b ≤ C b
  cx : ∀ b, b < 256 → C b ≤ X b
  top : S 256 ≤ n
  asc : ∀ b, b < 256 → Sorted (S b) (C b) d
theorem Dom.en_le {S X C : Nat → Nat} {n : Nat} {d : Nat → Int} (h : Dom S X C n d) : ∀ b, b ≤ 256 → En S X b ≤ S b := by
  intro b
  induction b with
  | zero => intro _; exact Nat.zero_le _
  | succ b ih => intro hb; have h1 := ih (by omega); have h2 := h.sx b (by omega); have h3 := h.xs b (by omega); rw [En]; omega
theorem Dom.s_le {S X C : Nat → Nat} {n : Nat} {d : Nat → Int} (h : Dom S X C n d) : ∀ k b, b + k = 256 → S b ≤ n := by
  intro k
  induction k with
  | zero => intro b hb; have : b = 256 := by omega
            subst this; exact h.top
  | succ k ih => intro b hb; have h1 := ih (b + 1) (by omega); have h2 := h.sx b (by omega); have h3 := h.xs b (by omega); omega
theorem Dom.x_le {S X C : Nat → Nat} {n : Nat} {d : Nat → Int} (h : Dom S X C n d) (b : Nat) (hb : b < 256) : X b ≤ n := by
  have := h.xs b hb; have := h.s_le (255 - b) (b + 1) (by omega); omega
theorem En.mono (S X : Nat → Nat) : ∀ {b c : Nat}, b ≤ c → En S X b ≤ En S X c := by
  intro b c h
  induction c with
  | zero => have : b = 0 := by omega
            subst this; exact Nat.le_refl _
  | succ c ih =>
    by_cases e : b = c + 1
    · rw [e]; exact Nat.le_refl _
    · have := ih (by omega); rw [En]; omega

/-- b stretches are done: d1 holds them sorted, one behind the other; from En b on d1 is d -/
structure Str (S X : Nat → Nat) (b : Nat) (d d1 : Nat → Int) : Prop where
  sorted : ∀ c, c < b → Sorted (En S X c) (En S X (c + 1)) d1
  cnt : ∀ c, c < b → ∀ v, cnt d1 (En S X c) v (X c - S c) = cnt d (S c) v (X c - S c)
  rest : ∀ i, En S X b ≤ i → d1 i = d i
theorem Str.start (S X : Nat → Nat) (d : Nat → Int) : Str S X 0 d d := ⟨fun c h => by omega, fun c h => by omega, fun _ _ => rfl⟩
/-- one stretch: moved down (d2), then permuted within itself and sorted (d3) -/
theorem Str.step {S X C : Nat → Nat} {n b : Nat} {d d1 d2 d3 : Nat → Int} (hd : Dom S X C n d) (hb : b < 256) (h : Str S X b d d1)
    (h2 : ∀ t, t < X b - S b → d2 (En S X b + t) = d (S b + t)) (h2o : ∀ i, i < En S X b ∨ En S X (b + 1) ≤ i → d2 i = d1 i)
    (h3 : Perm (En S X b) (En S X (b + 1)) d2 d3) (h3s : Sorted (En S X b) (En S X (b + 1)) d3) : Str S X (b + 1) d d3 := by
  have hout : ∀ i, i < En S X b ∨ En S X (b + 1) ≤ i → d3 i = d1 i := fun i hi => (h3.out i hi).trans (h2o i hi)
  have hm : En S X b ≤ En S X (b + 1) := En.mono S X (by omega)
  refine ⟨fun c hc => ?_, fun c hc v => ?_, fun i hi => ?_⟩
  · by_cases e : c = b
    · subst e; exact h3s
    · have hm2 : En S X (c + 1) ≤ En S X b := En.mono S X (by omega)
      exact (h.sorted c (by omega)).congr fun i _ g => hout i (by omega)
  · by_cases e : c = b
    · subst e
      have hc3 := h3.cnt v
      have e1 : En S X (c + 1) - En S X c = X c - S c := by rw [En]; omega
      rw [e1] at hc3
      rw [hc3]
      have a1 := cnt_shift d2 0 (En S X c) v (X c - S c)
      have a2 := cnt_shift d 0 (S c) v (X c - S c)
      rw [Nat.add_zero] at a1 a2
      rw [← a1, ← a2]
      exact cnt_congr v _ fun i _ g => h2 i (by omega)
    · have hm2 : En S X (c + 1) ≤ En S X b := En.mono S X (by omega)
      have e1 : En S X (c + 1) = En S X c + (X c - S c) := rfl
      rw [cnt_congr v _ fun i g1 g2 => hout i (by omega)]
      exact h.cnt c (by omega) v
  · rw [hout i (by omega)]; exact h.rest i (by omega)
end Go.Proofs.Qxb6601408a.Fin
