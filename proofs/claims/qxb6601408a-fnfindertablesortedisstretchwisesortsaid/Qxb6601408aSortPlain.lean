/-
  The plain law beneath the sort: rows of numbers as functions of the place; permuting a stretch; insertion, heap, partitions. No Go in sight.
-/
namespace Go.Proofs.Qxb6601408a.Fin
set_option linter.unusedVariables false

def upd (f : Nat → Int) (i : Nat) (v : Int) : Nat → Int := fun k => if k = i then v else f k
theorem upd_same (f : Nat → Int) (i : Nat) (v : Int) : upd f i v i = v := by unfold upd; rw [if_pos rfl]
theorem upd_ne (f : Nat → Int) (i : Nat) (v : Int) (k : Nat) (h : k ≠ i) : upd f i v k = f k := by unfold upd; rw [if_neg h]

/-- d with the places i and j exchanged -/
def sw (d : Nat → Int) (i j : Nat) : Nat → Int := upd (upd d i (d j)) j (d i)
theorem sw_fst (d : Nat → Int) (i j : Nat) : sw d i j i = d j := by
  unfold sw
  by_cases h : i = j
  · subst h; rw [upd_same]
  · rw [upd_ne _ _ _ _ h, upd_same]
theorem sw_snd (d : Nat → Int) (i j : Nat) : sw d i j j = d i := by unfold sw; rw [upd_same]
theorem sw_ne (d : Nat → Int) (i j k : Nat) (h1 : k ≠ i) (h2 : k ≠ j) : sw d i j k = d k := by unfold sw; rw [upd_ne _ _ _ _ h2, upd_ne _ _ _ _ h1]

/-- how often v stands among the k places from a on -/
def cnt (d : Nat → Int) (a : Nat) (v : Int) : Nat → Nat
  | 0 => 0
  | k + 1 => cnt d a v k + if d (a + k) = v then 1 else 0

theorem cnt_congr {d d' : Nat → Int} {a : Nat} (v : Int) : ∀ k, (∀ i, a ≤ i → i < a + k → d' i = d i) → cnt d' a v k = cnt d a v k := by
  intro k
  induction k with
  | zero => intro _; rfl
  | succ k ih => intro h; rw [cnt, cnt, ih fun i h1 h2 => h i h1 (by omega), h (a + k) (by omega) (by omega)]

theorem cnt_upd (d : Nat → Int) (a i : Nat) (x v : Int) : ∀ k, a ≤ i → i < a + k → cnt (upd d i x) a v k + (if d i = v then 1 else 0) = cnt d a v k + (if x = v then 1 else 0) := by
  intro k
  induction k with
  | zero => intro h1 h2; omega
  | succ k ih =>
    intro h1 h2
    rw [cnt, cnt]
    by_cases e : i = a + k
    · subst e
      rw [cnt_congr (d' := upd d (a + k) x) (d := d) v k (fun j _ hj => upd_ne _ _ _ _ (by omega)), upd_same]
      omega
    · have := ih h1 (by omega)
      rw [upd_ne _ _ _ _ (fun h => e h.symm)]
      omega

theorem cnt_add (d : Nat → Int) (a : Nat) (v : Int) (k : Nat) : ∀ m, cnt d a v (k + m) = cnt d a v k + cnt d (a + k) v m := by
  intro m
  induction m with
  | zero => rfl
  | succ m ih => rw [← Nat.add_assoc, cnt, ih, cnt, Nat.add_assoc a k m]; omega

theorem cnt_pos {d : Nat → Int} {a : Nat} {v : Int} : ∀ {k}, 0 < cnt d a v k → ∃ i, a ≤ i ∧ i < a + k ∧ d i = v := by
  intro k
  induction k with
  | zero => intro h; exact absurd h (Nat.lt_irrefl 0)
  | succ k ih =>
    intro h
    rw [cnt] at h
    by_cases e : d (a + k) = v
    · exact ⟨a + k, by omega, by omega, e⟩
    · rw [if_neg e] at h
      obtain ⟨i, h1, h2, h3⟩ := ih h
      exact ⟨i, h1, by omega, h3⟩
theorem pos_cnt {d : Nat → Int} {a i : Nat} : ∀ {k}, a ≤ i → i < a + k → 0 < cnt d a (d i) k := by
  intro k
  induction k with
  | zero => intro h1 h2; omega
  | succ k ih =>
    intro h1 h2
    rw [cnt]
    by_cases e : i = a + k
    · subst e; rw [if_pos rfl]; omega
    · have := ih h1 (by omega); omega

/-- d' is d with the places a ≤ i < b permuted among themselves -/
structure Perm (a b : Nat) (d d' : Nat → Int) : Prop where
  out : ∀ i, i < a ∨ b ≤ i → d' i = d i
  cnt : ∀ v, cnt d' a v (b - a) = cnt d a v (b - a)

theorem Perm.refl (a b : Nat) (d : Nat → Int) : Perm a b d d := ⟨fun _ _ => rfl, fun _ => rfl⟩
theorem Perm.trans {a b : Nat} {d d' d'' : Nat → Int} (h : Perm a b d d') (k : Perm a b d' d'') : Perm a b d d'' :=
  ⟨fun i hi => (k.out i hi).trans (h.out i hi), fun v => (k.cnt v).trans (h.cnt v)⟩
theorem Perm.symm {a b : Nat} {d d' : Nat → Int} (h : Perm a b d d') : Perm a b d' d := ⟨fun i hi => (h.out i hi).symm, fun v => (h.cnt v).symm⟩
theorem Perm.mono {a b a' b' : Nat} {d d' : Nat → Int} (h : Perm a b d d') (h1 : a' ≤ a) (h2 : a ≤ b) (h3 : b ≤ b') : Perm a' b' d d' := by
  refine ⟨fun i hi => h.out i (by omega), fun v => ?_⟩
  have e : b' - a' = (a - a') + ((b - a) + (b' - b)) := by omega
  have e1 : a' + (a - a') = a := by omega
  have e2 : a + (b - a) = b := by omega
  rw [e, cnt_add, cnt_add, cnt_add, cnt_add, e1, e2, h.cnt v, cnt_congr v (a - a') (fun i _ hi => h.out i (by omega)), cnt_congr v (b' - b) (fun i hi _ => h.out i (by omega))]
theorem Perm.all {a b : Nat} {d d' : Nat → Int} (h : Perm a b d d') {P : Int → Prop} (hp : ∀ i, a ≤ i → i < b → P (d i)) : ∀ i, a ≤ i → i < b → P (d' i) := by
  intro i h1 h2
  have hc := pos_cnt (d := d') (k := b - a) h1 (by omega)
  rw [h.cnt] at hc
  obtain ⟨j, g1, g2, g3⟩ := cnt_pos hc
  rw [← g3]
  exact hp j g1 (by omega)
theorem Perm.sw {a b : Nat} (d : Nat → Int) (i j : Nat) (h1 : a ≤ i) (h2 : i < b) (h3 : a ≤ j) (h4 : j < b) : Perm a b d (sw d i j) := by
  refine ⟨fun k hk => sw_ne _ _ _ _ (by omega) (by omega), fun v => ?_⟩
  by_cases e : i = j
  · subst e
    refine cnt_congr v _ fun k _ _ => ?_
    by_cases e : k = i
    · subst e; exact sw_fst _ _ _
    · exact sw_ne _ _ _ _ e e
  · have u1 := cnt_upd d a i (d j) v (b - a) h1 (by omega)
    have u2 := cnt_upd (upd d i (d j)) a j (d i) v (b - a) h3 (by omega)
    rw [upd_ne _ _ _ _ (fun h => e h.symm)] at u2
    unfold Fin.sw
    omega

def Sorted (a b : Nat) (d : Nat → Int) : Prop := ∀ i j, a ≤ i → i < j → j < b → d i ≤ d j

theorem Sorted.congr {a b : Nat} {d d' : Nat → Int} (h : Sorted a b d) (e : ∀ i, a ≤ i → i < b → d' i = d i) : Sorted a b d' := fun i j h1 h2 h3 => by
  rw [e i h1 (by omega), e j (by omega) h3]; exact h i j h1 h2 h3
theorem Sorted.sub {a b a' b' : Nat} {d : Nat → Int} (h : Sorted a b d) (h1 : a ≤ a') (h2 : b' ≤ b) : Sorted a' b' d := fun i j k1 k2 k3 => h i j (by omega) k2 (by omega)
theorem Sorted.one (a : Nat) (d : Nat → Int) : Sorted a (a + 1) d := fun i j h1 h2 h3 => by omega
theorem Sorted.snoc {a i : Nat} {d : Nat → Int} (h : Sorted a i d) (hi : a < i) (hle : d (i - 1) ≤ d i) : Sorted a (i + 1) d := by
  intro p q h1 h2 h3
  by_cases e : q = i
  · subst e
    by_cases e2 : p = q - 1
    · subst e2; exact hle
    · exact Int.le_trans (h p (q - 1) h1 (by omega) (by omega)) hle
  · exact h p q h1 h2 (by omega)

/-! ### insertion: the place j is on its way down in [a, m] -/
structure Ins (a m j : Nat) (d : Nat → Int) : Prop where
  rest : ∀ p q, a ≤ p → p < q → q ≤ m → p ≠ j → q ≠ j → d p ≤ d q
  less : ∀ q, j < q → q ≤ m → d j ≤ d q

theorem Ins.start {a m : Nat} {d : Nat → Int} (h : Sorted a m d) : Ins a m m d := ⟨fun p q h1 h2 h3 h4 h5 => h p q h1 h2 (by omega), fun q h1 h2 => by omega⟩
theorem Ins.step {a m j : Nat} {d : Nat → Int} (h : Ins a m j d) (hj : a < j) (hm : j ≤ m) (hl : d j < d (j - 1)) : Ins a m (j - 1) (sw d j (j - 1)) := by
  have e1 : sw d j (j - 1) j = d (j - 1) := sw_fst _ _ _
  have e2 : sw d j (j - 1) (j - 1) = d j := sw_snd _ _ _
  have e3 : ∀ k, k ≠ j → k ≠ j - 1 → sw d j (j - 1) k = d k := fun k a b => sw_ne _ _ _ _ a b
  refine ⟨fun p q h1 h2 h3 h4 h5 => ?_, fun q h1 h2 => ?_⟩
  · by_cases c1 : p = j
    · subst c1; rw [e1, e3 q (by omega) (by omega)]; exact h.rest _ _ (by omega) (by omega) h3 (by omega) (by omega)
    · rw [e3 p c1 h4]
      by_cases c2 : q = j
      · subst c2; rw [e1]; exact h.rest _ _ h1 (by omega) (by omega) c1 (by omega)
      · rw [e3 q c2 h5]; exact h.rest _ _ h1 h2 h3 c1 c2
  · rw [e2]
    by_cases c1 : q = j
    · subst c1; rw [e1]; omega
    · rw [e3 q c1 (by omega)]; exact h.less q (by omega) h2
theorem Ins.stop {a m j : Nat} {d : Nat → Int} (h : Ins a m j d) (hm : j ≤ m) (hs : j ≤ a ∨ ¬ d j < d (j - 1)) : Sorted a (m + 1) d := by
  intro p q h1 h2 h3
  by_cases c1 : p = j
  · subst c1; exact h.less q h2 (by omega)
  · by_cases c2 : q = j
    · subst c2
      rcases hs with hs | hs
      · omega
      · by_cases c3 : p = q - 1
        · subst c3; omega
        · have := h.rest p (q - 1) h1 (by omega) (by omega) c1 (by omega); omega
    · exact h.rest p q h1 h2 (by omega) c1 c2

/-! ### the heap: places f + i, i < hi -/
def Heap (f hi lo : Nat) (d : Nat → Int) : Prop := ∀ i c, lo ≤ i → c < hi → (c = 2 * i + 1 ∨ c = 2 * i + 2) → d (f + c) ≤ d (f + i)
/-- a heap but for the place r, which is on its way down -/
structure Sift (f hi lo r : Nat) (d : Nat → Int) : Prop where
  rest : ∀ i c, lo ≤ i → i ≠ r → c < hi → (c = 2 * i + 1 ∨ c = 2 * i + 2) → d (f + c) ≤ d (f + i)
  up : ∀ q c, lo ≤ q → (r = 2 * q + 1 ∨ r = 2 * q + 2) → c < hi → (c = 2 * r + 1 ∨ c = 2 * r + 2) → d (f + c) ≤ d (f + q)
  ge : lo ≤ r

theorem Sift.start {f hi lo : Nat} {d : Nat → Int} (h : Heap f hi (lo + 1) d) : Sift f hi lo lo d :=
  ⟨fun i c h1 h2 h3 h4 => h i c (by omega) h3 h4, fun q c h1 h2 h3 h4 => by omega, Nat.le_refl _⟩
theorem Sift.stop {f hi lo r : Nat} {d : Nat → Int} (h : Sift f hi lo r d) (hs : ∀ c, c < hi → (c = 2 * r + 1 ∨ c = 2 * r + 2) → d (f + c) ≤ d (f + r)) : Heap f hi lo d := fun i c h1 h2 h3 => by
  by_cases e : i = r
  · subst e; exact hs c h2 h3
  · exact h.rest i c h1 e h2 h3
theorem Sift.step {f hi lo r c : Nat} {d : Nat → Int} (h : Sift f hi lo r d) (hc : c = 2 * r + 1 ∨ c = 2 * r + 2) (hch : c < hi) (hlt : d (f + r) < d (f + c))
    (hmax : ∀ c', c' < hi → (c' = 2 * r + 1 ∨ c' = 2 * r + 2) → d (f + c') ≤ d (f + c)) : Sift f hi lo c (sw d (f + r) (f + c)) := by
  have e1 : sw d (f + r) (f + c) (f + r) = d (f + c) := sw_fst _ _ _
  have e2 : sw d (f + r) (f + c) (f + c) = d (f + r) := sw_snd _ _ _
  have e3 : ∀ k, k ≠ r → k ≠ c → sw d (f + r) (f + c) (f + k) = d (f + k) := fun k a b => sw_ne _ _ _ _ (by omega) (by omega)
  have hge := h.ge
  refine ⟨fun i x h1 h2 h3 h4 => ?_, fun q x h1 h2 h3 h4 => ?_, by omega⟩
  · by_cases c1 : i = r
    · subst c1
      rw [e1]
      by_cases c2 : x = c
      · subst c2; rw [e2]; omega
      · rw [e3 x (by omega) c2]; exact hmax x h3 h4
    · rw [e3 i c1 h2]
      by_cases c2 : x = r
      · subst c2; rw [e1]; exact h.up i c h1 h4 hch hc
      · by_cases c3 : x = c
        · omega
        · rw [e3 x c2 c3]; exact h.rest i x h1 c1 h3 h4
  · have hq : q = r := by omega
    subst hq
    rw [e1, e3 x (by omega) (by omega)]
    exact h.rest c x (by omega) (by omega) h3 h4
theorem Heap.top {f hi : Nat} {d : Nat → Int} (h : Heap f hi 0 d) : ∀ n i, i ≤ n → i < hi → d (f + i) ≤ d (f + 0) := by
  intro n
  induction n with
  | zero => intro i h1 _; have : i = 0 := by omega
            subst this; exact Int.le_refl _
  | succ n ih =>
    intro i h1 h2
    by_cases e : i = 0
    · subst e; exact Int.le_refl _
    · have h3 := h ((i - 1) / 2) i (Nat.zero_le _) h2 (by omega)
      have h4 := ih ((i - 1) / 2) (by omega) (by omega)
      omega

/-! ### the two partitions -/
/-- i and j close in: left of i all are less than the pivot at a, right of j none is -/
structure Part (a b i j : Nat) (d : Nat → Int) : Prop where
  i1 : a < i
  ij : i ≤ j + 1
  jb : j < b
  left : ∀ k, a < k → k < i → d k < d a
  right : ∀ k, j < k → k < b → ¬ d k < d a
theorem Part.up {a b i j : Nat} {d : Nat → Int} (h : Part a b i j d) (hij : i ≤ j) (hl : d i < d a) : Part a b (i + 1) j d :=
  ⟨by have := h.i1; omega, by omega, h.jb, fun k h1 h2 => if e : k = i then by rw [e]; exact hl else h.left k h1 (by omega), h.right⟩
theorem Part.down {a b i j : Nat} {d : Nat → Int} (h : Part a b i j d) (hij : i ≤ j) (hl : ¬ d j < d a) : Part a b i (j - 1) d :=
  ⟨h.i1, by have := h.i1; omega, by have := h.jb; omega, h.left, fun k h1 h2 => if e : k = j then by rw [e]; exact hl else h.right k (by omega) h2⟩
theorem Part.swap {a b i j : Nat} {d : Nat → Int} (h : Part a b i j d) (hij : i ≤ j) (hi : ¬ d i < d a) (hj : d j < d a) : Part a b (i + 1) (j - 1) (sw d i j) := by
  have h1 := h.i1
  have hne : i ≠ j := fun e => by subst e; exact hi hj
  have ea : sw d i j a = d a := sw_ne _ _ _ _ (by omega) (by omega)
  refine ⟨by omega, by omega, by have := h.jb; omega, fun k h2 h3 => ?_, fun k h2 h3 => ?_⟩
  · rw [ea]
    by_cases e : k = i
    · subst e; rw [sw_fst]; exact hj
    · rw [sw_ne _ _ _ _ e (by omega)]; exact h.left k h2 (by omega)
  · rw [ea]
    by_cases e : k = j
    · subst e; rw [sw_snd]; exact hi
    · rw [sw_ne _ _ _ _ (by omega) e]; exact h.right k (by omega) h3
structure Parted (a b mid : Nat) (d : Nat → Int) : Prop where
  lo : a ≤ mid
  hi : mid < b
  left : ∀ k, a ≤ k → k < mid → d k ≤ d mid
  right : ∀ k, mid < k → k < b → d mid ≤ d k
theorem Part.done {a b i j : Nat} {d : Nat → Int} (h : Part a b i j d) (hij : ¬ i ≤ j) : Parted a b j (sw d j a) := by
  have h1 := h.i1
  have hij' : i = j + 1 := by have := h.ij; omega
  refine ⟨by omega, h.jb, fun k h2 h3 => ?_, fun k h2 h3 => ?_⟩
  · rw [sw_fst]
    by_cases e : k = a
    · subst e; rw [sw_snd]; have := h.left j (by omega) (by omega); omega
    · rw [sw_ne _ _ _ _ (by omega) e]; have := h.left k (by omega) (by omega); omega
  · rw [sw_fst, sw_ne _ _ _ _ (by omega) (by omega)]; have := h.right k h2 h3; omega
/-- the same against 'not greater' -/
structure PartE (a b i j : Nat) (d : Nat → Int) : Prop where
  i1 : a < i
  ij : i ≤ j + 1
  jb : j < b
  left : ∀ k, a < k → k < i → ¬ d a < d k
  right : ∀ k, j < k → k < b → d a < d k
theorem PartE.up {a b i j : Nat} {d : Nat → Int} (h : PartE a b i j d) (hij : i ≤ j) (hl : ¬ d a < d i) : PartE a b (i + 1) j d :=
  ⟨by have := h.i1; omega, by omega, h.jb, fun k h1 h2 => if e : k = i then by rw [e]; exact hl else h.left k h1 (by omega), h.right⟩
theorem PartE.down {a b i j : Nat} {d : Nat → Int} (h : PartE a b i j d) (hij : i ≤ j) (hl : d a < d j) : PartE a b i (j - 1) d :=
  ⟨h.i1, by have := h.i1; omega, by have := h.jb; omega, h.left, fun k h1 h2 => if e : k = j then by rw [e]; exact hl else h.right k (by omega) h2⟩
theorem PartE.swap {a b i j : Nat} {d : Nat → Int} (h : PartE a b i j d) (hij : i ≤ j) (hi : d a < d i) (hj : ¬ d a < d j) : PartE a b (i + 1) (j - 1) (sw d i j) := by
  have h1 := h.i1
  have hne : i ≠ j := fun e => by subst e; exact hj hi
  have ea : sw d i j a = d a := sw_ne _ _ _ _ (by omega) (by omega)
  refine ⟨by omega, by omega, by have := h.jb; omega, fun k h2 h3 => ?_, fun k h2 h3 => ?_⟩
  · rw [ea]
    by_cases e : k = i
    · subst e; rw [sw_fst]; exact hj
    · rw [sw_ne _ _ _ _ e (by omega)]; exact h.left k h2 (by omega)
  · rw [ea]
    by_cases e : k = j
    · subst e; rw [sw_snd]; exact hi
    · rw [sw_ne _ _ _ _ (by omega) e]; exact h.right k (by omega) h3

/-! ### the recursion: [a, b) is still to be sorted within [a0, b0) -/
structure To (a0 b0 a b : Nat) (d0 d : Nat → Int) : Prop where
  perm : Perm a0 b0 d0 d
  lo : a0 ≤ a
  ab : a ≤ b
  hi : b ≤ b0
  out : ∀ i j, a0 ≤ i → i < j → j < b0 → (i < a ∨ b ≤ j) → d i ≤ d j
  below : a = 0 ∨ ∀ i, a ≤ i → i < b → d (a - 1) ≤ d i

theorem To.start {a b : Nat} {d : Nat → Int} (hab : a ≤ b) (hb : a = 0 ∨ ∀ i, a ≤ i → i < b → d (a - 1) ≤ d i) : To a b a b d d :=
  ⟨Perm.refl _ _ _, Nat.le_refl _, hab, Nat.le_refl _, fun i j h1 h2 h3 h4 => by omega, hb⟩
theorem To.turn {a0 b0 a b : Nat} {d0 d d' : Nat → Int} (h : To a0 b0 a b d0 d) (k : Perm a b d d') : To a0 b0 a b d0 d' := by
  refine ⟨h.perm.trans (k.mono h.lo h.ab h.hi), h.lo, h.ab, h.hi, fun i j h1 h2 h3 h4 => ?_, ?_⟩
  · by_cases c1 : a ≤ i ∧ i < b
    · rw [k.out j (by omega)]
      exact k.all (P := fun x => x ≤ d j) (fun i g1 g2 => h.out i j (by have := h.lo; omega) (by omega) h3 (by omega)) i c1.1 c1.2
    · rw [k.out i (by omega)]
      by_cases c2 : a ≤ j ∧ j < b
      · exact k.all (P := fun x => d i ≤ x) (fun j g1 g2 => h.out i j h1 (by omega) (by have := h.hi; omega) (by omega)) j c2.1 c2.2
      · rw [k.out j (by omega)]; exact h.out i j h1 h2 h3 h4
  · rcases h.below with e | hb
    · exact .inl e
    · by_cases e : a = 0
      · exact .inl e
      · refine .inr fun i g1 g2 => ?_
        rw [k.out (a - 1) (by omega)]
        exact k.all (P := fun x => d (a - 1) ≤ x) hb i g1 g2
theorem To.done {a0 b0 a b : Nat} {d0 d : Nat → Int} (h : To a0 b0 a b d0 d) (hs : Sorted a b d) : Perm a0 b0 d0 d ∧ Sorted a0 b0 d := by
  refine ⟨h.perm, fun i j h1 h2 h3 => ?_⟩
  by_cases c : i < a ∨ b ≤ j
  · exact h.out i j h1 h2 h3 c
  · exact hs i j (by omega) h2 (by omega)
/-- behind partitionEqual: [a, mid) are all equal, [mid, b) greater -/
theorem To.equal {a0 b0 a b mid : Nat} {d0 d : Nat → Int} (h : To a0 b0 a b d0 d) (pv : Int) (h1 : a < mid) (h2 : mid ≤ b) (h3 : ∀ k, a ≤ k → k < mid → d k = pv) (h4 : ∀ k, mid ≤ k → k < b → pv < d k) : To a0 b0 mid b d0 d := by
  refine ⟨h.perm, by have := h.lo; omega, h2, h.hi, fun i j g1 g2 g3 g4 => ?_, .inr fun i g1 g2 => ?_⟩
  · by_cases c : i < a ∨ b ≤ j
    · exact h.out i j g1 g2 g3 c
    · have hi : d i = pv := h3 i (by omega) (by omega)
      by_cases c2 : j < mid
      · rw [hi, h3 j (by omega) c2]; exact Int.le_refl _
      · have := h4 j (by omega) (by omega); omega
  · rw [h3 (mid - 1) (by omega) (by omega)]; have := h4 i g1 g2; omega
/-- behind partition, the left side sorted by itself: on with the right -/
theorem To.right {a0 b0 a b mid : Nat} {d0 d : Nat → Int} (h : To a0 b0 a b d0 d) (hp : Parted a b mid d) (hs : Sorted a mid d) : To a0 b0 (mid + 1) b d0 d := by
  have g0 := hp.lo; have g1 := hp.hi
  refine ⟨h.perm, by have := h.lo; omega, by omega, h.hi, fun i j k1 k2 k3 k4 => ?_, .inr fun i k1 k2 => ?_⟩
  · by_cases c : i < a ∨ b ≤ j
    · exact h.out i j k1 k2 k3 c
    · by_cases c2 : i = mid
      · subst c2; exact hp.right j (by omega) (by omega)
      · by_cases c3 : j < mid
        · exact hs i j (by omega) k2 c3
        · have u1 := hp.left i (by omega) (by omega)
          by_cases c4 : j = mid
          · subst c4; exact u1
          · have := hp.right j (by omega) (by omega); omega
  · rw [show mid + 1 - 1 = mid from by omega]; exact hp.right i (by omega) k2
/-- and the other way round -/
theorem To.left {a0 b0 a b mid : Nat} {d0 d : Nat → Int} (h : To a0 b0 a b d0 d) (hp : Parted a b mid d) (hs : Sorted (mid + 1) b d) : To a0 b0 a mid d0 d := by
  have g0 := hp.lo; have g1 := hp.hi
  refine ⟨h.perm, h.lo, g0, by have := h.hi; omega, fun i j k1 k2 k3 k4 => ?_, ?_⟩
  · by_cases c : i < a ∨ b ≤ j
    · exact h.out i j k1 k2 k3 c
    · by_cases c2 : i < mid
      · have u1 := hp.left i (by omega) c2
        by_cases c4 : j = mid
        · subst c4; exact u1
        · have := hp.right j (by omega) (by omega); omega
      · by_cases c3 : i = mid
        · subst c3; exact hp.right j k2 (by omega)
        · exact hs i j (by omega) k2 (by omega)
  · rcases h.below with e | hb
    · exact .inl e
    · exact .inr fun i k1 k2 => hb i k1 (by omega)
/-- a permutation of one side keeps the parting -/
theorem Parted.turnL {a b mid : Nat} {d d' : Nat → Int} (hp : Parted a b mid d) (k : Perm a mid d d') : Parted a b mid d' := by
  have g0 := hp.lo
  refine ⟨hp.lo, hp.hi, fun i h1 h2 => ?_, fun i h1 h2 => ?_⟩
  · rw [k.out mid (by omega)]; exact k.all (P := fun x => x ≤ d mid) hp.left i h1 h2
  · rw [k.out mid (by omega), k.out i (by omega)]; exact hp.right i h1 h2
theorem Parted.turnR {a b mid : Nat} {d d' : Nat → Int} (hp : Parted a b mid d) (k : Perm (mid + 1) b d d') : Parted a b mid d' := by
  refine ⟨hp.lo, hp.hi, fun i h1 h2 => ?_, fun i h1 h2 => ?_⟩
  · rw [k.out mid (by omega), k.out i (by omega)]; exact hp.left i h1 h2
  · rw [k.out mid (by omega)]; exact k.all (P := fun x => d mid ≤ x) (fun i h1 h2 => hp.right i (by omega) h2) i (by omega) h2
end Go.Proofs.Qxb6601408a.Fin
