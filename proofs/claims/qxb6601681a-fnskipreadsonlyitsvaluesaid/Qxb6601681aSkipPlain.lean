/-
  The plain law beneath FnSkipReadsOnlyItsValue: where a JSON string and a bracketed value end, said of a row of bytes y (y 0 is the byte at the cursor). No Go in sight.
-/
namespace Go.Proofs.Qxb6601681a.Skip

/-- how many backslashes stand in a row right before place o + 1 + t, counted from o + 1 on -/
def runAt (y : Nat → Int) (o : Nat) : Nat → Nat
  | 0 => 0
  | t + 1 => if y (o + 1 + t) = 92 then runAt y o t + 1 else 0

/-- the string that opens at o closes at o + 1 + t -/
structure StrClose (y : Nat → Int) (o t : Nat) : Prop where
  quote : y (o + 1 + t) = 34
  even : runAt y o t % 2 = 0
  first : ∀ s, s < t → y (o + 1 + s) = 34 → runAt y o s % 2 = 1

theorem runAt_esc (y : Nat → Int) (o s : Nat) (h : y (o + 1 + s) = 92) : runAt y o (s + 1) = runAt y o s + 1 := by
  rw [runAt, if_pos h]
theorem runAt_not (y : Nat → Int) (o s : Nat) (h : ¬ y (o + 1 + s) = 92) : runAt y o (s + 1) = 0 := by
  rw [runAt, if_neg h]
theorem runAt_le (y : Nat → Int) (o s : Nat) : runAt y o s ≤ s := by
  induction s with
  | zero => exact Nat.le_refl _
  | succ s ih =>
    by_cases h : y (o + 1 + s) = 92
    · rw [runAt_esc y o s h]; omega
    · rw [runAt_not y o s h]; omega

theorem StrClose.lt {y : Nat → Int} {o t s : Nat} (h : StrClose y o t) (hs : s ≤ t) (hq : ¬ y (o + 1 + s) = 34) : s < t := by
  by_cases e : s = t
  · subst e; exact absurd h.quote hq
  · omega

theorem StrClose.hit {y : Nat → Int} {o t s : Nat} (h : StrClose y o t) (hs : s ≤ t) (hr : runAt y o s % 2 = 0) (hq : y (o + 1 + s) = 34) : s = t := by
  by_cases e : s = t
  · exact e
  · have := h.first s (by omega) hq; omega

theorem StrClose.esc {y : Nat → Int} {o t s : Nat} (h : StrClose y o t) (hs : s ≤ t) (hr : runAt y o s % 2 = 0) (hq : y (o + 1 + s) = 92) :
    s + 2 ≤ t ∧ runAt y o (s + 2) % 2 = 0 := by
  have h1 := h.lt hs (by omega)
  have e1 := runAt_esc y o s hq
  have h2 : s + 1 ≠ t := by
    rintro rfl
    have := h.even; omega
  refine ⟨by omega, ?_⟩
  by_cases hc : y (o + 1 + (s + 1)) = 92
  · rw [runAt_esc y o (s + 1) hc]; omega
  · rw [runAt_not y o (s + 1) hc]

theorem StrClose.other {y : Nat → Int} {o t s : Nat} (h : StrClose y o t) (hs : s ≤ t) (hq : ¬ y (o + 1 + s) = 34) (hb : ¬ y (o + 1 + s) = 92) :
    s + 1 ≤ t ∧ runAt y o (s + 1) % 2 = 0 :=
  ⟨h.lt hs hq, by rw [runAt_not y o s hb]⟩

def isOpen (c : Int) : Prop := c = 123 ∨ c = 91
def isClose (c : Int) : Prop := c = 125 ∨ c = 93
def delta (c : Int) : Int := if c = 123 ∨ c = 91 then 1 else if c = 125 ∨ c = 93 then -1 else 0

theorem delta_open {c : Int} (h : isOpen c) : delta c = 1 := by unfold isOpen at h; unfold delta; rw [if_pos h]
theorem delta_close {c : Int} (h : isClose c) : delta c = -1 := by
  unfold isClose at h; unfold delta; rw [if_neg (by omega), if_pos h]
theorem delta_other {c : Int} (h1 : ¬ isOpen c) (h2 : ¬ isClose c) : delta c = 0 := by
  unfold isOpen at h1; unfold isClose at h2; unfold delta; rw [if_neg h1, if_neg h2]
theorem delta_bd (c : Int) : -1 ≤ delta c ∧ delta c ≤ 1 := by
  unfold delta; split
  · omega
  · split <;> omega

/-- openers less closers among the first m bytes, those inside strings left out -/
def bal (y : Nat → Int) (ins : Nat → Bool) : Nat → Int
  | 0 => 0
  | m + 1 => bal y ins m + if ins m = true then 0 else delta (y m)

theorem bal_in (y : Nat → Int) (ins : Nat → Bool) (m : Nat) (h : ins m = true) : bal y ins (m + 1) = bal y ins m := by
  rw [bal, if_pos h]; omega
theorem bal_out (y : Nat → Int) (ins : Nat → Bool) (m : Nat) (h : ins m = false) : bal y ins (m + 1) = bal y ins m + delta (y m) := by
  rw [bal, if_neg (by rw [h]; decide)]
theorem bal_bd (y : Nat → Int) (ins : Nat → Bool) (m : Nat) : -(m : Int) ≤ bal y ins m ∧ bal y ins m ≤ m := by
  induction m with
  | zero => simp [bal]
  | succ m ih =>
    have := delta_bd (y m)
    cases h : ins m
    · rw [bal_out y ins m h]; omega
    · rw [bal_in y ins m h]; omega
theorem bal_run (y : Nat → Int) (ins : Nat → Bool) (m d : Nat) (h : ∀ j, m ≤ j → j < m + d → ins j = true) : bal y ins (m + d) = bal y ins m := by
  induction d with
  | zero => rfl
  | succ d ih =>
    rw [← Nat.add_assoc, bal_in y ins (m + d) (h _ (by omega) (by omega))]
    exact ih fun j a b => h j a (by omega)

/-- the first pass, done as far as place i: S are the places at which its counter stood -/
structure Scan (y : Nat → Int) (ins : Nat → Bool) (i : Nat) (S : Nat → Prop) : Prop where
  zero : S 0
  here : S i
  step : ∀ m, S m → m < i → (y m ≠ 34 ∧ ins m = false ∧ S (m + 1)) ∨
    (y m = 34 ∧ ∃ t, StrClose y m t ∧ m + t + 2 ≤ i ∧ (∀ j, m ≤ j → j < m + t + 2 → ins j = true) ∧ S (m + t + 2))
  rest : ∀ j, i ≤ j → ins j = false

theorem Scan.start (y : Nat → Int) (ins : Nat → Bool) (h : ∀ j, ins j = false) : Scan y ins 0 (fun m => m = 0) :=
  ⟨rfl, rfl, fun _ _ h => absurd h (Nat.not_lt_zero _), fun j _ => h j⟩

theorem Scan.plain {y : Nat → Int} {ins : Nat → Bool} {i : Nat} {S : Nat → Prop} (h : Scan y ins i S) (hq : ¬ y i = 34) : Scan y ins (i + 1) (fun m => S m ∨ m = i + 1) := by
  refine ⟨.inl h.zero, .inr rfl, fun m hm hlt => ?_, fun j hj => h.rest j (by omega)⟩
  rcases hm with hm | rfl
  · by_cases e : m = i
    · subst e; exact .inl ⟨hq, h.rest _ (Nat.le_refl _), .inr rfl⟩
    · rcases h.step m hm (by omega) with ⟨a, b, c⟩ | ⟨a, t, b, c, d, f⟩
      · exact .inl ⟨a, b, .inl c⟩
      · exact .inr ⟨a, t, b, by omega, d, .inl f⟩
  · omega

theorem Scan.string {y : Nat → Int} {ins ins' : Nat → Bool} {i t : Nat} {S : Nat → Prop} (h : Scan y ins i S) (hq : y i = 34) (hc : StrClose y i t)
    (h1 : ∀ j, i ≤ j → j < i + t + 2 → ins' j = true) (h2 : ∀ j, j < i → ins' j = ins j) (h3 : ∀ j, i + t + 2 ≤ j → ins' j = ins j) :
    Scan y ins' (i + t + 2) (fun m => (S m ∧ m ≤ i) ∨ m = i + t + 2) := by
  refine ⟨.inl ⟨h.zero, Nat.zero_le _⟩, .inr rfl, fun m hm hlt => ?_, fun j hj => by rw [h3 j hj]; exact h.rest j (by omega)⟩
  rcases hm with ⟨hm, hle⟩ | rfl
  · by_cases e : m = i
    · subst e; exact .inr ⟨hq, t, hc, Nat.le_refl _, h1, .inr rfl⟩
    · rcases h.step m hm (by omega) with ⟨a, b, c⟩ | ⟨a, t', b, c, d, f⟩
      · exact .inl ⟨a, by rw [h2 m (by omega)]; exact b, .inl ⟨c, by omega⟩⟩
      · exact .inr ⟨a, t', b, by omega, fun j a1 a2 => by rw [h2 j (by omega)]; exact d j a1 a2, .inl ⟨f, by omega⟩⟩
  · omega

/-- the bracketed value at 0 ends right behind place M -/
def BrkEnd (y : Nat → Int) (M : Nat) : Prop :=
  ∃ ins K S, Scan y ins K S ∧ M < K ∧ ins M = false ∧ isClose (y M) ∧ bal y ins (M + 1) = 0 ∧ ∀ j, j < M → ins j = false → isClose (y j) → bal y ins (j + 1) ≠ 0

/-- where skip stands in a bracketed value: m bytes on, at depth d -/
def At (y : Nat → Int) (M m : Nat) (d : Int) : Prop :=
  ∃ ins K S, Scan y ins K S ∧ M < K ∧ ins M = false ∧ isClose (y M) ∧ bal y ins (M + 1) = 0 ∧ (∀ j, j < M → ins j = false → isClose (y j) → bal y ins (j + 1) ≠ 0) ∧
    S m ∧ m ≤ M ∧ d = bal y ins m ∧ (m = 0 ∨ 1 ≤ d)

theorem At.start {y : Nat → Int} {M : Nat} (h : BrkEnd y M) : At y M 0 0 := by
  obtain ⟨ins, K, S, h1, h2, h3, h4, h5, h6⟩ := h
  exact ⟨ins, K, S, h1, h2, h3, h4, h5, h6, h1.zero, Nat.zero_le _, rfl, .inl rfl⟩

theorem At.le {y : Nat → Int} {M m : Nat} {d : Int} (h : At y M m d) : m ≤ M ∧ 0 ≤ d ∧ d ≤ m := by
  obtain ⟨ins, K, S, h1, h2, h3, h4, h5, h6, h7, h8, rfl, h9⟩ := h
  refine ⟨h8, ?_, (bal_bd y ins m).2⟩
  rcases h9 with rfl | h9
  · simp [bal]
  · omega

theorem At.string {y : Nat → Int} {M m : Nat} {d : Int} (h : At y M m d) (ho : isOpen (y 0)) (hq : y m = 34) :
    ∃ t, StrClose y m t ∧ m + t + 2 ≤ M ∧ At y M (m + t + 2) d := by
  obtain ⟨ins, K, S, h1, h2, h3, h4, h5, h6, h7, h8, rfl, h9⟩ := h
  rcases h1.step m h7 (by omega) with ⟨a, _⟩ | ⟨_, t, b, c, e, f⟩
  · exact absurd hq a
  · have hM : m + t + 2 ≤ M := by
      by_cases hlt : M < m + t + 2
      · have := e M h8 hlt; rw [h3] at this; cases this
      · omega
    refine ⟨t, b, hM, ins, K, S, h1, h2, h3, h4, h5, h6, f, hM, ?_, .inr ?_⟩
    · have := bal_run y ins m (t + 2) (fun j a1 a2 => e j a1 (by omega))
      rw [← Nat.add_assoc] at this; exact this.symm
    · rcases h9 with rfl | h9
      · unfold isOpen at ho; omega
      · exact h9

theorem At.plain {y : Nat → Int} {M m : Nat} {d : Int} (h : At y M m d) (ho : isOpen (y 0)) (hq : ¬ y m = 34) :
    (d + delta (y m) = 0 ∧ m = M) ∨ (¬ d + delta (y m) = 0 ∧ m + 1 ≤ M ∧ At y M (m + 1) (d + delta (y m))) := by
  obtain ⟨ins, K, S, h1, h2, h3, h4, h5, h6, h7, h8, rfl, h9⟩ := h
  rcases h1.step m h7 (by omega) with ⟨_, b, c⟩ | ⟨a, _⟩
  · have hb := bal_out y ins m b
    have hd := delta_bd (y m)
    by_cases hz : bal y ins m + delta (y m) = 0
    · refine .inl ⟨hz, ?_⟩
      have hcl : isClose (y m) := by
        rcases h9 with rfl | h9
        · rw [delta_open ho] at hz; simp [bal] at hz
        · have : delta (y m) < 0 := by omega
          unfold delta at this
          split at this
          · omega
          · split at this
            · assumption
            · omega
      by_cases e : m = M
      · exact e
      · exact absurd (hb.trans hz) (h6 m (by omega) b hcl)
    · refine .inr ⟨hz, ?_, ins, K, S, h1, h2, h3, h4, h5, h6, c, ?_, hb.symm, .inr ?_⟩
      · by_cases e : m = M
        · subst e; rw [hb] at h5; exact absurd h5 hz
        · omega
      · by_cases e : m = M
        · subst e; rw [hb] at h5; exact absurd h5 hz
        · omega
      · rcases h9 with rfl | h9
        · rw [delta_open ho]; simp [bal]
        · omega
  · exact absurd a hq

end Go.Proofs.Qxb6601681a.Skip
