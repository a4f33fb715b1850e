/-
  Plain: whole answers over the stretches.
-/
import Derived.Test.Qxb6601408aFinPlain
namespace Go.Proofs.Qxb6601408a.Fin
set_option linter.unusedVariables false

/-- a place below En b lies in a stretch -/
theorem En.find (S X : Nat → Nat) : ∀ b p, p < En S X b → ∃ c, c < b ∧ En S X c ≤ p ∧ p < En S X (c + 1) := by
  intro b
  induction b with
  | zero => intro p h; exact absurd h (Nat.not_lt_zero _)
  | succ b ih =>
    intro p h
    by_cases c : p < En S X b
    · obtain ⟨c, h1, h2, h3⟩ := ih p c
      exact ⟨c, by omega, h2, h3⟩
    · exact ⟨b, by omega, by omega, h⟩
/-- what stands in a done stretch stood in the stretch -/
theorem Str.from {S X : Nat → Nat} {b : Nat} {d d1 : Nat → Int} (h : Str S X b d d1) {c p : Nat} (hc : c < b) (h1 : En S X c ≤ p) (h2 : p < En S X (c + 1)) : ∃ i, S c ≤ i ∧ i < X c ∧ d i = d1 p := by
  have e : En S X (c + 1) = En S X c + (X c - S c) := rfl
  have hp := pos_cnt (d := d1) (a := En S X c) (i := p) (k := X c - S c) h1 (by omega)
  rw [h.cnt c hc] at hp
  obtain ⟨i, g1, g2, g3⟩ := cnt_pos hp
  exact ⟨i, g1, by omega, g3⟩
theorem Str.asc {S X : Nat → Nat} {d d1 : Nat → Int} (h : Str S X 256 d d1) (M : Int) (hM : 0 < M) (ht : ∀ b, b < 256 → ∀ i, S b ≤ i → i < X b → d i / M = b) : Sorted 0 (En S X 256) d1 := by
  intro p q _ hpq hq
  obtain ⟨c, c1, c2, c3⟩ := En.find S X 256 p (by omega)
  obtain ⟨e, e1, e2, e3⟩ := En.find S X 256 q hq
  by_cases hce : c = e
  · subst hce; exact h.sorted c c1 p q c2 hpq e3
  · have hlt : c < e := by
      rcases Nat.lt_or_ge c e with g | g
      · exact g
      · have := En.mono S X (show e + 1 ≤ c from by omega); omega
    obtain ⟨i, i1, i2, i3⟩ := h.from c1 c2 c3
    obtain ⟨j, j1, j2, j3⟩ := h.from e1 e2 e3
    have a1 := ht c c1 i i1 i2
    have a2 := ht e e1 j j1 j2
    rw [i3] at a1
    rw [j3] at a2
    by_cases g : d1 q < d1 p
    · have := Int.ediv_le_ediv hM (Int.le_of_lt g)
      omega
    · exact Int.not_lt.1 g
end Go.Proofs.Qxb6601408a.Fin
