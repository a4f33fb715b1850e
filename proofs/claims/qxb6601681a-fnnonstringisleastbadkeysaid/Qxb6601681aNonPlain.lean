/-
  Plain: the order on strings; what a map holds key by key; the least bad key.
-/
import Derived.Test.Qxb6601681aRows
import Derived.Maps.RangeWalk
import Derived.Maps.OwnOps
namespace Go.Proofs.Qxb6601681a.Non
open Go.RowKit
set_option linter.unusedVariables false

/-! ### the order -/
theorem less_irrefl : ∀ x : List UInt8, Op.bytesLess x x = false
  | [] => rfl
  | a :: x => by simp [Op.bytesLess, less_irrefl x]
theorem less_trans : ∀ x y z : List UInt8, Op.bytesLess x y = true → Op.bytesLess y z = true → Op.bytesLess x z = true
  | _, [], _, h, _ => by cases ‹List UInt8› <;> simp [Op.bytesLess] at h
  | _, _ :: _, [], _, h => by simp [Op.bytesLess] at h
  | [], _ :: _, _ :: _, _, _ => by simp [Op.bytesLess]
  | a :: x, b :: y, c :: z, h, k => by
    simp only [Op.bytesLess, Bool.or_eq_true, Bool.and_eq_true, decide_eq_true_eq, beq_iff_eq] at h k ⊢
    rcases h with h | ⟨rfl, h⟩
    · rcases k with k | ⟨rfl, k⟩
      · exact .inl (UInt8.lt_trans h k)
      · exact .inl h
    · rcases k with k | ⟨rfl, k⟩
      · exact .inl k
      · exact .inr ⟨rfl, less_trans x y z h k⟩

def Lt (a b : ByteArray) : Prop := Op.bytesLess a.toList b.toList = true
/-- strictly rising -/
def Rise (n : Nat) (ks : Nat → ByteArray) : Prop := ∀ i j, i < j → j < n → Lt (ks i) (ks j)
theorem rise_of {n : Nat} {ks : Nat → ByteArray} (h : ∀ i, i + 1 < n → Lt (ks i) (ks (i + 1))) : Rise n ks := by
  intro i j hij
  induction j with
  | zero => omega
  | succ j ih =>
    intro hj
    by_cases e : i = j
    · subst e; exact h i hj
    · exact less_trans _ _ _ (ih (by omega) (by omega)) (h j hj)
theorem Rise.ne {n : Nat} {ks : Nat → ByteArray} (h : Rise n ks) {i j : Nat} (hi : i < n) (hj : j < n) (hne : i ≠ j) : ks i ≠ ks j := by
  intro e
  rcases Nat.lt_or_gt_of_ne hne with g | g
  · have := h i j g hj
    unfold Lt at this; rw [e, less_irrefl] at this; cases this
  · have := h j i g hi
    unfold Lt at this; rw [e, less_irrefl] at this; cases this
theorem Rise.less {n : Nat} {ks : Nat → ByteArray} (h : Rise n ks) {i j : Nat} (hi : i < n) (hj : j < n) : Op.bytesLess (ks i).toList (ks j).toList = decide (i < j) := by
  by_cases e : i < j
  · rw [decide_eq_true e]; exact h i j e hj
  · rw [decide_eq_false e]
    by_cases e2 : i = j
    · subst e2; exact less_irrefl _
    · have g := h j i (by omega) hi
      cases hb : Op.bytesLess (ks i).toList (ks j).toList
      · rfl
      · have := less_trans _ _ _ g hb
        rw [less_irrefl] at this; cases this

/-! ### keys and elements -/
def L (s : ByteArray) : Lit := .string s.data.toList
theorem L_inj {a b : ByteArray} (h : L a = L b) : a = b := by
  unfold L at h
  injection h with h
  cases a; cases b
  rename_i x y
  have : x = y := Array.toList_inj.1 h
  rw [this]
theorem keyL {s : ByteArray} (h : s.size ≤ maxLen) : keyOf Try.prog 9 (.string s) = some (L s) := WideMaps.keyOf_string_mk Try.underlying9 h
/-- an element reads as itself -/
def RH (v : Value) : Option (DataW Value × List MemPlace) := match v with
  | .slice a l c => some (.held (.slice a l c), [])
  | _ => none
theorem RH_mk (a : Option Addr) (l c : Nat) : RH (.slice a l c) = some (.held (.slice a l c), []) := rfl
theorem RH_inv {v : Value} {y : DataW Value × List MemPlace} (h : RH v = some y) : ∃ c : Option Addr × Nat × Nat, v = .slice c.1 c.2.1 c.2.2 ∧ y = (.held v, []) := by
  cases v <;> simp [RH] at h
  rename_i a l c
  exact ⟨(a, l, c), rfl, h.symm⟩
theorem keyed9 : Maps.Keyed Try.prog 9 := Maps.string_keyed Try.underlying9
theorem zero42 (w : World) : (zeroValue 42).run Try.prog w = .ok (.slice none 0 0) w := by kernel_rfl

/-- the map holds V j at the key ks j, and no other key -/
structure Holds (n : Nat) (ks : Nat → ByteArray) (V : Nat → Value) (D : DataW Value) : Prop where
  isMap : Maps.IsMap D
  at_ : ∀ j, j < n → ∀ z, D.atKey (L (ks j)) z = .held (V j)
  keys : ∀ kl, Maps.has D kl = true → ∃ j, j < n ∧ kl = L (ks j)
theorem Holds.start (ks : Nat → ByteArray) (V : Nat → Value) : Holds 0 ks V (.map []) := ⟨⟨[], rfl⟩, fun j h => by omega, fun kl h => by simp [Maps.has] at h⟩
theorem isKey_L (s : ByteArray) : WideAt.IsKeyLit (L s) := trivial
theorem Holds.put {n i : Nat} {ks : Nat → ByteArray} {V : Nat → Value} {D : DataW Value} (hr : Rise n ks) (h : Holds i ks V D) (hi : i < n) (v : Value) : Holds (i + 1) ks (fun j => if j = i then v else V j) (D.put (L (ks i)) (.held v)) := by
  refine ⟨h.isMap.put _ _, fun j hj z => ?_, fun kl hk => ?_⟩
  · by_cases e : j = i
    · subst e; rw [Maps.atKey_put_same h.isMap (isKey_L _), if_pos rfl]
    · rw [Maps.atKey_put_other (fun c => hr.ne (by omega) hi e (L_inj c)), if_neg e]
      exact h.at_ j (by omega) z
  · by_cases e : kl = L (ks i)
    · exact ⟨i, by omega, e⟩
    · rw [Maps.has_put_other e] at hk
      obtain ⟨j, h1, h2⟩ := h.keys kl hk
      exact ⟨j, by omega, h2⟩
theorem Holds.has {n : Nat} {ks : Nat → ByteArray} {V : Nat → Value} {D : DataW Value} (h : Holds n ks V D) (j : Nat) (hj : j < n) : Maps.has D (L (ks j)) = true := Maps.has_true_of_atKey (h.at_ j hj)
theorem Holds.congr {n : Nat} {ks : Nat → ByteArray} {V V' : Nat → Value} {D : DataW Value} (h : Holds n ks V D) (e : ∀ j, j < n → V' j = V j) : Holds n ks V' D := ⟨h.isMap, fun j hj z => by rw [e j hj]; exact h.at_ j hj z, h.keys⟩

/-! ### the least bad key, while some are still to come -/
/-- (key, found) is the least bad among those that are no longer to come -/
def Best (n : Nat) (ks : Nat → ByteArray) (B : Nat → Bool) (left : Lit → Bool) (key : ByteArray) (found : Bool) : Prop :=
  (found = false ∧ key = ByteArray.empty ∧ ∀ j, j < n → left (L (ks j)) = false → B j = false) ∨
  ∃ i, i < n ∧ found = true ∧ key = ks i ∧ B i = true ∧ ∀ j, j < n → left (L (ks j)) = false → B j = true → i ≤ j
theorem Best.start {n : Nat} {ks : Nat → ByteArray} {B : Nat → Bool} {left : Lit → Bool} (h : ∀ j, j < n → left (L (ks j)) = true) : Best n ks B left ByteArray.empty false :=
  .inl ⟨rfl, rfl, fun j hj hl => by rw [h j hj] at hl; cases hl⟩
theorem sameKey_iff {a b : ByteArray} : (L a).sameKey (L b) = true ↔ a = b := ⟨fun h => L_inj (WideAt.sameKey_eq h), fun h => by subst h; exact WideAt.sameKey_self (isKey_L _)⟩
/-- a key that has come now -/
theorem came {n : Nat} {ks : Nat → ByteArray} (hr : Rise n ks) {left : Lit → Bool} {m j : Nat} (hm : m < n) (hj : j < n) (h : (left (L (ks j)) && !(L (ks j)).sameKey (L (ks m))) = false) : j = m ∨ left (L (ks j)) = false := by
  cases hl : left (L (ks j))
  · exact .inr rfl
  · rw [hl] at h
    simp at h
    have := sameKey_iff.1 h
    by_cases e : j = m
    · exact .inl e
    · exact absurd this (hr.ne hj hm e)
theorem Best.skip {n : Nat} {ks : Nat → ByteArray} {B : Nat → Bool} {left : Lit → Bool} {key : ByteArray} {found : Bool} (hr : Rise n ks) (h : Best n ks B left key found) {m : Nat} (hm : m < n) (hb : B m = false) : Best n ks B (fun z => left z && !z.sameKey (L (ks m))) key found := by
  rcases h with ⟨h1, h2, h3⟩ | ⟨i, h1, h2, h3, h4, h5⟩
  · refine .inl ⟨h1, h2, fun j hj hl => ?_⟩
    rcases came hr hm hj hl with e | e
    · rw [e]; exact hb
    · exact h3 j hj e
  · refine .inr ⟨i, h1, h2, h3, h4, fun j hj hl hB => ?_⟩
    rcases came hr hm hj hl with e | e
    · rw [e, hb] at hB; cases hB
    · exact h5 j hj e hB
theorem Best.take {n : Nat} {ks : Nat → ByteArray} {B : Nat → Bool} {left : Lit → Bool} {key : ByteArray} {found : Bool} (hr : Rise n ks) (h : Best n ks B left key found) {m : Nat} (hm : m < n) (hb : B m = true) (hl : found = false ∨ Op.bytesLess (ks m).toList key.toList = true) : Best n ks B (fun z => left z && !z.sameKey (L (ks m))) (ks m) true := by
  refine .inr ⟨m, hm, rfl, rfl, hb, fun j hj hlj hB => ?_⟩
  rcases came hr hm hj hlj with e | e
  · omega
  · rcases h with ⟨h1, h2, h3⟩ | ⟨i, h1, h2, h3, h4, h5⟩
    · rw [h3 j hj e] at hB; cases hB
    · have := h5 j hj e hB
      rcases hl with hl | hl
      · rw [h2] at hl; cases hl
      · rw [h3, hr.less hm h1] at hl
        have := of_decide_eq_true hl
        omega
theorem Best.keep {n : Nat} {ks : Nat → ByteArray} {B : Nat → Bool} {left : Lit → Bool} {key : ByteArray} {found : Bool} (hr : Rise n ks) (h : Best n ks B left key found) {m : Nat} (hm : m < n) (hf : found = true) (hl : Op.bytesLess (ks m).toList key.toList = false) : Best n ks B (fun z => left z && !z.sameKey (L (ks m))) key found := by
  rcases h with ⟨h1, h2, h3⟩ | ⟨i, h1, h2, h3, h4, h5⟩
  · rw [h1] at hf; cases hf
  · refine .inr ⟨i, h1, h2, h3, h4, fun j hj hlj hB => ?_⟩
    rcases came hr hm hj hlj with e | e
    · rw [h3, hr.less hm h1] at hl
      have := of_decide_eq_false hl
      omega
    · exact h5 j hj e hB
/-- the answer -/
def Least (n : Nat) (ks : Nat → ByteArray) (B : Nat → Bool) (key : ByteArray) (found : Bool) : Prop :=
  (found = false ∧ key = ByteArray.empty ∧ ∀ j, j < n → B j = false) ∨ ∃ i, i < n ∧ found = true ∧ key = ks i ∧ B i = true ∧ ∀ j, j < i → B j = false
theorem Best.done {n : Nat} {ks : Nat → ByteArray} {B : Nat → Bool} {left : Lit → Bool} {key : ByteArray} {found : Bool} (h : Best n ks B left key found) (hl : ∀ kl, left kl = false) : Least n ks B key found := by
  rcases h with ⟨h1, h2, h3⟩ | ⟨i, h1, h2, h3, h4, h5⟩
  · exact .inl ⟨h1, h2, fun j hj => h3 j hj (hl _)⟩
  · refine .inr ⟨i, h1, h2, h3, h4, fun j hj => ?_⟩
    cases hb : B j
    · rfl
    · have := h5 j (by omega) (hl _) hb
      omega
end Go.Proofs.Qxb6601681a.Non
