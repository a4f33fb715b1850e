/-
  copy over rows of numbers; parts of a row and the whole.
-/
import Derived.Test.Qxb6601408aFinMerge
import Derived.Laws.IdiomCopy
import Derived.Laws.CopyOwn
namespace Go.Proofs.Qxb6601408a.Fin
open Go.RowKit
set_option linter.unusedVariables false

theorem keep_setCells (blk off n : Nat) : ∀ (vs : List Value) (i : Nat) (w : World), i + vs.length ≤ n → Keep blk off n w (w.setCells blk (off + i) vs) := by
  intro vs
  induction vs with
  | nil => intro i w _; exact Keep.refl _ _ _ _
  | cons v r ih =>
    intro i w h
    have h1 : i + (r.length + 1) ≤ n := h
    exact ((Keep.refl blk off n w).setCell i (by omega) v).trans (ih (i + 1) _ (by omega))
theorem size26 : (Try.prog.info? 26).map (·.size) = some 1 := by kernel_rfl

/-- copy of k numbers q to (blk, o) -/
theorem copy_run (w : World) (blk o : Nat) (dp sp : Option Addr) (dLen dCap sLen sCap k : Nat) (q : Nat → Int) (ty : TypeId) (hk : k = Nat.min sLen dLen) (hd : 0 < k → dp = some ⟨blk, o, none⟩)
    (hs : 0 < k → ∃ ad : Addr, sp = some ad ∧ ∀ j, j < k → w.cell? (ad.add j) = some (.int .u64 (q j))) (hc : ∀ j, j < k → (w.cell? ⟨blk, o + j, none⟩).isSome = true) (hf : ∀ j, j < k → w.frozen? ⟨blk, o + j, none⟩ = false) :
    ∃ w', (Builtin.copy_ #[33, 33] ty #[.slice dp dLen dCap, .slice sp sLen sCap]).run Try.prog w = .ok (goInt k) w' ∧ Keep blk o k w w' ∧ Hold w' blk o k q := by
  rcases Nat.eq_zero_or_pos k with h0 | h0
  · subst h0
    exact ⟨w, run_copy_none w 33 33 ty 26 dp sp dLen dCap sLen sCap Try.underlying33 size26 hk.symm, Keep.refl _ _ _ _, ⟨fun t ht => by omega, fun t ht => by omega⟩⟩
  · obtain ⟨ad, rfl, hsrc⟩ := hs h0
    have hdp := hd h0
    subst hdp
    have hrun := run_copy_cells w 33 33 ty 26 blk o dLen dCap ad sLen sCap (ints q k) Try.underlying33 size26 (by rw [ints_len]; exact hk)
      (fun j v hj => by obtain ⟨h1, rfl⟩ := ints_some hj; exact hsrc j h1) (fun j hj => hc j (by rw [ints_len] at hj; exact hj)) (fun j hj => hf j (by rw [ints_len] at hj; exact hj)) (ints_one _ _)
    rw [ints_len] at hrun
    refine ⟨_, hrun, keep_setCells blk o k (ints q k) 0 w (by rw [ints_len]; omega), ⟨fun t ht => ?_, fun t ht => by rw [World.frozen?_setCells]; exact hf t ht⟩⟩
    have := World.cell?_setCells_in blk (ints q k) o w (fun j hj => hc j (by rw [ints_len] at hj; exact hj)) t (by rw [ints_len]; exact ht)
    rw [this]
    have e := ints_get q k t ht
    rw [List.getElem?_eq_getElem (by rw [ints_len]; exact ht)] at e
    exact e

theorem wpList_copy_hold {w : World} {ops : Array Oper} {rest : List Oper} {o : Oper} {a : Act} {Q : Exit → Act → World → Prop} (hgd : o.guard = none) (ds ss : Operand)
    (ho : o.op = .call { callee := .builtin .copy, args := #[ds, ss], argTypes := #[33, 33] }) (dp sp : Option Addr) (dLen dCap sLen sCap : Nat) (hde : a.eval ds = .slice dp dLen dCap) (hse : a.eval ss = .slice sp sLen sCap)
    (blk off k : Nat) (q : Nat → Int) (hk : k = Nat.min sLen dLen) (hd : 0 < k → dp = some ⟨blk, off, none⟩)
    (hs : 0 < k → ∃ ad : Addr, sp = some ad ∧ ∀ j, j < k → w.cell? (ad.add j) = some (.int .u64 (q j))) (hc : ∀ j, j < k → (w.cell? ⟨blk, off + j, none⟩).isSome = true) (hf : ∀ j, j < k → w.frozen? ⟨blk, off + j, none⟩ = false)
    (h : ∀ w', Hid (Keep blk off k w w') → Hid (Hold w' blk off k q) → wpList Try.prog ops Q rest (a.put o.dst (goInt k)) w') : wpList Try.prog ops Q (o :: rest) a w := by
  obtain ⟨w', hrun, h1, h2⟩ := copy_run w blk off dp sp dLen dCap sLen sCap k q o.type hk hd hs hc hf
  refine wpList_plain hgd fun K hK => ?_
  unfold Oper.wp
  simp [execOp, ho, resolve, invoke, builtin, hde, hse, hrun, Result.andThen]
  exact hK _ _ (h w' h1 h2)
theorem step_copy_hold {w : World} {ops : Array Oper} {o : Oper} {a : Act} {K : Act → World → Prop} {Q : Exit → Act → World → Prop} {E : Prop} (hgd : o.guard = none) (ds ss : Operand)
    (ho : o.op = .call { callee := .builtin .copy, args := #[ds, ss], argTypes := #[33, 33] }) (dp sp : Option Addr) (dLen dCap sLen sCap : Nat) (hde : a.eval ds = .slice dp dLen dCap) (hse : a.eval ss = .slice sp sLen sCap)
    (blk off k : Nat) (q : Nat → Int) (hk : k = Nat.min sLen dLen) (hd : 0 < k → dp = some ⟨blk, off, none⟩)
    (hs : 0 < k → ∃ ad : Addr, sp = some ad ∧ ∀ j, j < k → w.cell? (ad.add j) = some (.int .u64 (q j))) (hc : ∀ j, j < k → (w.cell? ⟨blk, off + j, none⟩).isSome = true) (hf : ∀ j, j < k → w.frozen? ⟨blk, off + j, none⟩ = false)
    (h : ∀ w', Hid (Keep blk off k w w') → Hid (Hold w' blk off k q) → K (a.put o.dst (goInt k)) w') :
    if Region.wanted o (yielded ops a.tmps) = true then Oper.wp Try.prog o a w K Q else E := by
  have hw : Region.wanted o (yielded ops a.tmps) = true := by simp [Region.wanted, hgd]
  rw [if_pos hw]
  obtain ⟨w', hrun, h1, h2⟩ := copy_run w blk off dp sp dLen dCap sLen sCap k q o.type hk hd hs hc hf
  unfold Oper.wp
  simp [execOp, ho, resolve, invoke, builtin, hde, hse, hrun, Result.andThen]
  exact h w' h1 h2

/-- d with q laid over the m places from e on -/
def join (d : Nat → Int) (e m : Nat) (q : Nat → Int) : Nat → Int := fun i => if e ≤ i ∧ i < e + m then q (i - e) else d i
theorem join_in (d : Nat → Int) (e m : Nat) (q : Nat → Int) (t : Nat) (h : t < m) : join d e m q (e + t) = q t := by
  unfold join; rw [if_pos ⟨by omega, by omega⟩, show e + t - e = t from by omega]
theorem join_out (d : Nat → Int) (e m : Nat) (q : Nat → Int) (i : Nat) (h : i < e ∨ e + m ≤ i) : join d e m q i = d i := by
  unfold join; rw [if_neg (by omega)]
theorem Hold.sub {w : World} {blk off n : Nat} {d : Nat → Int} (h : Hold w blk off n d) (e m o : Nat) (hm : e + m ≤ n) (ho : 0 < m → o = off + e) : Hold w blk o m (fun t => d (e + t)) := by
  refine ⟨fun t ht => ?_, fun t ht => ?_⟩
  · rw [ho (by omega), Nat.add_assoc]; exact h.cell (e + t) (by omega)
  · rw [ho (by omega), Nat.add_assoc]; exact h.loose (e + t) (by omega)
theorem Hold.join {base : Nat} {w w' : World} {blk off n e m o : Nat} {d q : Nat → Int} (h : Hold w blk off n d) (hm : e + m ≤ n) (ho : 0 < m → o = off + e) (k : Kept base blk o m w w') (hq : Hold w' blk o m q) : Hold w' blk off n (Fin.join d e m q) := by
  refine ⟨fun t ht => ?_, fun t ht => by rw [k.frozen]; exact h.loose t ht⟩
  by_cases c : e ≤ t ∧ t < e + m
  · have e1 := hq.cell (t - e) (by omega)
    rw [ho (by omega), Nat.add_assoc, show e + (t - e) = t from by omega] at e1
    rw [e1]; unfold Fin.join; rw [if_pos c]
  · rw [join_out _ _ _ _ _ (by omega), k.cell (off + t) (by
      rcases Nat.eq_zero_or_pos m with h0 | h0
      · omega
      · have := ho h0; omega)]
    exact h.cell t ht
theorem Perm.join {d q : Nat → Int} {e m : Nat} (h : Perm 0 m (fun t => d (e + t)) q) : Perm e (e + m) d (Fin.join d e m q) := by
  refine ⟨fun i hi => join_out _ _ _ _ _ hi, fun v => ?_⟩
  have a1 := cnt_shift (Fin.join d e m q) 0 e v m
  have a2 := cnt_shift d 0 e v m
  have a3 := h.cnt v
  rw [Nat.add_zero] at a1 a2
  rw [Nat.sub_zero] at a3
  rw [show e + m - e = m from by omega, ← a1, ← a2, ← a3]
  exact cnt_congr v m fun i _ hi => join_in d e m q i (by omega)
theorem Sorted.join {d q : Nat → Int} {e m : Nat} (h : Sorted 0 m q) : Sorted e (e + m) (Fin.join d e m q) := fun i j h1 h2 h3 => by
  have e1 := join_in d e m q (i - e) (by omega)
  have e2 := join_in d e m q (j - e) (by omega)
  rw [show e + (i - e) = i from by omega] at e1
  rw [show e + (j - e) = j from by omega] at e2
  rw [e1, e2]; exact h (i - e) (j - e) (by omega) (by omega) (by omega)
theorem Sorted.part {d : Nat → Int} {e a b : Nat} (h : Sorted (e + a) (e + b) d) : Sorted a b (fun t => d (e + t)) := fun i j h1 h2 h3 => h (e + i) (e + j) (by omega) (by omega) (by omega)
end Go.Proofs.Qxb6601408a.Fin
