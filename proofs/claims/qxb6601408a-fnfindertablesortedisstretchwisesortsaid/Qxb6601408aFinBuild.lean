/-
  The struct finderTable built of a slice and two arrays.
-/
import Derived.Test.Qxb6601408aFinSorted
import Derived.Laws.Tables
namespace Go.Proofs.Qxb6601408a.Fin
open Go.RowKit
set_option linter.unusedVariables false

theorem lay_list (o : Nat) : ∀ (xs : List Value) (k : Nat) (base : Array Value),
    ((xs.zipIdx k).foldl (fun cs (x : Value × Nat) => cs.setIfInBounds (o + x.2) x.1) base).size = base.size ∧
    (∀ p, p < o + k ∨ o + k + xs.length ≤ p → ((xs.zipIdx k).foldl (fun cs (x : Value × Nat) => cs.setIfInBounds (o + x.2) x.1) base)[p]? = base[p]?) ∧
    (∀ i, i < xs.length → o + k + xs.length ≤ base.size → ((xs.zipIdx k).foldl (fun cs (x : Value × Nat) => cs.setIfInBounds (o + x.2) x.1) base)[o + k + i]? = xs[i]?) := by
  intro xs
  induction xs with
  | nil => intro k base; exact ⟨rfl, fun p _ => rfl, fun i hi => absurd hi (Nat.not_lt_zero _)⟩
  | cons x r ih =>
    intro k base
    obtain ⟨h1, h2, h3⟩ := ih (k + 1) (base.setIfInBounds (o + k) x)
    rw [List.zipIdx_cons, List.foldl_cons]
    refine ⟨h1.trans (by rw [Array.size_setIfInBounds]), fun p hp => ?_, fun i hi hb => ?_⟩
    · have hp' : p < o + k ∨ o + k + (r.length + 1) ≤ p := hp
      refine Eq.trans (h2 p (by omega)) ?_
      rw [Array.getElem?_setIfInBounds, if_neg (by omega)]
    · have hb' : o + k + (r.length + 1) ≤ base.size := hb
      have hi' : i < r.length + 1 := hi
      cases i with
      | zero =>
        refine Eq.trans (h2 (o + k) (by omega)) ?_
        rw [Array.getElem?_setIfInBounds, if_pos rfl, if_pos (by omega)]
        rfl
      | succ i =>
        have := h3 i (by omega) (by rw [Array.size_setIfInBounds]; omega)
        rw [show o + k + (i + 1) = o + (k + 1) + i from by omega]
        exact this
theorem lay_arr (o : Nat) (xs base : Array Value) : ∃ out, xs.zipIdx.foldl (fun cs (x : Value × Nat) => cs.setIfInBounds (o + x.2) x.1) base = out ∧ out.size = base.size ∧
    (∀ p, p < o ∨ o + xs.size ≤ p → out[p]? = base[p]?) ∧ (∀ i, i < xs.size → o + xs.size ≤ base.size → out[o + i]? = xs[i]?) := by
  obtain ⟨h1, h2, h3⟩ := lay_list o xs.toList 0 base
  have e : xs.zipIdx.foldl (fun cs (x : Value × Nat) => cs.setIfInBounds (o + x.2) x.1) base = (xs.toList.zipIdx 0).foldl (fun cs (x : Value × Nat) => cs.setIfInBounds (o + x.2) x.1) base := by
    rw [← Array.foldl_toList, Array.toList_zipIdx]
  rw [e]
  refine ⟨_, rfl, h1, fun p hp => h2 p (by simpa using hp), fun i hi hb => ?_⟩
  have := h3 i (by simpa using hi) (by simpa using hb)
  rw [Nat.add_zero] at this
  rw [this]; simp

theorem fill_cons (place : Nat → Option (Nat × Nat)) (cells : Array Value) (i : Nat) (v : Value) (rest : List (Nat × Value)) (off size : Nat) (hp : place i = some (off, size)) (h1 : v.cells.size = size) (h2 : off + v.cells.size ≤ cells.size) :
    Instr.fill place cells ((i, v) :: rest) = Instr.fill place (v.cells.zipIdx.foldl (fun cs (x : Value × Nat) => cs.setIfInBounds (off + x.2) x.1) cells) rest := by
  rw [Instr.fill, hp]
  have hc : ¬ (decide (v.cells.size ≠ size) || decide (off + v.cells.size > cells.size)) = true := by simp [h1]; omega
  simp only [if_neg hc]

theorem zero44 : ((Try.prog.info? 44).bind (·.zero)).map (·.cells.size) = some 514 := by kernel_rfl
theorem places44 : [(⟨"entries", 33, 0, false, "", "example.com/packloom/packloom", 0⟩ : Field), ⟨"starts", 34, 1, false, "", "example.com/packloom/packloom", 24⟩, ⟨"next", 35, 258, false, "", "example.com/packloom/packloom", 2080⟩].mapM (fun f => (Try.prog.info? f.type).map fun i => (f.offset, i.size)) = some [(0, 1), (1, 257), (258, 256)] := by kernel_rfl

theorem built44 (v : Value) (hv : v.cells = #[v]) (sa xa : Array Value) (hs : sa.size = 257) (hx : xa.size = 256) :
    ∃ out, Try.prog.built 44 [(0, v), (1, .agg sa), (2, .agg xa)] = some out ∧ out.size = 514 ∧ out[0]? = some v ∧ (∀ i, i < 257 → out[1 + i]? = sa[i]?) ∧ (∀ i, i < 256 → out[258 + i]? = xa[i]?) := by
  have hz := zero44
  unfold Program.built
  cases hi : Try.prog.info? 44 with
  | none => rw [hi] at hz; cases hz
  | some it =>
    rw [hi] at hz
    cases hzz : it.zero with
    | none => simp [hzz] at hz
    | some z =>
      have hsz : z.cells.size = 514 := by simpa [hzz] using hz
      rw [Try.underlying44]
      simp only [hzz]
      have hp := places44
      simp only [hp]
      obtain ⟨o1, e1, s1, out1, in1⟩ := lay_arr 0 #[v] z.cells
      obtain ⟨o2, e2, s2, out2, in2⟩ := lay_arr 1 sa o1
      obtain ⟨o3, e3, s3, out3, in3⟩ := lay_arr 258 xa o2
      have c1 : (Value.agg sa).cells = sa := rfl
      have c2 : (Value.agg xa).cells = xa := rfl
      have z1 : (#[v] : Array Value).size = 1 := rfl
      refine ⟨o3, ?_, by omega, ?_, fun i hi => ?_, fun i hi => in3 i (by omega) (by omega)⟩
      · rw [fill_cons _ z.cells 0 v _ 0 1 rfl (by rw [hv]; rfl) (by rw [hv, z1]; omega), hv, e1, fill_cons _ o1 1 (.agg sa) _ 1 257 rfl (by rw [c1]; exact hs) (by rw [c1]; omega), c1, e2,
          fill_cons _ o2 2 (.agg xa) _ 258 256 rfl (by rw [c2]; exact hx) (by rw [c2]; omega), c2, e3]
        rfl
      · rw [out3 0 (by omega), out2 0 (by omega)]
        have := in1 0 (by omega) (by omega)
        simpa using this
      · rw [out3 (1 + i) (by omega)]; exact in2 i (by omega) (by omega)
end Go.Proofs.Qxb6601408a.Fin
