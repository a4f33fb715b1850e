/-
  The proof of the given statement over the walk of the law: the frame by hand (three arrays of ints among the arguments).
-/
import Derived.Test.Qxb6601408aRows
import Derived.WalkKit
import Derived.ProofKit
import Derived.OpenShut
import Derived.ShutString
import Derived.ChangeOld
import Derived.Below
import Derived.Test.Qxb6601408aFinStr
namespace Go.Proofs.Qxb6601408a.fnFinderTableSortedIsStretchwiseSort
open Go.ChangeShapes Go.WideShapes Go.ChangeAt Go.RowKit
set_option linter.unusedVariables false

theorem own : ownKnob Try.prog.godebug = none := by kernel_rfl
theorem laidOut : laidOutB Try.prog = true := by kernel_rfl
theorem cells3 : Try.prog.cellsOf 3 = 1 := by kernel_rfl
theorem cells34 : Try.prog.cellsOf 34 = 257 := by kernel_rfl
theorem cells35 : Try.prog.cellsOf 35 = 256 := by kernel_rfl

theorem okWide_array {P : Program} {w : World} {r : Reach} {base : Nat} {t : TypeId} {v : Value} {n : Nat} {e : TypeId} (ht : P.underlying t = some (.array n e)) (h : Value.okWide P w r base t v) : ∃ cs, v = .agg cs ∧ cs.size = P.cellsOf t := by
  simp only [Value.okWide, ht] at h
  obtain ⟨cs, h1, h2, _⟩ := h
  exact ⟨cs, h1, h2⟩

theorem okWide_spot {P : Program} {w : World} {r : Reach} {base : Nat} {t e : TypeId} {a : Addr} {len cap : Nat} (ht : P.underlying t = some (.slice e)) (h : Value.okWide P w r base t (.slice (some a) len cap)) : a.spot = none := by
  simp only [Value.okWide, ht, Cell.okWide, Cell.ok] at h
  exact h.2.2.2.1

theorem ints_of {H : Type} {enc : TypeId × Value → H} {w : World} {base fuel : Nat} {spare : Nat → Bool} {held : Bool} {t : TypeId} {cs : Array Value} {x : DataW H × List MemPlace} {n : Nat} (ht : Try.prog.underlying t = some (.array n 3)) (hz : cs.size = n)
    (h : DataW.trod enc Try.prog w base spare held fuel t cs.toList = some x) : ∃ F, Fin.IntsI cs n F := by
  obtain ⟨xs, m, _, _, _, hl, he⟩ := DataW.trod_array ht h
  refine ⟨fun i => match cs[i]? with | some (.int .i64 z) => z | _ => 0, hz, fun i hi => ?_⟩
  have h1 := he i hi
  rw [cells3, List.getElem?_eq_getElem (by omega)] at h1
  obtain ⟨z, hz1, _, _⟩ := DataW.trod_int Try.underlying3 h1
  have h2 : cs[i]? = some (.int .i64 z) := by
    rw [Nat.mul_one] at hz1
    have h3 : cs.toList[i]? = some (.int .i64 z) := by
      have h4 : ((cs.toList.drop i).take 1)[0]? = some (.int .i64 z) := by rw [hz1]; rfl
      rw [List.getElem?_take_of_lt (by omega), List.getElem?_drop] at h4
      exact h4
    rw [← Array.getElem?_toList]
    exact h3
  simp only [h2]

/-- a slice of uint64 that came in -/
def IsRow (w : World) (a : Option Addr) (len cap : Nat) (zs : List Int) : Prop :=
  (a = none ∧ len = 0 ∧ cap = 0 ∧ zs = []) ∨
  ∃ x, a = some x ∧ len ≤ cap ∧ cap ≤ maxLen ∧ zs.length = cap ∧ (∀ i, i < zs.length → w.cell? (x.add i) = some (.int .u64 (zs.getD i 0))) ∧ x.spot = none

theorem came {w : World} {a : Option Addr} {l c : Nat} {zs : List Int} (h : IsRow w a l c zs) : Fin.Arg a l c (fun j => zs.getD j 0) w := by
  rcases h with ⟨rfl, rfl, rfl, rfl⟩ | ⟨x, rfl, hl, hm, hz, hcell, hsub⟩
  · exact .inl ⟨rfl, rfl, rfl⟩
  · by_cases h0 : 0 < zs.length
    · obtain ⟨b, off, rfl, hc⟩ := ints_at hcell h0
      exact .inr ⟨b, off, rfl, fun h => World.block_lt_of_cell? _ _ (hc 0 (by omega)), fun j hj => hc j (by omega)⟩
    · obtain ⟨b, off, s⟩ := x
      obtain rfl : s = none := hsub
      exact .inr ⟨b, off, rfl, fun h => by omega, fun j hj => by omega⟩

theorem walk (a0 : Option Addr) (len0 cap0 : Nat) (z0 : List Int) (s x c : Nat → Int) (sa xa ca : Array Value) (w : World) (w0 : IsRow w a0 len0 cap0 z0) (hs : Fin.IntsI sa 257 s) (hx : Fin.IntsI xa 256 x) (hc : Fin.IntsI ca 256 c) :
    Calls Try.prog 5 #[.slice a0 len0 cap0, .agg sa, .agg xa, .agg ca] w fun e w' => e = .returned (.bool true) ∧ RowKit.Below w.heap.size w w' :=
  (Fin.str_c a0 len0 cap0 s x c sa xa ca (fun j => z0.getD j 0) w (came w0) hs hx hc).mono fun e w' h => h

set_option maxRecDepth 100000 in
theorem lifted (os : Os) (started : os.Started) (H : Type) (enc : TypeId × Value → H) :
    ReturnsInHanded {} Try.checked os 5 .any (Rows.fnFinderTableSortedIsStretchwiseSortSpec.pre6 enc Try.prog Try.f5 Rows.fnFinderTableSortedIsStretchwiseSortRow.domain false) (Rows.fnFinderTableSortedIsStretchwiseSortSpec.post enc Try.prog Try.f5 false true false false) := by
  refine returnsInHanded_of_change (C := Try.checked) own started (by kernel_rfl) Try.func5
    (ChangeSpec.witness6 (enc := enc) (C := Try.checked) false ⟨#[], #[.slice none 0 0, .agg (Array.replicate 257 (.int .i64 0)), .agg (Array.replicate 256 (.int .i64 0)), .agg (Array.replicate 256 (.int .i64 0))], []⟩ 8 (by kernel_rfl) (by kernel_rfl) (by kernel_rfl) (by kernel_rfl)) ?_
  intro W base args ds gs before hval0 hW hcnd _
  have hval : ∀ (j : Nat) t v, Try.f5.params[j]? = some t → args[j]? = some v → Value.okWide Try.prog W .any base t v := hval0
  have hW' := hW
  obtain ⟨p, q, hA0, hV, rfl, hfz, hnd⟩ := hW
  have hA : DataW.TrodAll enc Try.prog W 0 (fun _ => true) true Try.f5.params.toList args.toList ds p := hA0
  rw [Try.params5] at hA hval
  obtain ⟨v0, vs0, d0, ds0, p0, q0, hargs, rfl, rfl, h0, r0⟩ := trodAll_cons hA
  obtain ⟨v1, vs1, d1, ds1, p1, q1, rfl, rfl, rfl, h1, r1⟩ := trodAll_cons r0
  obtain ⟨v2, vs2, d2, ds2, p2, q2, rfl, rfl, rfl, h2, r2⟩ := trodAll_cons r1
  obtain ⟨v3, vs3, d3, ds3, p3, q3, rfl, rfl, rfl, h3, r3⟩ := trodAll_cons r2
  obtain ⟨rfl, rfl, rfl⟩ := trodAll_nil r3
  obtain rfl : args = #[v0, v1, v2, v3] := by cases args; simp_all
  obtain ⟨rfl, rfl⟩ := trodVars_none hV
  obtain ⟨a0, len0, cap0, rfl⟩ := okWide_slice Try.underlying33 (hval 0 33 v0 rfl rfl)
  have k0 := h0
  have lt0 : ∀ x ∈ p0, x.block < W.heap.size := by obtain ⟨m, hm⟩ := k0; exact DataW.trod_lt m _ _ _ hm
  obtain ⟨z0, w0⟩ : ∃ zs, IsRow W a0 len0 cap0 zs := by
    obtain ⟨fuel, hf⟩ := h0
    rcases open_ints Try.underlying33 Try.underlying26 (by kernel_rfl) hf with ⟨hcs, _⟩ | ⟨x, l, c, zs, hcs, _, hl, hm, hz, _, hcell, hwz⟩
    · simp [Value.cells] at hcs
      obtain ⟨rfl, rfl, rfl⟩ := hcs
      exact ⟨[], .inl ⟨rfl, rfl, rfl, rfl⟩⟩
    · simp [Value.cells] at hcs
      obtain ⟨rfl, rfl, rfl⟩ := hcs
      exact ⟨zs, .inr ⟨_, rfl, hl, hm, by simpa using hz, hcell, okWide_spot Try.underlying33 (hval 0 33 _ rfl rfl)⟩⟩
  obtain ⟨sa, rfl, ss⟩ := okWide_array Try.underlying34 (hval 1 34 v1 rfl rfl)
  obtain ⟨xa, rfl, sx⟩ := okWide_array Try.underlying35 (hval 2 35 v2 rfl rfl)
  obtain ⟨ca, rfl, sc⟩ := okWide_array Try.underlying35 (hval 3 35 v3 rfl rfl)
  have k1 := h1
  have k2 := h2
  have k3 := h3
  have lt1 : ∀ x ∈ p1, x.block < W.heap.size := by obtain ⟨m, hm⟩ := k1; exact DataW.trod_lt m _ _ _ hm
  have lt2 : ∀ x ∈ p2, x.block < W.heap.size := by obtain ⟨m, hm⟩ := k2; exact DataW.trod_lt m _ _ _ hm
  have lt3 : ∀ x ∈ p3, x.block < W.heap.size := by obtain ⟨m, hm⟩ := k3; exact DataW.trod_lt m _ _ _ hm
  obtain ⟨s, ws⟩ : ∃ F, Fin.IntsI sa 257 F := by obtain ⟨fuel, hf⟩ := h1; exact ints_of Try.underlying34 (ss.trans cells34) hf
  obtain ⟨x, wx⟩ : ∃ F, Fin.IntsI xa 256 F := by obtain ⟨fuel, hf⟩ := h2; exact ints_of Try.underlying35 (sx.trans cells35) hf
  obtain ⟨c, wc⟩ : ∃ F, Fin.IntsI ca 256 F := by obtain ⟨fuel, hf⟩ := h3; exact ints_of Try.underlying35 (sc.trans cells35) hf
  clear hA0 hval0
  refine (walk a0 len0 cap0 z0 s x c sa xa ca W w0 ws wx wc).mono fun e W' ⟨he, bel⟩ => ?_
  subst he
  exact ⟨_, rfl, _, _, _, [], _, [], hW', trodAll_mk1 (shut_bool Try.underlying4 _), (trodAll_cons_mk (Below.trod laidOut (by kernel_rfl) (of_decide_eq_true (by kernel_rfl)) k0 bel lt0) (trodAll_cons_mk (Below.trod laidOut (by kernel_rfl) (of_decide_eq_true (by kernel_rfl)) k1 bel lt1) (trodAll_cons_mk (Below.trod laidOut (by kernel_rfl) (of_decide_eq_true (by kernel_rfl)) k2 bel lt2) (trodAll_cons_mk (Below.trod laidOut (by kernel_rfl) (of_decide_eq_true (by kernel_rfl)) k3 bel lt3) trodAll_mk0)))), rfl, bel.frame _, fun h => by cases h⟩

theorem over : Rows.fnFinderTableSortedIsStretchwiseSortRow.holds Try.pinned (OpenSpec.ofChange Rows.fnFinderTableSortedIsStretchwiseSortSpec) :=
  OpenClaim.holds_of_wide 5 Try.f5 rfl rfl rfl rfl rfl rfl rfl ⟨rfl, rfl, rfl, rfl, rfl⟩ rfl rfl rfl rfl rfl (by kernel_rfl) Try.func5 (by kernel_rfl)
    (of_decide_eq_true (by kernel_rfl)) (by unfold Func.isWrapper; first | (rw [if_pos (by decide +kernel)]; kernel_rfl) | (rw [if_neg (by decide +kernel)]; exact ⟨rfl, rfl⟩))
    (fun os started H enc _ => lifted os started H enc)

/-- ████ THE STATEMENT ████ -/
theorem proved : Rows.FnFinderTableSortedIsStretchwiseSortSaid := over
end Go.Proofs.Qxb6601408a.fnFinderTableSortedIsStretchwiseSort

namespace Go.Proofs.Qxb6601408a
theorem fnFinderTableSortedIsStretchwiseSort_proved : Rows.FnFinderTableSortedIsStretchwiseSortSaid := fnFinderTableSortedIsStretchwiseSort.proved
end Go.Proofs.Qxb6601408a
