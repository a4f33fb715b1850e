/-
  The proof of the given statement over the walk of the law: the frame by hand (a map of slices of pointers to strings, a slice of strings).
-/
import Derived.Test.Qxb6601681aRows
import Derived.WalkKit
import Derived.ProofKit
import Derived.OpenShut
import Derived.ShutString
import Derived.SliceStrings
import Derived.ChangeOld
import Derived.Below
import Derived.Test.Qxb6601681aNonLaw
namespace Go.Proofs.Qxb6601681a.fnNonStringIsLeastBadKey
open Go.ChangeShapes Go.WideShapes Go.ChangeAt Go.RowKit Go.WideElems
open Go.Proofs.Qxb6601681a.Non (RS PM KS RH)
set_option linter.unusedVariables false

theorem own : ownKnob Try.prog.godebug = none := by kernel_rfl
theorem laidOut : laidOutB Try.prog = true := by kernel_rfl
theorem cells50 : Try.prog.cellsOf 50 = 1 := by kernel_rfl
theorem cells9 : Try.prog.cellsOf 9 = 1 := by kernel_rfl

theorem cells_formed {v : Value} (h : v.formed Try.prog 42 = true) : v.cells.toList = [v] := by
  cases v <;> simp [Value.formed, Value.cells, Try.underlying42] at h ⊢

/-- the pointer that a cell holds -/
def ptrOf (x : Option Value) : Option Addr := match x with | some (.pointer q) => q | _ => none

section
variable {H : Type} {enc : TypeId × Value → H} {W : World} {sp : Nat → Bool} {held : Bool}

theorem ptr_of {n : Nat} {x : Value} {y : DataW H × List MemPlace} (h : DataW.trod enc Try.prog W 0 sp held n 50 [x] = some y) :
    x = .pointer none ∨ ∃ pb po s, x = .pointer (some ⟨pb, po, none⟩) ∧ pb < W.heap.size ∧ W.cell? ⟨pb, po, none⟩ = some (.string s) ∧ s.size ≤ maxLen := by
  rcases DataW.trod_pointer Try.underlying50 h with ⟨hcs, _⟩ | ⟨a, cs', y', m, _, hcs, _, hcell, hstr⟩
  · left; simpa using hcs
  · right
    obtain ⟨s, rfl, _, hsz⟩ := DataW.trod_string Try.underlying9 hstr
    rw [cells9] at hcell
    have hc := cell_of_cells?_one hcell
    have hspot := World.cell?_spot hc
    obtain ⟨pb, po, q⟩ := a
    obtain rfl : q = none := hspot
    exact ⟨pb, po, s, by simpa using hcs, World.block_lt_of_cell? _ _ hc, hc, hsz⟩

theorem rs_of {n : Nat} {v : Value} {z : DataW H × List MemPlace} (h : elemAt enc Try.prog W 0 sp held n 42 v = some z) : RS W v := by
  unfold elemAt at h
  split at h
  · rename_i hf
    rw [cells_formed hf] at h
    rcases DataW.trod_slice Try.underlying42 h with ⟨hcs, _⟩ | ⟨a, len, cap, elems, rest, m, _, hcs, _, _, hl, hm, hlen, hel, _, _⟩
    · left; simpa using hcs
    · have hv : v = .slice (some a) len cap := by simpa using hcs
      subst hv
      have each : ∀ j, j < len → ∃ x, W.cell? (a.add j) = some x ∧ (x = .pointer none ∨ ∃ pb po s, x = .pointer (some ⟨pb, po, none⟩) ∧ pb < W.heap.size ∧ W.cell? ⟨pb, po, none⟩ = some (.string s) ∧ s.size ≤ maxLen) := by
        intro j hj
        have h1 := hel j hj
        rw [cells50, Nat.mul_one, List.getElem?_eq_getElem (by omega), Option.bind_eq_some_iff] at h1
        obtain ⟨cs', hc1, hc2⟩ := h1
        have hlen1 : cs'.length = 1 := by
          unfold World.cells? at hc1
          split at hc1
          · have := mapM_some_length hc1
            simpa using this
          · cases hc1
        obtain ⟨x, rfl⟩ : ∃ x, cs' = [x] := by
          match cs', hlen1 with
          | [x], _ => exact ⟨x, rfl⟩
        exact ⟨x, cell_of_cells?_one hc1, ptr_of hc2⟩
      refine .inr ⟨a, len, cap, fun j => ptrOf (W.cell? (a.add j)), rfl, by omega, fun h0 => ?_, fun j hj p hp => ?_⟩
      · obtain ⟨x, hx, _⟩ := each 0 h0
        have hspot := World.cell?_spot hx
        obtain ⟨b, off, q⟩ := a
        have hq : q = none := by simpa [Addr.add] using hspot
        subst hq
        refine ⟨b, off, rfl, ?_, fun j hj => ?_⟩
        · rw [add_plain] at hx
          exact World.block_lt_of_cell? _ _ hx
        · obtain ⟨y, hy, hk⟩ := each j hj
          rw [add_plain] at hy
          show W.cell? _ = some (.pointer (ptrOf (W.cell? (Addr.add _ j))))
          rw [add_plain, hy]
          rcases hk with rfl | ⟨pb, po, s, rfl, _⟩ <;> rfl
      · obtain ⟨y, hy, hk⟩ := each j hj
        have hp : ptrOf (W.cell? (a.add j)) = some p := hp
        rw [hy] at hp
        rcases hk with rfl | ⟨pb, po, s, rfl, h1, h2, h3⟩
        · cases hp
        · cases hp
          exact ⟨pb, po, s, rfl, h1, h2, h3⟩
  · cases h

theorem pm_of {fuel : Nat} {a0 : Option Nat} {x : DataW H × List MemPlace} (hf : DataW.trod enc Try.prog W 0 sp held fuel 32 (Value.map a0).cells.toList = some x) : ∃ look cnt, PM W (.map a0) look cnt := by
  rcases open_map Try.underlying32 hf with ⟨hcs, _⟩ | ⟨bm, es, clock, m, _, hcs, hb, _, F, _⟩
  · have e : a0 = none := by simpa [Value.cells] using hcs
    subst e
    exact ⟨fun _ => .slice none 0 0, 0, .inl ⟨rfl, rfl, fun _ => rfl⟩, fun _ _ => .inl rfl, Nat.zero_le _⟩
  · have e : a0 = some bm := by simpa [Value.cells] using hcs
    subst e
    have rs : ∀ y ∈ es.toList, RS W y.val := fun y hy => by
      obtain ⟨r, hr⟩ := F.reads y hy
      obtain ⟨z, hz, _⟩ := rd_val hr
      exact rs_of hz
    have hv : ∀ y ∈ es.toList, ∃ c : Option Addr × Nat × Nat, y.val = .slice c.1 c.2.1 c.2.2 := fun y hy => by
      rcases rs y hy with h | ⟨a, l, c, _, h, _⟩
      · exact ⟨(none, 0, 0), h⟩
      · exact ⟨(some a, l, c), h⟩
    have F' : Fit Try.prog 9 RH es clock := ⟨F.size, F.stamped, fun y hy => by
      obtain ⟨r, hr⟩ := F.reads y hy
      obtain ⟨c, hc⟩ := hv y hy
      refine ⟨(r.1, .held y.val), ?_⟩
      have hk := rd_key hr
      have h1 : RH y.val = some (.held y.val, []) := by rw [hc]; rfl
      simp [rd, hk, h1]⟩
    obtain ⟨D, hD⟩ : ∃ D : DataW Value, D = .map ((es.toList.map (rg Try.prog 9 RH)).foldr DataW.insert []) := ⟨_, rfl⟩
    have hown : W.ownsMap Try.prog 9 RH bm es.size D := ⟨es, clock, hb, F', Nat.le_refl _, hD⟩
    have key : ∀ s : ByteArray, s.size ≤ maxLen → ∃ v, D.atKey (Non.L s) (.held (.slice none 0 0)) = .held v ∧ RS W v := fun s hs => by
      rw [hD]
      rcases Maps.fit_look false Non.keyed9 Try.underlying32 (Non.zero42 W) hb F' (Non.keyL hs) with ⟨_, _, hat⟩ | ⟨e0, y, hm, _, _, hR, hat, _⟩
      · exact ⟨_, hat _, .inl rfl⟩
      · obtain ⟨c, _, h2⟩ := Non.RH_inv hR
        refine ⟨e0.val, ?_, rs e0 hm⟩
        rw [hat, h2]
    refine ⟨fun s => match D.atKey (Non.L s) (.held (.slice none 0 0)) with | .held v => v | _ => .slice none 0 0, Maps.size D, .inr ⟨bm, es.size, D, rfl, hown, rfl, fun s hs => ?_⟩, fun s hs => ?_, Nat.le_trans hown.size_le F.size⟩
    · obtain ⟨v, h1, _⟩ := key s hs
      simp only [h1]
    · obtain ⟨v, h1, h2⟩ := key s hs
      simp only [h1]
      exact h2

theorem ks_of {fuel : Nat} {a : Option Addr} {l c : Nat} {x : DataW H × List MemPlace} (hf : DataW.trod enc Try.prog W 0 sp held fuel 33 (Value.slice a l c).cells.toList = some x) (hsp : ∀ b, sp b = true) : ∃ ks, KS W a l ks ∧ (a = none → l = 0 ∧ c = 0) ∧ l ≤ maxLen := by
  rcases open_strings Try.underlying33 Try.underlying9 cells9 hf with ⟨hcs, _⟩ | ⟨ad, len, cap, ss, hcs, _, hl, hm, hz, _, hcell, hsz⟩
  · simp [Value.cells] at hcs
    obtain ⟨rfl, rfl, rfl⟩ := hcs
    exact ⟨fun _ => ByteArray.empty, ⟨fun h => absurd h (Nat.lt_irrefl 0), fun _ => Nat.zero_le _⟩, fun _ => ⟨rfl, rfl⟩, Nat.zero_le _⟩
  · simp [Value.cells] at hcs
    obtain ⟨rfl, rfl, rfl⟩ := hcs
    rw [if_pos (hsp _)] at hz
    refine ⟨fun j => ss.getD j ByteArray.empty, ⟨fun h0 => ?_, fun j => ?_⟩, fun h => (by cases h), by omega⟩
    · have h1 := hcell 0 (by omega)
      have hspot := World.cell?_spot h1
      obtain ⟨b, off, q⟩ := ad
      have hq : q = none := by simpa [Addr.add] using hspot
      subst hq
      refine ⟨b, off, rfl, ?_, fun j hj => ?_⟩
      · rw [add_plain] at h1
        exact World.block_lt_of_cell? _ _ h1
      · have := hcell j (by omega)
        rw [add_plain] at this
        exact this
    · by_cases hj : j < ss.length
      · show (ss.getD j ByteArray.empty).size ≤ maxLen
        rw [List.getD_eq_getElem?_getD, List.getElem?_eq_getElem hj]
        exact hsz _ (List.getElem_mem hj)
      · show (ss.getD j ByteArray.empty).size ≤ maxLen
        rw [List.getD_eq_getElem?_getD, List.getElem?_eq_none (by omega)]
        exact Nat.zero_le _
end

set_option maxRecDepth 100000 in
theorem lifted (os : Os) (started : os.Started) (H : Type) (enc : TypeId × Value → H) :
    ReturnsInHanded {} Try.checked os 7 .any (Rows.fnNonStringIsLeastBadKeySpec.pre6 enc Try.prog Try.f7 Rows.fnNonStringIsLeastBadKeyRow.domain false) (Rows.fnNonStringIsLeastBadKeySpec.post enc Try.prog Try.f7 false true false false) := by
  refine returnsInHanded_of_change (C := Try.checked) own started (by kernel_rfl) Try.func7
    (ChangeSpec.witness6 (enc := enc) (C := Try.checked) false ⟨#[], #[.map none, .slice none 0 0], []⟩ 8 (by kernel_rfl) (by kernel_rfl) (by kernel_rfl) (by kernel_rfl)) ?_
  intro W base args ds gs before hval0 hW hcnd _
  have hval : ∀ (j : Nat) t v, Try.f7.params[j]? = some t → args[j]? = some v → Value.okWide Try.prog W .any base t v := hval0
  have hW' := hW
  obtain ⟨p, q, hA0, hV, rfl, hfz, hnd⟩ := hW
  have hA : DataW.TrodAll enc Try.prog W 0 (fun _ => true) true Try.f7.params.toList args.toList ds p := hA0
  rw [Try.params7] at hA hval
  obtain ⟨v0, vs0, d0, ds0, p0, q0, hargs, rfl, rfl, h0, r0⟩ := trodAll_cons hA
  obtain ⟨v1, vs1, d1, ds1, p1, q1, rfl, rfl, rfl, h1, r1⟩ := trodAll_cons r0
  obtain ⟨rfl, rfl, rfl⟩ := trodAll_nil r1
  obtain rfl : args = #[v0, v1] := by cases args; simp_all
  obtain ⟨rfl, rfl⟩ := trodVars_none hV
  obtain ⟨a0, rfl⟩ := okWide_map Try.underlying32 (hval 0 32 v0 rfl rfl)
  obtain ⟨a1, len1, cap1, rfl⟩ := okWide_slice Try.underlying33 (hval 1 33 v1 rfl rfl)
  have k0 := h0
  have k1 := h1
  have lt0 : ∀ x ∈ p0, x.block < W.heap.size := by obtain ⟨m, hm⟩ := k0; exact DataW.trod_lt m _ _ _ hm
  have lt1 : ∀ x ∈ p1, x.block < W.heap.size := by obtain ⟨m, hm⟩ := k1; exact DataW.trod_lt m _ _ _ hm
  obtain ⟨look, cnt, wp⟩ : ∃ look cnt, PM W (.map a0) look cnt := by obtain ⟨fuel, hf⟩ := h0; exact pm_of hf
  obtain ⟨ks, wk, wa, wl⟩ : ∃ ks, KS W a1 len1 ks ∧ (a1 = none → len1 = 0 ∧ cap1 = 0) ∧ len1 ≤ maxLen := by obtain ⟨fuel, hf⟩ := h1; exact ks_of hf (fun _ => rfl)
  clear hA0 hval0
  refine (Non.law7 (.map a0) look cnt a1 len1 cap1 ks W wk wa wp wl).mono fun e W' ⟨he, bel⟩ => ?_
  subst he
  exact ⟨_, rfl, _, _, _, [], _, [], hW', trodAll_mk1 (shut_bool Try.underlying4 _), (trodAll_cons_mk (Below.trod laidOut (by kernel_rfl) (of_decide_eq_true (by kernel_rfl)) k0 bel lt0) (trodAll_cons_mk (Below.trod laidOut (by kernel_rfl) (of_decide_eq_true (by kernel_rfl)) k1 bel lt1) trodAll_mk0)), rfl, bel.frame _, fun h => by cases h⟩

theorem over : Rows.fnNonStringIsLeastBadKeyRow.holds Try.pinned (OpenSpec.ofChange Rows.fnNonStringIsLeastBadKeySpec) :=
  OpenClaim.holds_of_wide 7 Try.f7 rfl rfl rfl rfl rfl rfl rfl ⟨rfl, rfl, rfl, rfl, rfl⟩ rfl rfl rfl rfl rfl (by kernel_rfl) Try.func7 (by kernel_rfl)
    (of_decide_eq_true (by kernel_rfl)) (by unfold Func.isWrapper; first | (rw [if_pos (by decide +kernel)]; kernel_rfl) | (rw [if_neg (by decide +kernel)]; exact ⟨rfl, rfl⟩))
    (fun os started H enc _ => lifted os started H enc)

/-- ████ THE STATEMENT ████ -/
theorem proved : Rows.FnNonStringIsLeastBadKeySaid := over
end Go.Proofs.Qxb6601681a.fnNonStringIsLeastBadKey

namespace Go.Proofs.Qxb6601681a
theorem fnNonStringIsLeastBadKey_proved : Rows.FnNonStringIsLeastBadKeySaid := fnNonStringIsLeastBadKey.proved
end Go.Proofs.Qxb6601681a
