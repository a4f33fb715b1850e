/-
  The walks of regB1Bad, nonString and ZZNonString.
-/
import Derived.Test.Qxb6601681aNonMap
namespace Go.Proofs.Qxb6601681a.Non
open Go.RowKit
set_option linter.unusedVariables false

/-- a value of the copy: nil, or a row of pointers; B: is it bad -/
def Elem (w : World) (v : Value) (B : Bool) : Prop :=
  (v = .slice none 0 0 ∧ B = true) ∨ ∃ (g l : Nat) (pt : Nat → Option Addr), v = .slice (some ⟨g, 0, none⟩) l l ∧ l ≤ 131072 ∧ g < w.heap.size ∧ (∀ j, j < l → w.cell? ⟨g, j, none⟩ = some (.pointer (pt j))) ∧ (B = true ↔ ∃ j, j < l ∧ pt j = none)
theorem Elem.on {w w' : World} {v : Value} {B : Bool} (h : Elem w v B) (hB : Below w.heap.size w w') : Elem w' v B := by
  rcases h with h | ⟨g, l, pt, h1, h2, h3, h4, h5⟩
  · exact .inl h
  · exact .inr ⟨g, l, pt, h1, h2, Nat.lt_of_lt_of_le h3 hB.size, fun j hj => by rw [hB.cell (by exact h3)]; exact h4 j hj, h5⟩

theorem Elem.gen {w : World} {v : Value} {B : Bool} (h : Elem w v B) : ∃ (A : Option Addr) (l : Nat) (pt : Nat → Option Addr), v = .slice A l l ∧ l ≤ 131072 ∧ (0 < l → ∃ g, A = some ⟨g, 0, none⟩ ∧ ∀ j, j < l → w.cell? ⟨g, j, none⟩ = some (.pointer (pt j))) ∧ (B = true ↔ A.isNone = true ∨ ∃ j, j < l ∧ pt j = none) := by
  rcases h with ⟨rfl, rfl⟩ | ⟨g, l, pt, h1, h2, h3, h4, h5⟩
  · exact ⟨none, 0, fun _ => none, rfl, by omega, fun h => by omega, by simp⟩
  · exact ⟨some ⟨g, 0, none⟩, l, pt, h1, h2, fun _ => ⟨g, rfl, h4⟩, by simp [h5]⟩

set_option maxHeartbeats 1000000 in
theorem bad_c (v : Value) (B : Bool) (w : World) (h : Elem w v B) : Calls Try.prog 25 #[v] w fun e w' => e = .returned (.bool B) ∧ w' = w := by
  rcases h with ⟨rfl, rfl⟩ | ⟨g, l, pt, rfl, hl, hg, hc, hB⟩
  · have hnil := fun w => Lib.run_eql_slice_nil (P := Try.prog) w 42 50 none 0 0 0 0 Try.underlying42
    go_enter Try.func25, Try.ntmps25
    go_wp2_with fail
    go_ret
    exact ⟨rfl, rfl⟩
  · have hnil := fun w => Lib.run_eql_slice_nil (P := Try.prog) w 42 50 (some ⟨g, 0, none⟩) l l 0 0 Try.underlying42
    have HC : Hid (∀ j, j < l → w.cell? ⟨g, j, none⟩ = some (.pointer (pt j))) := hc
    have HB : Hid (B = true ↔ ∃ j, j < l ∧ pt j = none) := hB
    clear hc hB
    go_enter Try.func25, Try.ntmps25
    go_wp2_with fail
    go_loopw [3] (fun jv wq => ∃ j : Nat, jv = .int .i64 j ∧ j ≤ l ∧ w = wq ∧ Hid (∀ i, i < j → pt i ≠ none)) (fun jv _ => l + 1 - (intOf jv).toNat)
    case atStart => exact ⟨0, rfl, by omega, rfl, fun i hi => by omega⟩
    case round =>
      obtain ⟨j, rfl, hj, rfl, hN⟩ := hrel
      by_cases hjl : j < l
      · have djl : decide (j < l) = true := decide_eq_true hjl
        have njl : (j : Int) < l := by omega
        have cp := HC.out j hjl
        cases hp : pt j with
        | none =>
          rw [hp] at cp
          have HT : Hid (B = true) := HB.out.2 ⟨j, hjl, hp⟩
          clear hp
          go_wp2_with fail
          go_ret
          exact ⟨by rw [HT.out]; rfl, rfl⟩
        | some p =>
          rw [hp] at cp
          have HP : Hid (pt j ≠ none) := by show pt j ≠ none; rw [hp]; simp
          clear hp
          go_wp2_with fail
          go_roundw
          case rel =>
            refine ⟨j + 1, by go_num, by omega, trivial, fun i hi => ?_⟩
            by_cases e : i < j
            · exact hN.out i e
            · rw [show i = j from by omega]; exact HP.out
          case measure => simp [intOf] <;> omega
      · have djl : decide (j < l) = false := decide_eq_false hjl
        have HF : Hid (B = false) := by
          show B = false
          cases hb : B
          · rfl
          · obtain ⟨i, h1, h2⟩ := HB.out.1 hb
            exact absurd h2 (hN.out i (by omega))
        go_wp2_with fail
        go_ret
        exact ⟨by rw [HF.out]; rfl, rfl⟩

def NonAns (n : Nat) (ks : Nat → ByteArray) (B : Nat → Bool) (w : World) (e : Ending) (w' : World) : Prop := ∃ key found, e = .returned (.tuple #[.string key, .bool found]) ∧ Least n ks B key found ∧ Below w.heap.size w w'

theorem invK (key : Value) (kl : Lit) (h : keyOf Try.prog 9 key = some kl) : ∃ x, key = Value.string x := by
  obtain ⟨s, rfl, _⟩ := WideMaps.string_of_keyOf Try.underlying9 h
  exact ⟨s, rfl⟩
def mkV (c : Option Addr × Nat × Nat) : Value := .slice c.1 c.2.1 c.2.2
theorem invV (v : Value) (y : DataW Value × List MemPlace) (h : RH v = some y) : ∃ c, v = mkV c := by
  obtain ⟨c, rfl, _⟩ := RH_inv h
  exact ⟨c, rfl⟩
/-- which entry has come -/
theorem which {n : Nat} {ks : Nat → ByteArray} {V : Nat → Value} {D : DataW Value} (hh : Holds n ks V D) {x : ByteArray} {c : Option Addr × Nat × Nat} {kl : Lit} {y : DataW Value × List MemPlace} (hkey : keyOf Try.prog 9 (.string x) = some kl) (hv : RH (mkV c) = some y) (hat : ∀ zd, D.atKey kl zd = y.1) :
    ∃ m, m < n ∧ kl = L (ks m) ∧ x = ks m ∧ V m = mkV c := by
  obtain ⟨m, hm, e⟩ := hh.keys kl (Maps.has_true_of_atKey hat)
  obtain ⟨s, h1, h2, _⟩ := WideMaps.string_of_keyOf Try.underlying9 hkey
  cases h1
  have h3 : L x = L (ks m) := h2.symm.trans e
  have h4 := hat .nil
  rw [e, hh.at_ m hm] at h4
  obtain ⟨_, _, h5⟩ := RH_inv hv
  rw [h5] at h4
  injection h4 with h4
  exact ⟨m, hm, e, L_inj h3, h4⟩

set_option maxRecDepth 100000 in
set_option maxHeartbeats 2000000 in
theorem non_c (b n : Nat) (ks : Nat → ByteArray) (V : Nat → Value) (B : Nat → Bool) (D : DataW Value) (w : World) (hn : n ≤ 65536) (hr : Rise n ks) (ho : w.ownsMap Try.prog 9 RH b n D) (hh : Holds n ks V D) (he : ∀ j, j < n → Elem w (V j) (B j)) :
    Calls Try.prog 29 #[.map (some b)] w (NonAns n ks B w) := by
  have HR : Hid (Rise n ks) := hr
  have HO : Hid (w.ownsMap Try.prog 9 RH b n D) := ho
  have HH : Hid (Holds n ks V D) := hh
  have HE : Hid (∀ j, j < n → Elem w (V j) (B j)) := he
  clear hr ho hh he
  go_enter Try.func29, Try.ntmps29
  go_wp2_with (at_range; refine wpList_range_own _ rfl _ 51 rfl 9 42 keyed9 Try.underlying51 RH b n D rfl HO.out ?_; intro w0 hrg0 hg0 hs0)
  go_frame
  obtain ⟨r, hrr⟩ : ∃ r, r = w.heap.size := ⟨_, rfl⟩
  rw [← hrr] at hrg0 ⊢
  have HRR : Hid (r = w.heap.size) := hrr
  have RG0 : Hid (w0.ranges Try.prog 9 RH b r n D (Maps.has D) (Maps.size D)) := hrg0
  have B0 : Hid (Below w.heap.size w w0) := ⟨hg0.os, hg0.tape, hg0.output, hg0.size, fun i hi => hg0.block i hi (by simp)⟩
  clear hrg0 hg0 hs0 hrr
  go_loopw [2, 3] (fun kv fv wq => ∃ (key : ByteArray) (found : Bool) (left : Lit → Bool) (cnt : Nat), kv = .string key ∧ fv = .bool found ∧ Hid (wq.ranges Try.prog 9 RH b r n D left cnt) ∧ Hid (Best n ks B left key found) ∧ Hid (Below w.heap.size w wq)) (fun _ _ wq => wq.rangeLeft b r)
  case atStart => exact ⟨ByteArray.empty, false, _, _, rfl, rfl, RG0, Best.start fun j hj => HH.out.has j hj, B0⟩
  case round =>
    obtain ⟨key, found, left, cnt, rfl, rfl, hrg, hbest, hB⟩ := hrel
    clear RG0 B0
    go_wp2_with (at_next; refine wpList_next_ranges _ rfl _ rfl 9 keyed9 RH Value.string mkV invK invV b r n D left cnt rfl hrg.out ?_ ?_)
    · intro _ hl0
      have LE : Hid (Least n ks B key found) := hbest.out.done hl0
      go_wp2_with fail
      go_ret2
      exact ⟨key, found, rfl, LE.out, hB.out⟩
    · intro x a l0 c0 kl yd yp w1 cnt1 hkey hlk hv hat hrg1 hlt hg1 hs1 hen
      obtain ⟨m, hm, rfl, rfl, hVm⟩ := which HH.out hkey hv hat
      have RG1 : Hid (w1.ranges Try.prog 9 RH b r n D (fun z => left z && !z.sameKey (L (ks m))) cnt1) := hrg1
      have LT : Hid (cnt1 < cnt) := hlt
      have B1 : Hid (Below w.heap.size w w1) := hB.out.trans ⟨hg1.os, hg1.tape, hg1.output, hg1.size, fun i hi => hg1.block i (Nat.lt_of_lt_of_le hi hB.out.size) (by have := HRR.out; intro e; injection e with e; omega)⟩
      have EM : Hid (Elem w1 (V m) (B m)) := (HE.out m hm).on B1.out
      have hmk : mkV (a, l0, c0) = .slice a l0 c0 := rfl
      rw [hmk] at hen ⊢
      obtain ⟨A, l, pt, e1, hl, hcells, hbad⟩ := EM.out.gen
      rw [e1, hmk] at hVm
      injection hVm with q1 q2 q3
      subst q1 q2 q3
      have HC : Hid (0 < l → ∃ g, A = some ⟨g, 0, none⟩ ∧ ∀ j, j < l → w1.cell? ⟨g, j, none⟩ = some (.pointer (pt j))) := hcells
      have HBD : Hid (B m = true ↔ A.isNone = true ∨ ∃ j, j < l ∧ pt j = none) := hbad
      have hnil := fun w => Lib.run_eql_slice_nil (P := Try.prog) w 42 50 A l l 0 0 Try.underlying42
      obtain ⟨bd0, hbd0⟩ : ∃ bd0, A.isNone = bd0 := ⟨_, rfl⟩
      have HB0 : Hid (A.isNone = bd0) := hbd0
      obtain ⟨km, hkm⟩ : ∃ km, km = ks m := ⟨_, rfl⟩
      rw [← hkm] at hen ⊢
      have HKM : Hid (km = ks m) := hkm
      clear hkey hlk hv hat hrg1 hlt hg1 hs1 hmk e1 hcells hbad EM hkm
      go_wp2_with fail
      go_loopw [6, 20] (fun bv jv wq => ∃ (bd : Bool) (j : Nat), bv = .bool bd ∧ jv = .int .i64 j ∧ j ≤ l ∧ w1 = wq ∧ Hid (bd = true ↔ bd0 = true ∨ ∃ i, i < j ∧ pt i = none)) (fun _ jv _ => l + 1 - (intOf jv).toNat)
      case atStart => exact ⟨bd0, 0, rfl, rfl, by omega, rfl, ⟨fun h => .inl h, fun h => h.elim id (fun ⟨i, h, _⟩ => absurd h (Nat.not_lt_zero _))⟩⟩
      case round =>
        obtain ⟨bd, j, rfl, rfl, hj, rfl, hbd⟩ := hrel
        by_cases hjl : j < l
        · have djl : decide (j < l) = true := decide_eq_true hjl
          have njl : (j : Int) < l := by omega
          obtain ⟨g, rfl, hc⟩ := HC.out (by omega)
          have cp := hc j hjl
          cases hp : pt j with
          | none =>
            rw [hp] at cp
            have HP : Hid (pt j = none) := hp
            clear hp hc
            cases bd with
            | true =>
              go_wp2_with fail
              go_roundw
              case rel => exact ⟨true, j + 1, rfl, by go_num, by omega, trivial, ⟨fun _ => .inr ⟨j, by omega, HP.out⟩, fun _ => rfl⟩⟩
              case measure => simp [intOf] <;> omega
            | false =>
              go_wp2_with fail
              go_roundw
              case rel => exact ⟨true, j + 1, rfl, by go_num, by omega, trivial, ⟨fun _ => .inr ⟨j, by omega, HP.out⟩, fun _ => rfl⟩⟩
              case measure => simp [intOf] <;> omega
          | some p =>
            rw [hp] at cp
            have HP : Hid (pt j ≠ none) := by show pt j ≠ none; rw [hp]; simp
            have HBN : Hid (bd = true ↔ bd0 = true ∨ ∃ i, i < j + 1 ∧ pt i = none) := by
              refine ⟨fun h => ?_, fun h => ?_⟩
              · rcases hbd.out.1 h with h | ⟨i, h1, h2⟩
                · exact .inl h
                · exact .inr ⟨i, by omega, h2⟩
              · refine hbd.out.2 ?_
                rcases h with h | ⟨i, h1, h2⟩
                · exact .inl h
                · refine .inr ⟨i, ?_, h2⟩
                  by_cases e : i = j
                  · subst e; exact absurd h2 HP.out
                  · omega
            clear hp hc
            cases bd with
            | true =>
              go_wp2_with fail
              go_roundw
              case rel => exact ⟨true, j + 1, rfl, by go_num, by omega, trivial, HBN⟩
              case measure => simp [intOf] <;> omega
            | false =>
              go_wp2_with fail
              go_roundw
              case rel => exact ⟨false, j + 1, rfl, by go_num, by omega, trivial, HBN⟩
              case measure => simp [intOf] <;> omega
        · have djl : decide (j < l) = false := decide_eq_false hjl
          obtain rfl : j = l := by omega
          have HBM : Hid (bd = B m) := by
            show bd = B m
            have h1 := HBD.out
            have h2 := hbd.out
            rw [HB0.out] at h1
            cases hb1 : bd <;> cases hb2 : B m
            · rfl
            · rw [hb1] at h2; have := h2.2 (h1.1 hb2); cases this
            · rw [hb2] at h1; have := h1.2 (h2.1 hb1); cases this
            · rfl
          clear hnil hbd0
          cases bd with
          | false =>
            go_wp2_with fail
            go_roundw
            case rel => exact ⟨key, found, _, cnt1, rfl, rfl, RG1, hbest.out.skip HR.out hm HBM.out.symm, B1⟩
            case measure => rw [RG1.out.left_eq, hrg.out.left_eq]; exact LT.out
          | true =>
            cases found with
            | false =>
              go_wp2_with fail
              go_roundw
              case rel => exact ⟨km, true, _, cnt1, rfl, rfl, RG1, by rw [HKM.out]; exact hbest.out.take HR.out hm HBM.out.symm (.inl rfl), B1⟩
              case measure => rw [RG1.out.left_eq, hrg.out.left_eq]; exact LT.out
            | true =>
              cases hls : Op.bytesLess km.toList key.toList with
              | false =>
                have HLS : Hid (Op.bytesLess km.toList key.toList = false) := hls
                go_wp2_with fail
                go_roundw
                case rel => exact ⟨key, true, _, cnt1, rfl, rfl, RG1, hbest.out.keep HR.out hm rfl (by rw [← HKM.out]; exact HLS.out), B1⟩
                case measure => rw [RG1.out.left_eq, hrg.out.left_eq]; exact LT.out
              | true =>
                have HLS : Hid (Op.bytesLess km.toList key.toList = true) := hls
                go_wp2_with fail
                go_roundw
                case rel => exact ⟨km, true, _, cnt1, rfl, rfl, RG1, by rw [HKM.out]; exact hbest.out.take HR.out hm HBM.out.symm (.inr (by rw [← HKM.out]; exact HLS.out)), B1⟩
                case measure => rw [RG1.out.left_eq, hrg.out.left_eq]; exact LT.out

/-- a nil map: the loop has no round -/
theorem non_nil (ks : Nat → ByteArray) (B : Nat → Bool) (w : World) : Calls Try.prog 29 #[.map none] w (NonAns 0 ks B w) := by
  have hrg := run_range_nilMap (P := Try.prog) w 51 9 42 Try.underlying51
  have hnx : ∀ ty, (Instr.next (.pointer (some ⟨w.heap.size, 0, none⟩)) false ty).run Try.prog (w.alloc (.mapIter none 0 #[] 0)) = _ := fun ty => run_next_nilMap w ty 0 0 #[]
  go_enter Try.func29, Try.ntmps29
  go_wp2
  refine wp_loop_rounds 1 ?_
  rw [rounds_succ]
  go_wp2
  go_ret2
  exact ⟨ByteArray.empty, false, rfl, .inl ⟨rfl, rfl, fun j hj => by omega⟩, (Below.refl _ _).alloc (Nat.le_refl _) _⟩

set_option maxHeartbeats 1000000 in
theorem zz_of (m : Value) (n : Nat) (ks : Nat → ByteArray) (B : Nat → Bool) (w : World) (h : Calls Try.prog 29 #[m] w (NonAns n ks B w)) : Calls Try.prog 24 #[m] w (NonAns n ks B w) := by
  have H : Hid (Calls Try.prog 29 #[m] w (NonAns n ks B w)) := h
  clear h
  go_enter Try.func24, Try.ntmps24
  go_wp2_with fail
  refine H.out.mono ?_
  rintro e w1 ⟨key, found, rfl, h1, h2⟩
  have H1 : Hid (Least n ks B key found ∧ Below w.heap.size w w1) := ⟨h1, h2⟩
  clear h1 h2
  go_wp2_with fail
  go_ret2
  exact ⟨key, found, rfl, H1.out⟩
end Go.Proofs.Qxb6601681a.Non
