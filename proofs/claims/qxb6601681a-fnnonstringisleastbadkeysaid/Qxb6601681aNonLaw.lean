/-
  The walk of the law FnNonStringIsLeastBadKey.
-/
import Derived.Test.Qxb6601681aNonProps
import Derived.Test.Qxb6601681aNonBytes
namespace Go.Proofs.Qxb6601681a.Non
open Go.RowKit
set_option linter.unusedVariables false

/-- what the copy is good for -/
structure QF (w : World) (qm : Value) (n : Nat) (ks : Nat → ByteArray) (V : Nat → Value) (B : Nat → Bool) : Prop where
  get : ∀ j, j < n → (Instr.lookup 32 qm (.string (ks j)) false).run Try.prog w = .ok (V j) w
  elem : ∀ j, j < n → Elem w (V j) (B j)
  call : Calls Try.prog 24 #[qm] w (NonAns n ks B w)
theorem Holds.get {w : World} {b n N : Nat} {ks : Nat → ByteArray} {V : Nat → Value} {D : DataW Value} (h : Holds n ks V D) (ho : w.ownsMap Try.prog 9 RH b N D) {j : Nat} (hj : j < n) (hs : (ks j).size ≤ maxLen) : (Instr.lookup 32 (.map (some b)) (.string (ks j)) false).run Try.prog w = .ok (V j) w := by
  obtain ⟨v, ps, h1, h2⟩ := ho.lookup keyed9 Try.underlying32 (zero42 w) (RH_mk none 0 0) (keyL hs)
  obtain ⟨c, h3, h4⟩ := RH_inv h2
  rw [h.at_ j hj] at h4
  injection h4 with h4
  injection h4 with h4
  rw [h1, ← h4]
def QAns (n : Nat) (ks : Nat → ByteArray) (w : World) (e : Ending) (w' : World) : Prop :=
  ∃ (qm : Value) (V : Nat → Value) (B : Nat → Bool), e = .returned qm ∧ Below w.heap.size w w' ∧ ∀ w2, Below w'.heap.size w' w2 → QF w2 qm n ks V B
theorem q_c (pm : Value) (look : ByteArray → Value) (cnt : Nat) (A : Option Addr) (n cap : Nat) (ks : Nat → ByteArray) (w : World) (hn : n ≤ 65536) (hK : KS w A n ks) (hP : PM w pm look cnt) (hnc : n = cnt) (hr : Rise n ks) (hl : ∀ j, j < n → len (look (ks j)) ≤ 131072) :
    Calls Try.prog 22 #[pm, .slice A n cap] w (QAns n ks w) := by
  rcases hP.map with ⟨rfl, h0, _⟩ | ⟨bp, _, _, rfl, _⟩
  · refine (cp_nil A n cap w).mono ?_
    rintro e w' ⟨rfl, rfl⟩
    refine ⟨.map none, fun _ => .slice none 0 0, fun _ => true, rfl, Below.refl _ _, fun w2 hb => ?_⟩
    obtain rfl : n = 0 := by omega
    exact ⟨fun j hj => by omega, fun j hj => by omega, zz_of _ _ _ _ _ (non_nil ks _ w2)⟩
  · refine (cp_c bp look cnt A n cap ks w hn hK hP hr hl).mono ?_
    rintro e w' ⟨V, B, D, rfl, h1, h2, h3, h4⟩
    refine ⟨_, V, B, rfl, h1, fun w2 hb => ?_⟩
    have o2 := owns_on h2 hb
    have e2 : ∀ j, j < n → Elem w2 (V j) (B j) := fun j hj => (h4 j hj).on hb
    exact ⟨fun j hj => h3.get o2 hj (hK.size j), e2, zz_of _ _ _ _ _ (non_c _ n ks V B D w2 hn hr o2 h3 e2)⟩

def TrueAns (w : World) (e : Ending) (w' : World) : Prop := e = .returned (.bool true) ∧ Below w.heap.size w w'
theorem Least.at {n : Nat} {ks : Nat → ByteArray} {B : Nat → Bool} {key : ByteArray} {found : Bool} (h : Least n ks B key found) {i : Nat} (hi : i < n) (hb : B i = true) (hf : ∀ j, j < i → B j = false) : found = true ∧ key = ks i := by
  rcases h with ⟨_, _, h⟩ | ⟨m, h1, h2, h3, h4, h5⟩
  · rw [h i hi] at hb; cases hb
  · have : m = i := by
      rcases Nat.lt_trichotomy m i with g | g | g
      · rw [hf m g] at h4; cases h4
      · exact g
      · rw [h5 i g] at hb; cases hb
    subst this
    exact ⟨h2, h3⟩
theorem Least.none {n : Nat} {ks : Nat → ByteArray} {B : Nat → Bool} {key : ByteArray} {found : Bool} (h : Least n ks B key found) (hf : ∀ j, j < n → B j = false) : found = false ∧ key = ByteArray.empty := by
  rcases h with ⟨h1, h2, h⟩ | ⟨m, h1, h2, h3, h4, h5⟩
  · exact ⟨h1, h2⟩
  · rw [hf m h1] at h4; cases h4

set_option maxRecDepth 100000 in
set_option maxHeartbeats 4000000 in
theorem law7 (pm : Value) (look : ByteArray → Value) (cnt : Nat) (A : Option Addr) (n cap : Nat) (ks : Nat → ByteArray) (w : World) (hK : KS w A n ks) (hA : A = none → n = 0 ∧ cap = 0) (hP : PM w pm look cnt) (hnm : n ≤ maxLen) :
    Calls Try.prog 7 #[pm, .slice A n cap] w (TrueAns w) := by
  have HK : Hid (KS w A n ks) := hK
  have HA : Hid (A = none → n = 0 ∧ cap = 0) := hA
  have HP : Hid (PM w pm look cnt) := hP
  clear hK hA hP hnm
  by_cases hc : 65536 < cnt
  · have dc : decide (65536 < cnt) = true := decide_eq_true hc
    have dc' : decide ((65536 : Int) < cnt) = true := decide_eq_true (by omega)
    go_enter Try.func7, Try.ntmps7
    go_wp2_with (at_len; refine wpList_len_run rfl (.tmp 9) rfl pm (.int .i64 cnt) rfl HP.out.lenRun ?_)
    go_ret
    exact ⟨rfl, Below.refl _ _⟩
  · have dc : decide (65536 < cnt) = false := decide_eq_false hc
    have dc' : decide ((65536 : Int) < cnt) = false := decide_eq_false (by omega)
    by_cases hn : 65536 < n
    · have dn : decide (65536 < n) = true := decide_eq_true hn
      have dn' : decide ((65536 : Int) < n) = true := decide_eq_true (by omega)
      go_enter Try.func7, Try.ntmps7
      go_wp2_with (at_len; refine wpList_len_run rfl (.tmp 9) rfl pm (.int .i64 cnt) rfl HP.out.lenRun ?_)
      go_ret
      exact ⟨rfl, Below.refl _ _⟩
    · have dn : decide (65536 < n) = false := decide_eq_false hn
      have dn' : decide ((65536 : Int) < n) = false := decide_eq_false (by omega)
      have hn' : n ≤ 65536 := by omega
      go_enter Try.func7, Try.ntmps7
      go_wp2_with (at_len; refine wpList_len_run rfl (.tmp 9) rfl pm (.int .i64 cnt) rfl HP.out.lenRun ?_)
      refine (kb_c A n cap ks _ hn' HK.out).mono ?_
      rintro e w1 ⟨z, rfl, hz, rfl⟩
      by_cases hz1 : 1048576 < z
      · have dz : decide (1048576 < z) = true := decide_eq_true hz1
        have dz' : decide ((1048576 : Int) < z) = true := decide_eq_true (by omega)
        go_wp2_with fail
        go_ret
        exact ⟨rfl, Below.refl _ _⟩
      · have dz : decide (1048576 < z) = false := decide_eq_false hz1
        have dz' : decide ((1048576 : Int) < z) = false := decide_eq_false (by omega)
        go_wp2_with fail
        refine (ko_c pm look cnt A n cap ks _ hn' HK.out HP.out).mono ?_
        rintro e w2 ⟨r, rfl, b2, h2⟩
        have B2 : Hid (Below w1.heap.size w1 w2) := b2
        have H2 : Hid (r = true → n = cnt ∧ Rise n ks) := h2
        clear b2 h2
        cases r with
        | false =>
          go_wp2_with fail
          go_ret
          exact ⟨rfl, B2.out⟩
        | true =>
          have HN : Hid (n = cnt ∧ Rise n ks) := H2.out rfl
          clear H2
          have K2 : Hid (KS w2 A n ks) := HK.out.on B2.out
          have P2 : Hid (PM w2 pm look cnt) := HP.out.on B2.out
          go_wp2_with fail
          refine (vb_c pm look cnt A n cap ks _ hn' K2.out P2.out).mono ?_
          rintro e w3 ⟨z2, rfl, hz2, rfl, hl⟩
          have HL : Hid (z2 ≤ 1048576 → ∀ j, j < n → len (look (ks j)) ≤ 131072) := hl
          clear hl
          by_cases hz3 : 1048576 < z + z2
          · have dz3 : decide ((1048576 : Int) < (z : Int) + z2) = true := decide_eq_true (by omega)
            go_wp2_with fail
            go_ret
            exact ⟨rfl, B2.out⟩
          · have dz3 : decide ((1048576 : Int) < (z : Int) + z2) = false := decide_eq_false (by omega)
            have HL2 : Hid (∀ j, j < n → len (look (ks j)) ≤ 131072) := HL.out (by omega)
            clear HL
            go_wp2_with fail
            refine (q_c pm look cnt A n cap ks _ hn' K2.out P2.out HN.out.1 HN.out.2 HL2.out).mono ?_
            rintro e w4 ⟨qm, V, Bd, rfl, b4, hq⟩
            have B4 : Hid (Below w3.heap.size w3 w4) := b4
            have HQ : Hid (∀ w2, Below w4.heap.size w4 w2 → QF w2 qm n ks V Bd) := hq
            have K4 : Hid (KS w4 A n ks) := K2.out.on B4.out
            clear b4 hq
            go_wp2_with fail
            refine (ck_c A n cap ks _ hn' K4.out HA.out).mono ?_
            rintro e w5 ⟨A5, cap5, rfl, b5, k5⟩
            have B5 : Hid (Below w4.heap.size w4 w5) := b5
            have K5 : Hid (KS w5 A5 n ks) := k5
            have Q5 : Hid (QF w5 qm n ks V Bd) := HQ.out w5 b5
            clear b5 k5
            go_wp2_with fail
            refine Q5.out.call.mono ?_
            rintro e w6 ⟨key, found, rfl, hle, b6⟩
            have B6 : Hid (Below w5.heap.size w5 w6) := b6
            have LE : Hid (Least n ks Bd key found) := hle
            have K6 : Hid (KS w6 A5 n ks) := K5.out.on b6
            have Q6 : Hid (QF w6 qm n ks V Bd) := HQ.out w6 (B5.out.trans (bdown b6 B5.out.size))
            have BW : Hid (Below w1.heap.size w1 w6) := ((B2.out.trans (bdown B4.out B2.out.size)).trans (bdown B5.out (Nat.le_trans B2.out.size B4.out.size))).trans (bdown b6 (Nat.le_trans (Nat.le_trans B2.out.size B4.out.size) B5.out.size))
            clear b6 hle
            go_wp2_with fail
            go_loopw [8] (fun iv wq => ∃ i : Nat, iv = .int .i64 i ∧ i ≤ n ∧ w6 = wq ∧ Hid (∀ j, j < i → Bd j = false)) (fun iv _ => n + 1 - (intOf iv).toNat)
            case atStart => exact ⟨0, rfl, by omega, rfl, fun j hj => by omega⟩
            case round =>
              obtain ⟨i, rfl, hi, rfl, hF⟩ := hrel
              by_cases hin : i < n
              · have din : decide (i < n) = true := decide_eq_true hin
                have nin : (i : Int) < n := by omega
                obtain ⟨kb, off, rfl, hkb, hcl⟩ := K6.out.at_ (by omega)
                obtain ⟨u, hu⟩ : ∃ u, u = ks i := ⟨_, rfl⟩
                have cu : w6.cell? ⟨kb, off + i, none⟩ = some (.string u) := by rw [hu]; exact hcl i hin
                have HU : Hid (u = ks i) := hu
                have HG : Hid ((Instr.lookup 32 qm (.string u) false).run Try.prog w6 = .ok (V i) w6) := by rw [hu]; exact Q6.out.get i hin
                have EV : Hid (Elem w6 (V i) (Bd i)) := Q6.out.elem i hin
                clear hu hcl
                go_wp2_with (at_lookup; refine wpList_lookup_run rfl (.tmp 47) (.tmp 51) false rfl qm (.string u) (V i) rfl rfl HG.out ?_)
                refine (bad_c (V i) (Bd i) _ EV.out).mono ?_
                rintro e w7 ⟨rfl, rfl⟩
                cases hbi : Bd i with
                | true =>
                  obtain ⟨e1, e2⟩ := LE.out.at hin hbi hF.out
                  have e3 : key = u := e2.trans HU.out.symm
                  subst e1
                  subst e3
                  clear hbi e2
                  go_wp2_with fail
                  go_ret
                  exact ⟨rfl, BW.out⟩
                | false =>
                  have HBI : Hid (Bd i = false) := hbi
                  clear hbi
                  go_wp2_with fail
                  go_roundw
                  case rel =>
                    refine ⟨i + 1, by go_num, by omega, trivial, fun j hj => ?_⟩
                    by_cases e : j < i
                    · exact hF.out j e
                    · rw [show j = i from by omega]; exact HBI.out
                  case measure => simp [intOf] <;> omega
              · have din : decide (i < n) = false := decide_eq_false hin
                obtain ⟨e1, e2⟩ := LE.out.none fun j hj => hF.out j (by omega)
                have e3 : key = { data := #[] } := e2
                subst e1
                subst e3
                clear e2
                go_wp2_with fail
                go_ret
                exact ⟨rfl, BW.out⟩
end Go.Proofs.Qxb6601681a.Non
