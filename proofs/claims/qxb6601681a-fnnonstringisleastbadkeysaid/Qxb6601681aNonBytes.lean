/-
  The walks of regB1KeyBytes, regB1KeysOf, regB1ValueBytes.
-/
import Derived.Test.Qxb6601681aNonMap
namespace Go.Proofs.Qxb6601681a.Non
open Go.RowKit
set_option linter.unusedVariables false

def KbAns (w : World) (e : Ending) (w' : World) : Prop := ∃ z : Nat, e = .returned (.int .i64 z) ∧ z ≤ 4194304 ∧ w' = w

set_option maxHeartbeats 1000000 in
theorem kb_c (A : Option Addr) (n cap : Nat) (ks : Nat → ByteArray) (w : World) (hn : n ≤ 65536) (hK : KS w A n ks) : Calls Try.prog 19 #[.slice A n cap] w (KbAns w) := by
  have HK : Hid (KS w A n ks) := hK
  clear hK
  go_enter Try.func19, Try.ntmps19
  go_wp2_with fail
  go_loopw [3, 4] (fun tv iv wq => ∃ t i : Nat, tv = .int .i64 t ∧ t ≤ 1048576 ∧ iv = .int .i64 i ∧ i ≤ n ∧ w = wq) (fun _ iv _ => n + 1 - (intOf iv).toNat)
  case atStart => exact ⟨0, 0, rfl, by omega, rfl, by omega, rfl⟩
  case round =>
    obtain ⟨t, i, rfl, ht, rfl, hi, rfl⟩ := hrel
    by_cases hin : i < n
    · have din : decide (i < n) = true := decide_eq_true hin
      have nin : (i : Int) < n := by omega
      obtain ⟨b, off, rfl, hb, hc⟩ := HK.out.at_ (by omega)
      obtain ⟨u, hu⟩ : ∃ u, u = ks i := ⟨_, rfl⟩
      have cu : w.cell? ⟨b, off + i, none⟩ = some (.string u) := by rw [hu]; exact hc i hin
      obtain ⟨sz, hsz⟩ : ∃ sz, u.size = sz := ⟨_, rfl⟩
      clear hc hu
      by_cases hs : 1048576 < sz
      · have ds : decide (1048576 < sz) = true := decide_eq_true hs
        have ds' : decide ((1048576 : Int) < sz) = true := decide_eq_true (by omega)
        go_wp2_with fail
        go_ret
        exact ⟨1048577, rfl, by omega, rfl⟩
      · have ds : decide (1048576 < sz) = false := decide_eq_false hs
        have ds' : decide ((1048576 : Int) < sz) = false := decide_eq_false (by omega)
        by_cases hs2 : 1048576 < t + sz
        · have ds2 : decide ((1048576 : Int) < (t : Int) + sz) = true := decide_eq_true (by omega)
          go_wp2_with fail
          go_ret
          exact ⟨t + sz, by go_num, by omega, rfl⟩
        · have ds2 : decide ((1048576 : Int) < (t : Int) + sz) = false := decide_eq_false (by omega)
          go_wp2_with fail
          go_roundw
          case rel => exact ⟨t + sz, i + 1, by go_num, by omega, by go_num, by omega, trivial⟩
          case measure => simp [intOf] <;> omega
    · have din : decide (i < n) = false := decide_eq_false hin
      go_wp2_with fail
      go_ret
      exact ⟨t, rfl, by omega, rfl⟩

def KoAns (n cnt : Nat) (ks : Nat → ByteArray) (w : World) (e : Ending) (w' : World) : Prop := ∃ r, e = .returned (.bool r) ∧ Below w.heap.size w w' ∧ (r = true → n = cnt ∧ Rise n ks)

set_option maxHeartbeats 1000000 in
theorem ko_c (pm : Value) (look : ByteArray → Value) (cnt : Nat) (A : Option Addr) (n cap : Nat) (ks : Nat → ByteArray) (w : World) (hn : n ≤ 65536) (hK : KS w A n ks) (hP : PM w pm look cnt) : Calls Try.prog 20 #[pm, .slice A n cap] w (KoAns n cnt ks w) := by
  have HK : Hid (KS w A n ks) := hK
  have HP : Hid (PM w pm look cnt) := hP
  clear hK hP
  by_cases hnc : n = cnt
  · have t1 : (n != cnt) = false := by simp [hnc]
    have t2 : ((n : Int) != (cnt : Int)) = false := by simp [hnc]
    have HNC : Hid (n = cnt) := hnc
    clear hnc
    go_enter Try.func20, Try.ntmps20
    go_wp2_with (at_len; refine wpList_len_run rfl (.tmp 10) rfl pm (.int .i64 cnt) rfl HP.out.lenRun ?_)
    go_loopw [5] (fun iv wq => ∃ i : Nat, iv = .int .i64 i ∧ i ≤ n ∧ Hid (Below w.heap.size w wq) ∧ Hid (∀ j, j + 1 < i → Lt (ks j) (ks (j + 1)))) (fun iv _ => n + 1 - (intOf iv).toNat)
    case atStart => exact ⟨0, rfl, by omega, Below.refl _ _, fun j hj => by omega⟩
    case round =>
      obtain ⟨i, rfl, hi, hB, hL⟩ := hrel
      by_cases hin : i < n
      · have din : decide (i < n) = true := decide_eq_true hin
        have nin : (i : Int) < n := by omega
        obtain ⟨b, off, rfl, hb, hc⟩ := (HK.out.on hB.out).at_ (by omega)
        obtain ⟨u, hu⟩ : ∃ u, u = ks i := ⟨_, rfl⟩
        have cu : wr.cell? ⟨b, off + i, none⟩ = some (.string u) := by rw [hu]; exact hc i hin
        have hus : u.size ≤ maxLen := by rw [hu]; exact HK.out.size i
        have HU : Hid (u = ks i) := hu
        have HPR : Hid (PM wr pm look cnt) := HP.out.on hB.out
        by_cases hi0 : i = 0
        · have HI0 : Hid (i = 0) := hi0
          have d0 : decide (0 < i) = false := decide_eq_false (by omega)
          have d0' : decide ((0 : Int) < i) = false := decide_eq_false (by omega)
          clear hc hu hi0
          go_wp2_with fail
          go_quiet (fail)
          go_wp2_with (at_lookup; refine wpList_lookup_ok rfl (.tmp 34) (.tmp 38) rfl pm u look cnt rfl rfl (HPR.out.on (below_drewN (Below.refl _ _) _)) hus ?_; intro k)
          · go_ret
            exact ⟨false, rfl, below_drewN hB.out _, fun h => by cases h⟩
          · go_roundw
            case rel => exact ⟨i + 1, by go_num, by omega, below_drewN hB.out _, fun j hj => by have := HI0.out; omega⟩
            case measure => simp [intOf] <;> omega
        · have HI0 : Hid (0 < i) := by show 0 < i; omega
          have d0 : decide (0 < i) = true := decide_eq_true (by omega)
          have d0' : decide ((0 : Int) < i) = true := decide_eq_true (by omega)
          obtain ⟨v, hv⟩ : ∃ v, v = ks (i - 1) := ⟨_, rfl⟩
          have HV : Hid (v = ks (i - 1)) := hv
          have hi1 : 1 ≤ i := by omega
          have cv : wr.cell? ⟨b, off + (i - 1), none⟩ = some (.string v) := by rw [hv]; exact hc (i - 1) (by omega)
          have nin1 : (i : Int) - 1 < n := by omega
          clear hc hu hi0 hv
          cases hbl : Op.bytesLess v.toList u.toList with
          | false =>
            go_wp2_with fail
            go_quiet (fail)
            go_wp2_with fail
            go_ret
            exact ⟨false, rfl, below_drewN hB.out _, fun h => by cases h⟩
          | true =>
            have HBL : Hid (Op.bytesLess v.toList u.toList = true) := hbl
            go_wp2_with fail
            go_quiet (fail)
            go_wp2_with (at_lookup; refine wpList_lookup_ok rfl (.tmp 34) (.tmp 38) rfl pm u look cnt rfl rfl (HPR.out.on (below_drewN (Below.refl _ _) _)) hus ?_; intro k)
            · go_ret
              exact ⟨false, rfl, below_drewN hB.out _, fun h => by cases h⟩
            · go_roundw
              case rel =>
                refine ⟨i + 1, by go_num, by omega, below_drewN hB.out _, fun j hj => ?_⟩
                by_cases e : j + 1 < i
                · exact hL.out j e
                · have hlt : Lt v u := HBL.out
                  rw [HV.out, HU.out] at hlt
                  rw [show j = i - 1 from by omega, show i - 1 + 1 = i from by omega]
                  exact hlt
              case measure => simp [intOf] <;> omega
      · have din : decide (i < n) = false := decide_eq_false hin
        go_wp2_with fail
        go_ret
        exact ⟨true, rfl, hB.out, fun _ => ⟨HNC.out, rise_of fun j hj => hL.out j (by omega)⟩⟩
  · have t1 : (n != cnt) = true := by simp [hnc]
    have t2 : ((n : Int) != (cnt : Int)) = true := by simp; omega
    go_enter Try.func20, Try.ntmps20
    go_wp2_with (at_len; refine wpList_len_run rfl (.tmp 10) rfl pm (.int .i64 cnt) rfl HP.out.lenRun ?_)
    go_ret
    exact ⟨false, rfl, Below.refl _ _, fun h => by cases h⟩

def VbAns (n : Nat) (ks : Nat → ByteArray) (look : ByteArray → Value) (w : World) (e : Ending) (w' : World) : Prop := ∃ z : Nat, e = .returned (.int .i64 z) ∧ z ≤ 4194304 ∧ w' = w ∧ (z ≤ 1048576 → ∀ j, j < n → len (look (ks j)) ≤ 131072)

set_option maxHeartbeats 2000000 in
theorem vb_c (pm : Value) (look : ByteArray → Value) (cnt : Nat) (A : Option Addr) (n cap : Nat) (ks : Nat → ByteArray) (w : World) (hn : n ≤ 65536) (hK : KS w A n ks) (hP : PM w pm look cnt) : Calls Try.prog 21 #[pm, .slice A n cap] w (VbAns n ks look w) := by
  have HK : Hid (KS w A n ks) := hK
  have HP : Hid (PM w pm look cnt) := hP
  clear hK hP
  go_enter Try.func21, Try.ntmps21
  go_wp2_with fail
  go_loopw [5, 6] (fun tv iv wq => ∃ t i : Nat, tv = .int .i64 t ∧ t ≤ 1048576 ∧ iv = .int .i64 i ∧ i ≤ n ∧ w = wq ∧ Hid (∀ j, j < i → len (look (ks j)) ≤ 131072)) (fun _ iv _ => n + 1 - (intOf iv).toNat)
  case atStart => exact ⟨0, 0, rfl, by omega, rfl, by omega, rfl, fun j hj => by omega⟩
  case round =>
    obtain ⟨t, i, rfl, ht, rfl, hi, rfl, hL⟩ := hrel
    by_cases hin : i < n
    · have din : decide (i < n) = true := decide_eq_true hin
      have nin : (i : Int) < n := by omega
      obtain ⟨b, off, rfl, hb, hc⟩ := HK.out.at_ (by omega)
      obtain ⟨u, hu⟩ : ∃ u, u = ks i := ⟨_, rfl⟩
      have cu : w.cell? ⟨b, off + i, none⟩ = some (.string u) := by rw [hu]; exact hc i hin
      have hus : u.size ≤ maxLen := by rw [hu]; exact HK.out.size i
      have HU : Hid (u = ks i) := hu
      obtain ⟨A2, l, c, pt, hv, hlm, hnil, hcells, hstr⟩ := (HP.out.read u hus).gen
      have HV : Hid (look u = .slice A2 l c) := hv
      have HC : Hid (0 < l → ∃ b off, A2 = some ⟨b, off, none⟩ ∧ b < w.heap.size ∧ ∀ j, j < l → w.cell? ⟨b, off + j, none⟩ = some (.pointer (pt j))) := hcells
      have HS : Hid (∀ j, j < l → ∀ p, pt j = some p → ∃ pb po s, p = ⟨pb, po, none⟩ ∧ pb < w.heap.size ∧ w.cell? ⟨pb, po, none⟩ = some (.string s) ∧ s.size ≤ maxLen) := hstr
      have hlm' : (l : Int) ≤ 9223372036854775807 := by unfold maxLen at hlm; omega
      clear hc hu hv hnil hcells hstr hlm
      by_cases hl : 131072 < l
      · have dl : decide (131072 < l) = true := decide_eq_true hl
        have dl' : decide ((131072 : Int) < l) = true := decide_eq_true (by omega)
        go_wp2_with (at_lookup; refine wpList_lookup_pm rfl (.tmp 16) (.tmp 20) rfl pm u look cnt (.slice A2 l c) rfl rfl HP.out hus HV.out ?_)
        go_ret
        exact ⟨1048577, rfl, by omega, rfl, fun h => by omega⟩
      · have dl : decide (131072 < l) = false := decide_eq_false hl
        have dl' : decide ((131072 : Int) < l) = false := decide_eq_false (by omega)
        have HL2 : Hid (∀ j, j < i + 1 → len (look (ks j)) ≤ 131072) := fun j hj => by
          by_cases e : j < i
          · exact hL.out j e
          · rw [show j = i from by omega, ← HU.out, HV.out]; show l ≤ 131072; omega
        obtain ⟨t2, ht2⟩ : ∃ t2 : Nat, t2 = t + 8 * l := ⟨_, rfl⟩
        have et2 : (t : Int) + 8 * l = t2 := by omega
        have ht3 : t2 ≤ 2097152 := by omega
        clear hL
        by_cases hs : 1048576 < t2
        · have ds : decide ((1048576 : Int) < t2) = true := decide_eq_true (by omega)
          have ds' : decide (1048576 < t2) = true := decide_eq_true (by omega)
          clear ht2
          go_wp2_with (at_lookup; refine wpList_lookup_pm rfl (.tmp 16) (.tmp 20) rfl pm u look cnt (.slice A2 l c) rfl rfl HP.out hus HV.out ?_)
          go_ret
          exact ⟨t2, rfl, by omega, rfl, fun h => by omega⟩
        · have ds : decide ((1048576 : Int) < t2) = false := decide_eq_false (by omega)
          have ds' : decide (1048576 < t2) = false := decide_eq_false (by omega)
          clear ht2
          go_wp2_with (at_lookup; refine wpList_lookup_pm rfl (.tmp 16) (.tmp 20) rfl pm u look cnt (.slice A2 l c) rfl rfl HP.out hus HV.out ?_)
          go_loopw [5, 8] (fun tv jv wq => ∃ t3 j : Nat, tv = .int .i64 t3 ∧ t3 ≤ 1048576 ∧ jv = .int .i64 j ∧ j ≤ l ∧ w = wq) (fun _ jv _ => l + 1 - (intOf jv).toNat)
          case atStart => exact ⟨t2, 0, rfl, by omega, rfl, by omega, rfl⟩
          case round =>
            obtain ⟨t3, j, rfl, ht4, rfl, hj, rfl⟩ := hrel
            clear dl dl' ds ds' et2 din
            by_cases hjl : j < l
            · have djl : decide (j < l) = true := decide_eq_true hjl
              have njl : (j : Int) < l := by omega
              obtain ⟨b2, off2, rfl, hb2, hc2⟩ := HC.out (by omega)
              have cp : w.cell? ⟨b2, off2 + j, none⟩ = some (.pointer (pt j)) := hc2 j hjl
              cases hp : pt j with
              | none =>
                rw [hp] at cp
                clear hc2 hp
                go_wp2_with fail
                go_roundw
                case rel => exact ⟨t3, j + 1, rfl, by omega, by go_num, by omega, trivial⟩
                case measure => simp [intOf] <;> omega
              | some p =>
                rw [hp] at cp
                obtain ⟨pb, po, s, rfl, hpb, cs, hss⟩ := HS.out j hjl p hp
                obtain ⟨sz, hsz⟩ : ∃ sz, s.size = sz := ⟨_, rfl⟩
                clear hc2 hp hss
                by_cases hs1 : 1048576 < sz
                · have ds1 : decide (1048576 < sz) = true := decide_eq_true hs1
                  have ds1' : decide ((1048576 : Int) < sz) = true := decide_eq_true (by omega)
                  go_wp2_with fail
                  go_ret
                  exact ⟨1048577, rfl, by omega, rfl, fun h => by omega⟩
                · have ds1 : decide (1048576 < sz) = false := decide_eq_false hs1
                  have ds1' : decide ((1048576 : Int) < sz) = false := decide_eq_false (by omega)
                  by_cases hs2 : 1048576 < t3 + sz
                  · have ds2 : decide ((1048576 : Int) < (t3 : Int) + sz) = true := decide_eq_true (by omega)
                    go_wp2_with fail
                    go_ret
                    exact ⟨t3 + sz, by go_num, by omega, rfl, fun h => by omega⟩
                  · have ds2 : decide ((1048576 : Int) < (t3 : Int) + sz) = false := decide_eq_false (by omega)
                    go_wp2_with fail
                    go_roundw
                    case rel => exact ⟨t3 + sz, j + 1, by go_num, by omega, by go_num, by omega, trivial⟩
                    case measure => simp [intOf] <;> omega
            · have djl : decide (j < l) = false := decide_eq_false hjl
              go_wp2_with fail
              go_roundw
              case rel => exact ⟨t3, i + 1, rfl, by omega, by go_num, by omega, trivial, HL2⟩
              case measure => simp [intOf] <;> omega
    · have din : decide (i < n) = false := decide_eq_false hin
      go_wp2_with fail
      go_ret
      exact ⟨t, rfl, by omega, rfl, fun _ j hj => hL.out j (by omega)⟩
end Go.Proofs.Qxb6601681a.Non
