/-
  The walks of the functions on the road of FnTagLengthIsTheOneTagPrefix, each a contract, and the plain law on bytes.
-/
import Derived.Test.Qxb6601561aRows
import Derived.WalkKit
import Derived.WalkSpells
import Derived.WalkLawsBesides
import Derived.Deep.RegionWith
namespace Go.Proofs.Qxb6601561a.Tag
open Go.RowKit

/-- The call returned a bool that is true just where P holds, in the world as it was. -/
def Says (P : Prop) (w : World) (e : Ending) (w' : World) : Prop :=
  ∃ b : Bool, e = .returned (.bool b) ∧ (b = true ↔ P) ∧ w = w'

theorem says_mk {P : Prop} {w : World} {v : Value} (b : Bool) (hv : v = .bool b) (h : b = true ↔ P) : Says P w (.returned v) w :=
  ⟨b, by rw [hv], h, rfl⟩

theorem says_yes {P : Prop} {w : World} {e : Ending} {w' : World} (h : Says P w e w') (hp : P) : e = .returned (.bool true) ∧ w = w' := by
  obtain ⟨b, rfl, hb, rfl⟩ := h
  rw [hb.2 hp]; exact ⟨rfl, rfl⟩
theorem says_no {P : Prop} {w : World} {e : Ending} {w' : World} (h : Says P w e w') (hp : ¬ P) : e = .returned (.bool false) ∧ w = w' := by
  obtain ⟨b, rfl, hb, rfl⟩ := h
  cases b
  · exact ⟨rfl, rfl⟩
  · exact absurd (hb.1 rfl) hp

def etagP (c : Int) : Prop := c = 33 ∨ (35 ≤ c ∧ c ≤ 126) ∨ 128 ≤ c

set_option maxHeartbeats 400000 in
theorem etagChar_c (c : Int) (w : World) :
    Calls Try.prog 14 #[.int .u8 c] w (Says (etagP c) w) := by
  by_cases h1 : c = 33
  · go_enter Try.func14, Try.ntmps14
    go_wp2
    go_ret
    exact says_mk true rfl (by simp [etagP, h1])
  · have h1' : (c == 33) = false := by simp [h1]
    by_cases h2 : 35 ≤ c
    · by_cases h3 : c ≤ 126
      · go_enter Try.func14, Try.ntmps14
        go_wp2
        go_ret
        exact says_mk true rfl (by simp [etagP, h2, h3])
      · by_cases h4 : 128 ≤ c
        · go_enter Try.func14, Try.ntmps14
          go_wp2
          go_ret
          exact says_mk true rfl (by simp [etagP, h4])
        · go_enter Try.func14, Try.ntmps14
          go_wp2
          go_ret
          exact says_mk false rfl (by simp [etagP]; omega)
    · go_enter Try.func14, Try.ntmps14
      go_wp2
      go_ret
      exact says_mk _ rfl (by simp [etagP]; omega)

/-- byte i of s, as a number; 0 beyond its end -/
def chr (s : ByteArray) (i : Nat) : Int := ((s.data[i]?.getD 0).toNat : Int)

theorem chr_get (s : ByteArray) (i : Nat) (h : i < s.size) : ((s[i]'h).toNat : Int) = chr s i := by
  unfold chr
  have h' : i < s.data.size := h
  rw [Array.getElem?_eq_getElem h']; rfl

theorem chr_extract (s : ByteArray) (a b i : Nat) (h : a + i < b) (hb : b ≤ s.size) : chr (s.extract a b) i = chr s (a + i) := by
  have h1 : i < (s.extract a b).size := by rw [ByteArray.size_extract]; omega
  have h2 : a + i < s.size := by omega
  rw [← chr_get _ _ h1, ← chr_get _ _ h2]
  rw [ByteArray.getElem_extract]

def W2 (s : ByteArray) : Prop := 2 ≤ s.size ∧ chr s 0 = 87 ∧ chr s 1 = 47

theorem pre2 (s : ByteArray) (h : 2 ≤ s.size) : ((s.extract 0 2).toList == [87, 47]) = true ↔ W2 s := by
  have hsz : (s.extract 0 2).size = 2 := by rw [ByteArray.size_extract]; omega
  have h0 := chr_extract s 0 2 0 (by omega) h
  have h1 := chr_extract s 0 2 1 (by omega) h
  generalize s.extract 0 2 = t at *
  rw [ByteArray.toList_eq]
  have hl : t.data.toList.length = 2 := by simpa using hsz
  have c0 : chr t 0 = ((t.data.toList[0]?.getD 0).toNat : Int) := by simp [chr]
  have c1 : chr t 1 = ((t.data.toList[1]?.getD 0).toNat : Int) := by simp [chr]
  generalize t.data.toList = l at *
  match l, hl with
  | [a, b], _ =>
    simp at c0 c1
    rw [c0] at h0
    rw [c1] at h1
    simp [W2, h, ← h0, ← h1]
    constructor
    · rintro ⟨rfl, rfl⟩; decide
    · rintro ⟨a1, a2⟩; exact ⟨UInt8.toNat_inj.1 (by show a.toNat = 87; omega), UInt8.toNat_inj.1 (by show b.toNat = 47; omega)⟩

set_option maxHeartbeats 400000 in
theorem hasPrefix_c (s : ByteArray) (w : World) (hs : s.size ≤ maxLen) :
    Calls Try.prog 13 #[.string s, .string ⟨#[87, 47]⟩] w (Says (W2 s) w) := by
  unfold maxLen at hs
  by_cases h : 2 ≤ s.size
  · go_enter Try.func13, Try.ntmps13
    go_wp2
    go_ret
    exact says_mk _ rfl (pre2 s h)
  · go_enter Try.func13, Try.ntmps13
    go_wp2
    go_ret
    exact says_mk _ rfl (by simp [W2]; omega)

def quotedP (s : ByteArray) : Prop := 2 ≤ s.size ∧ chr s 0 = 34 ∧ chr s (s.size - 1) = 34 ∧ ∀ i, 1 ≤ i → i < s.size - 1 → etagP (chr s i)

set_option maxHeartbeats 400000 in
theorem quoted_c (s : ByteArray) (w : World) (hs : s.size ≤ maxLen) :
    Calls Try.prog 12 #[.string s] w (Says (quotedP s) w) := by
  unfold maxLen at hs
  by_cases h : 2 ≤ s.size
  · have hd : decide ((s.size : Int) < 2) = false := decide_eq_false (by omega)
    by_cases h0 : chr s 0 = 34
    · have e0 : (s[0]'(by omega)).toNat = 34 := by have := chr_get s 0 (by omega); omega
      by_cases h1 : chr s (s.size - 1) = 34
      · have e1 : (s[s.size - 1]'(by omega)).toNat = 34 := by have := chr_get s (s.size - 1) (by omega); omega
        have H0 : Hid (chr s 0 = 34) := h0
        have H1 : Hid (chr s (s.size - 1) = 34) := h1
        clear h0 h1
        go_enter Try.func12, Try.ntmps12
        go_wp2
        go_loop [3] (fun i => ∃ k : Nat, 1 ≤ k ∧ k ≤ s.size - 1 ∧ i = .int .i64 k ∧ Hid (∀ j, 1 ≤ j → j < k → etagP (chr s j))) (fun i => s.size - (intOf i).toNat)
        case atStart => exact ⟨1, by omega, by omega, rfl, fun j _ _ => by omega⟩
        case round =>
          obtain ⟨k, hk1, hk2, rfl, hall⟩ := hrel
          by_cases hlt : k < s.size - 1
          · have hg : ((s[k]'(by omega)).toNat : Int) = chr s k := chr_get s k (by omega)
            by_cases hc : etagP (chr s k)
            · have HC : Hid (etagP (chr s k)) := hc
              clear hc
              go_wp2_with (go_at_call 14; refine (etagChar_c _ _).mono ?_; intro e w' hsay; obtain ⟨rfl, rfl⟩ := says_yes hsay HC; clear hsay)
              go_round
              case rel => exact ⟨k + 1, by omega, by omega, by go_num, fun j a b => if hj : j = k then by rw [hj]; exact HC else hall j a (by omega)⟩
              case measure => simp [intOf]; omega
            · have HC : Hid (¬ etagP (chr s k)) := hc
              clear hc
              go_wp2_with (go_at_call 14; refine (etagChar_c _ _).mono ?_; intro e w' hsay; obtain ⟨rfl, rfl⟩ := says_no hsay HC; clear hsay)
              go_ret
              exact says_mk _ rfl (by simp; exact fun h => HC (h.2.2.2 k hk1 hlt))
          · go_wp2
            go_ret
            exact says_mk _ rfl (by simp; exact ⟨h, H0, H1, fun i a b => hall i a (by omega)⟩)
      · have e1 : ((s[s.size - 1]'(by omega)).toNat == 34) = false := by have := chr_get s (s.size - 1) (by omega); simp; omega
        go_enter Try.func12, Try.ntmps12
        go_wp2
        go_ret
        exact says_mk _ rfl (by simp; exact fun h => h1 h.2.2.1)
    · have e0 : ((s[0]'(by omega)).toNat == 34) = false := by have := chr_get s 0 (by omega); simp; omega
      go_enter Try.func12, Try.ntmps12
      go_wp2
      go_ret
      exact says_mk _ rfl (by simp; exact fun h => h0 h.2.1)
  · go_enter Try.func12, Try.ntmps12
    go_wp2
    go_ret
    exact says_mk _ rfl (by simp [quotedP]; omega)

def wholeP (s : ByteArray) : Prop := quotedP s ∨ (W2 s ∧ quotedP (s.extract 2 s.size))

set_option maxHeartbeats 400000 in
theorem whole_c (s : ByteArray) (w : World) (hs : s.size ≤ maxLen) :
    Calls Try.prog 8 #[.string s] w (Says (wholeP s) w) := by
  by_cases ho : quotedP s
  · have HO : Hid (quotedP s) := ho
    clear ho
    go_enter Try.func8, Try.ntmps8
    go_wp2_with (go_at_call 12; refine (quoted_c _ _ hs).mono ?_; intro e w' hsay; obtain ⟨rfl, rfl⟩ := says_yes hsay HO; clear hsay)
    go_ret
    exact says_mk _ rfl (by simp; exact .inl HO)
  · have HO : Hid (¬ quotedP s) := ho
    clear ho
    have hs' := hs
    unfold maxLen at hs'
    by_cases h : 2 ≤ s.size
    · have hd : decide (2 ≤ (s.size : Int)) = true := decide_eq_true (by omega)
      by_cases h0 : chr s 0 = 87
      · have e0 : (s[0]'(by omega)).toNat = 87 := by have := chr_get s 0 (by omega); omega
        by_cases h1 : chr s 1 = 47
        · have e1 : (s[1]'(by omega)).toNat = 47 := by have := chr_get s 1 (by omega); omega
          have HW : Hid (W2 s) := ⟨h, h0, h1⟩
          clear h0 h1
          have hx : (s.extract 2 s.size).size ≤ maxLen := by rw [ByteArray.size_extract]; unfold maxLen; omega
          by_cases hq : quotedP (s.extract 2 s.size)
          · have HQ : Hid (quotedP (s.extract 2 s.size)) := hq
            clear hq
            go_enter Try.func8, Try.ntmps8
            go_wp2_with (first | (go_at_call_of 12 (Value.string s); refine (quoted_c _ _ hs).mono ?_; intro e w' hsay; obtain ⟨rfl, rfl⟩ := says_no hsay HO; clear hsay) | (go_at_call_of 12 (Value.string (s.extract 2 s.size)); refine (quoted_c _ _ hx).mono ?_; intro e w' hsay; obtain ⟨rfl, rfl⟩ := says_yes hsay HQ; clear hsay))
            go_ret
            exact says_mk _ rfl (by simp; exact .inr ⟨HW, HQ⟩)
          · have HQ : Hid (¬ quotedP (s.extract 2 s.size)) := hq
            clear hq
            go_enter Try.func8, Try.ntmps8
            go_wp2_with (first | (go_at_call_of 12 (Value.string s); refine (quoted_c _ _ hs).mono ?_; intro e w' hsay; obtain ⟨rfl, rfl⟩ := says_no hsay HO; clear hsay) | (go_at_call_of 12 (Value.string (s.extract 2 s.size)); refine (quoted_c _ _ hx).mono ?_; intro e w' hsay; obtain ⟨rfl, rfl⟩ := says_no hsay HQ; clear hsay))
            go_ret
            exact says_mk _ rfl (by simp; exact fun a => a.elim HO fun a => HQ a.2)
        · have e1 : ((s[1]'(by omega)).toNat == 47) = false := by have := chr_get s 1 (by omega); simp; omega
          have e1' : (((s[1]'(by omega)).toNat : Int) == 47) = false := by have := chr_get s 1 (by omega); simp; omega
          have HW : Hid (¬ W2 s) := fun a => h1 a.2.2
          clear h0 h1
          go_enter Try.func8, Try.ntmps8
          go_wp2_with (first | (go_at_call_of 12 (Value.string s); refine (quoted_c _ _ hs).mono ?_; intro e w' hsay; obtain ⟨rfl, rfl⟩ := says_no hsay HO; clear hsay))
          go_ret
          exact says_mk _ rfl (by simp; exact fun a => a.elim HO fun a => HW a.1)
      · have e0 : ((s[0]'(by omega)).toNat == 87) = false := by have := chr_get s 0 (by omega); simp; omega
        have e0' : (((s[0]'(by omega)).toNat : Int) == 87) = false := by have := chr_get s 0 (by omega); simp; omega
        have HW : Hid (¬ W2 s) := fun a => h0 a.2.1
        clear h0
        go_enter Try.func8, Try.ntmps8
        go_wp2_with (first | (go_at_call_of 12 (Value.string s); refine (quoted_c _ _ hs).mono ?_; intro e w' hsay; obtain ⟨rfl, rfl⟩ := says_no hsay HO; clear hsay))
        go_ret
        exact says_mk _ rfl (by simp; exact fun a => a.elim HO fun a => HW a.1)
    · have hd : decide (2 ≤ (s.size : Int)) = false := decide_eq_false (by omega)
      go_enter Try.func8, Try.ntmps8
      go_wp2_with (first | (go_at_call_of 12 (Value.string s); refine (quoted_c _ _ hs).mono ?_; intro e w' hsay; obtain ⟨rfl, rfl⟩ := says_no hsay HO; clear hsay))
      go_ret
      exact says_mk _ rfl (by simp; exact fun a => a.elim HO fun a => h a.1.1)

/-- the first k bytes of s are a whole tag whose quotes open at st -/
def T (st : Nat) (s : ByteArray) (k : Nat) : Prop := st + 2 ≤ k ∧ chr s st = 34 ∧ chr s (k - 1) = 34 ∧ ∀ i, st + 1 ≤ i → i < k - 1 → etagP (chr s i)

def TagRes (st : Nat) (s : ByteArray) (w : World) (e : Ending) (w' : World) : Prop :=
  ∃ n : Nat, e = .returned (.int .i64 n) ∧ n ≤ s.size ∧ (0 < n → T st s n) ∧ (∀ k, k ≤ s.size → k ≠ n → ¬ T st s k) ∧ w = w'

theorem not_etag34 : ¬ etagP 34 := by unfold etagP; omega
theorem etag_of (c : Int) (h1 : ¬ c = 34) (h2 : ¬ c < 33) (h3 : ¬ c = 127) : etagP c := by unfold etagP; omega

theorem tag_none (st : Nat) (s : ByteArray) (w : World) (h : ∀ k, k ≤ s.size → ¬ T st s k) : TagRes st s w (.returned (.int .i64 0)) w :=
  ⟨0, rfl, Nat.zero_le _, fun h => absurd h (Nat.lt_irrefl 0), fun k hk _ => h k hk, rfl⟩

theorem tag_hit (st : Nat) (s : ByteArray) (k : Nat) (n : Int) (w : World) (h1 : st + 1 ≤ k) (h2 : k < s.size) (h0 : chr s st = 34)
    (hall : ∀ j, st + 1 ≤ j → j < k → etagP (chr s j)) (hk : chr s k = 34) (hn : n = ((k + 1 : Nat) : Int)) : TagRes st s w (.returned (.int .i64 n)) w := by
  refine ⟨k + 1, by rw [hn], h2, fun _ => ⟨by omega, h0, hk, hall⟩, fun m hm hne hT => ?_, rfl⟩
  obtain ⟨t1, t2, t3, t4⟩ := hT
  by_cases hlt : m < k + 1
  · have := hall (m - 1) (by omega) (by omega)
    rw [t3] at this; exact not_etag34 this
  · have := t4 k h1 (by omega)
    rw [hk] at this; exact not_etag34 this

theorem tag_bad (st : Nat) (s : ByteArray) (k : Nat) (w : World) (h1 : st + 1 ≤ k)
    (hall : ∀ j, st + 1 ≤ j → j < k → etagP (chr s j)) (hk : ¬ chr s k = 34) (hb : chr s k < 33 ∨ chr s k = 127) : TagRes st s w (.returned (.int .i64 0)) w := by
  refine tag_none st s w fun m hm hT => ?_
  obtain ⟨t1, t2, t3, t4⟩ := hT
  by_cases hlt : m < k + 1
  · have := hall (m - 1) (by omega) (by omega)
    rw [t3] at this; exact not_etag34 this
  · by_cases he : m - 1 = k
    · rw [he] at t3; exact hk t3
    · have := t4 k h1 (by omega)
      unfold etagP at this; omega

theorem tag_end (st : Nat) (s : ByteArray) (k : Nat) (w : World) (h2 : s.size ≤ k)
    (hall : ∀ j, st + 1 ≤ j → j < k → etagP (chr s j)) : TagRes st s w (.returned (.int .i64 0)) w := by
  refine tag_none st s w fun m hm hT => ?_
  obtain ⟨t1, t2, t3, t4⟩ := hT
  have := hall (m - 1) (by omega) (by omega)
  rw [t3] at this; exact not_etag34 this

set_option maxHeartbeats 400000 in
theorem tagLength_0 (s : ByteArray) (w : World) (hs : s.size ≤ maxLen) (HW : Hid (¬ W2 s)) :
    Calls Try.prog 11 #[.string s] w (TagRes 0 s w) := by
  have hs' := hs
  unfold maxLen at hs'
  by_cases h : 0 < s.size
  · have hd : ¬ s = ByteArray.empty := by rintro rfl; simp at h
    by_cases h0 : chr s 0 = 34
    · have e0 : (s[0]'(by omega)).toNat = 34 := by have := chr_get s 0 (by omega); omega
      have H0 : Hid (chr s 0 = 34) := h0
      clear h0
      go_enter Try.func11, Try.ntmps11
      go_wp2_with (go_at_call 13; refine (hasPrefix_c _ _ hs).mono ?_; intro e w' hsay; obtain ⟨rfl, rfl⟩ := says_no hsay HW; clear hsay)
      go_loop [4] (fun i => ∃ k : Nat, 1 ≤ k ∧ k ≤ s.size ∧ i = .int .i64 k ∧ Hid (∀ j, 1 ≤ j → j < k → etagP (chr s j))) (fun i => s.size - (intOf i).toNat)
      case atStart => exact ⟨1, by omega, by omega, rfl, fun j _ _ => by omega⟩
      case round =>
        obtain ⟨k, hk1, hk2, rfl, hall⟩ := hrel
        by_cases hlt : k < s.size
        · have hg : ((s[k]'(by omega)).toNat : Int) = chr s k := chr_get s k (by omega)
          by_cases hq : chr s k = 34
          · have hq' : (chr s k == 34) = true := by simp [hq]
            have HQ : Hid (chr s k = 34) := hq
            clear hq
            go_wp2
            go_ret
            exact tag_hit 0 s k _ w hk1 hlt H0 hall HQ (by rw [Int.natCast_add]; rfl)
          · have hq' : (chr s k == 34) = false := by simp [hq]
            have HQ : Hid (¬ chr s k = 34) := hq
            clear hq
            by_cases hb : chr s k < 33
            · go_wp2
              go_ret
              exact tag_bad 0 s k w hk1 hall HQ (.inl hb)
            · have hb' : decide (chr s k < 33) = false := by simp; omega
              by_cases h7 : chr s k = 127
              · have h7' : (chr s k == 127) = true := by simp [h7]
                have H7 : Hid (chr s k = 127) := h7
                clear h7
                go_wp2
                go_ret
                exact tag_bad 0 s k w hk1 hall HQ (.inr H7)
              · have h7' : (chr s k == 127) = false := by simp [h7]
                have H7 : Hid (¬ chr s k = 127) := h7
                clear h7
                go_wp2
                go_round
                case rel => exact ⟨k + 1, by omega, by omega, by go_num, fun j a b => if hj : j = k then by rw [hj]; exact etag_of _ HQ hb H7 else hall j a (by omega)⟩
                case measure => simp [intOf]; omega
        · go_wp2
          go_ret
          exact tag_end 0 s k w (by omega) hall
    · have e0 : ((s[0]'(by omega)).toNat == 34) = false := by have := chr_get s 0 (by omega); simp; omega
      have e0' : (((s[0]'(by omega)).toNat : Int) == 34) = false := by have := chr_get s 0 (by omega); simp; omega
      have H0 : Hid (¬ chr s 0 = 34) := h0
      clear h0
      go_enter Try.func11, Try.ntmps11
      go_wp2_with (go_at_call 13; refine (hasPrefix_c _ _ hs).mono ?_; intro e w' hsay; obtain ⟨rfl, rfl⟩ := says_no hsay HW; clear hsay)
      go_ret
      exact tag_none 0 s w (fun k _ hT => H0 hT.2.1)
  · obtain rfl : s = ByteArray.empty := by
      apply ByteArray.ext; apply Array.eq_empty_of_size_eq_zero; show s.size = 0; omega
    go_enter Try.func11, Try.ntmps11
    go_wp2_with (go_at_call 13; refine (hasPrefix_c _ _ hs).mono ?_; intro e w' hsay; obtain ⟨rfl, rfl⟩ := says_no hsay HW; clear hsay)
    go_ret
    exact tag_none 0 _ w (fun k hk hT => by have := hT.1; omega)

set_option maxHeartbeats 400000 in
theorem tagLength_2 (s : ByteArray) (w : World) (hs : s.size ≤ maxLen) (HW : Hid (W2 s)) :
    Calls Try.prog 11 #[.string s] w (TagRes 2 s w) := by
  have hs' := hs
  unfold maxLen at hs'
  by_cases h : 2 < s.size
  · have hd : decide ((s.size : Int) ≤ 2) = false := decide_eq_false (by omega)
    by_cases h0 : chr s 2 = 34
    · have e0 : (s[2]'(by omega)).toNat = 34 := by have := chr_get s 2 (by omega); omega
      have H0 : Hid (chr s 2 = 34) := h0
      clear h0
      go_enter Try.func11, Try.ntmps11
      go_wp2_with (go_at_call 13; refine (hasPrefix_c _ _ hs).mono ?_; intro e w' hsay; obtain ⟨rfl, rfl⟩ := says_yes hsay HW; clear hsay)
      go_loop [4] (fun i => ∃ k : Nat, 3 ≤ k ∧ k ≤ s.size ∧ i = .int .i64 k ∧ Hid (∀ j, 3 ≤ j → j < k → etagP (chr s j))) (fun i => s.size - (intOf i).toNat)
      case atStart => exact ⟨3, by omega, by omega, rfl, fun j _ _ => by omega⟩
      case round =>
        obtain ⟨k, hk1, hk2, rfl, hall⟩ := hrel
        by_cases hlt : k < s.size
        · have hg : ((s[k]'(by omega)).toNat : Int) = chr s k := chr_get s k (by omega)
          by_cases hq : chr s k = 34
          · have hq' : (chr s k == 34) = true := by simp [hq]
            have HQ : Hid (chr s k = 34) := hq
            clear hq
            go_wp2
            go_ret
            exact tag_hit 2 s k _ w hk1 hlt H0 hall HQ (by rw [Int.natCast_add]; rfl)
          · have hq' : (chr s k == 34) = false := by simp [hq]
            have HQ : Hid (¬ chr s k = 34) := hq
            clear hq
            by_cases hb : chr s k < 33
            · go_wp2
              go_ret
              exact tag_bad 2 s k w hk1 hall HQ (.inl hb)
            · have hb' : decide (chr s k < 33) = false := by simp; omega
              by_cases h7 : chr s k = 127
              · have h7' : (chr s k == 127) = true := by simp [h7]
                have H7 : Hid (chr s k = 127) := h7
                clear h7
                go_wp2
                go_ret
                exact tag_bad 2 s k w hk1 hall HQ (.inr H7)
              · have h7' : (chr s k == 127) = false := by simp [h7]
                have H7 : Hid (¬ chr s k = 127) := h7
                clear h7
                go_wp2
                go_round
                case rel => exact ⟨k + 1, by omega, by omega, by go_num, fun j a b => if hj : j = k then by rw [hj]; exact etag_of _ HQ hb H7 else hall j a (by omega)⟩
                case measure => simp [intOf]; omega
        · go_wp2
          go_ret
          exact tag_end 2 s k w (by omega) hall
    · have e0 : ((s[2]'(by omega)).toNat == 34) = false := by have := chr_get s 2 (by omega); simp; omega
      have e0' : (((s[2]'(by omega)).toNat : Int) == 34) = false := by have := chr_get s 2 (by omega); simp; omega
      have H0 : Hid (¬ chr s 2 = 34) := h0
      clear h0
      go_enter Try.func11, Try.ntmps11
      go_wp2_with (go_at_call 13; refine (hasPrefix_c _ _ hs).mono ?_; intro e w' hsay; obtain ⟨rfl, rfl⟩ := says_yes hsay HW; clear hsay)
      go_ret
      exact tag_none 2 s w (fun k _ hT => H0 hT.2.1)
  · have hd : decide ((s.size : Int) ≤ 2) = true := decide_eq_true (by omega)
    go_enter Try.func11, Try.ntmps11
    go_wp2_with (go_at_call 13; refine (hasPrefix_c _ _ hs).mono ?_; intro e w' hsay; obtain ⟨rfl, rfl⟩ := says_yes hsay HW; clear hsay)
    go_ret
    exact tag_none 2 s w (fun k hk hT => by have := hT.1; omega)

theorem quoted_iff (s : ByteArray) (a k : Nat) (hk : k ≤ s.size) (ha : a ≤ k) : quotedP (s.extract a k) ↔ T a s k := by
  have hsz : (s.extract a k).size = k - a := by rw [ByteArray.size_extract]; omega
  have hc : ∀ i, a + i < k → chr (s.extract a k) i = chr s (a + i) := fun i hi => chr_extract s a k i hi hk
  unfold quotedP T
  rw [hsz]
  constructor
  · rintro ⟨h1, h2, h3, h4⟩
    rw [hc 0 (by omega)] at h2
    rw [hc _ (by omega)] at h3
    refine ⟨by omega, h2, by rw [← h3]; congr 1; omega, fun i hi1 hi2 => ?_⟩
    have := h4 (i - a) (by omega) (by omega)
    rw [hc _ (by omega)] at this
    rwa [show a + (i - a) = i from by omega] at this
  · rintro ⟨h1, h2, h3, h4⟩
    refine ⟨by omega, by rw [hc 0 (by omega)]; exact h2, by rw [hc _ (by omega), ← h3]; congr 1; omega, fun i hi1 hi2 => ?_⟩
    rw [hc _ (by omega)]
    exact h4 (a + i) (by omega) (by omega)

theorem W2_iff (s : ByteArray) (k : Nat) (hk : k ≤ s.size) (h2 : 2 ≤ k) : W2 (s.extract 0 k) ↔ W2 s := by
  have hsz : (s.extract 0 k).size = k := by rw [ByteArray.size_extract]; omega
  unfold W2
  rw [hsz, chr_extract s 0 k 0 (by omega) hk, chr_extract s 0 k 1 (by omega) hk]
  constructor
  · rintro ⟨_, b, c⟩; exact ⟨by omega, b, c⟩
  · rintro ⟨_, b, c⟩; exact ⟨by omega, b, c⟩

theorem whole_iff2 (s : ByteArray) (k : Nat) (hk : k ≤ s.size) (hw : W2 s) : wholeP (s.extract 0 k) ↔ T 2 s k := by
  have hsz : (s.extract 0 k).size = k := by rw [ByteArray.size_extract]; omega
  unfold wholeP
  rw [quoted_iff s 0 k hk (by omega), hsz]
  have hx : (s.extract 0 k).extract 2 k = s.extract 2 k := by
    rw [ByteArray.extract_extract]; congr 1; omega
  rw [hx]
  constructor
  · rintro (⟨_, b, _⟩ | ⟨a, b⟩)
    · have := hw.2.1; omega
    · have := a.1; rw [hsz] at this
      exact (quoted_iff s 2 k hk (by omega)).1 b
  · intro h
    have := h.1
    exact .inr ⟨(W2_iff s k hk (by omega)).2 hw, (quoted_iff s 2 k hk (by omega)).2 h⟩

theorem whole_iff0 (s : ByteArray) (k : Nat) (hk : k ≤ s.size) (hw : ¬ W2 s) : wholeP (s.extract 0 k) ↔ T 0 s k := by
  have hsz : (s.extract 0 k).size = k := by rw [ByteArray.size_extract]; omega
  unfold wholeP
  rw [quoted_iff s 0 k hk (by omega)]
  constructor
  · rintro (h | ⟨a, b⟩)
    · exact h
    · have := a.1; rw [hsz] at this
      exact absurd ((W2_iff s k hk (by omega)).1 a) hw
  · exact .inl

def TagAll (s : ByteArray) (w : World) (e : Ending) (w' : World) : Prop :=
  ∃ n : Nat, e = .returned (.int .i64 n) ∧ n ≤ s.size ∧ (0 < n → wholeP (s.extract 0 n)) ∧ (∀ k, k ≤ s.size → k ≠ n → ¬ wholeP (s.extract 0 k)) ∧ w = w'

theorem tagLength_c (s : ByteArray) (w : World) (hs : s.size ≤ maxLen) : Calls Try.prog 11 #[.string s] w (TagAll s w) := by
  by_cases hw : W2 s
  · refine (tagLength_2 s w hs hw).mono ?_
    rintro e w' ⟨n, rfl, h1, h2, h3, rfl⟩
    exact ⟨n, rfl, h1, fun h => (whole_iff2 s n h1 hw).2 (h2 h), fun k hk hn h => h3 k hk hn ((whole_iff2 s k hk hw).1 h), rfl⟩
  · refine (tagLength_0 s w hs hw).mono ?_
    rintro e w' ⟨n, rfl, h1, h2, h3, rfl⟩
    exact ⟨n, rfl, h1, fun h => (whole_iff0 s n h1 hw).2 (h2 h), fun k hk hn h => h3 k hk hn ((whole_iff0 s k hk hw).1 h), rfl⟩

set_option maxHeartbeats 400000 in
theorem zz_c (s : ByteArray) (w : World) (hs : s.size ≤ maxLen) : Calls Try.prog 7 #[.string s] w (TagAll s w) := by
  go_enter Try.func7, Try.ntmps7
  go_wp2_with (go_at_call 11; refine (tagLength_c _ _ hs).mono ?_; rintro e w' ⟨n, rfl, h1, h2, h3, rfl⟩)
  go_ret
  exact ⟨n, rfl, h1, h2, h3, rfl⟩

set_option maxHeartbeats 400000 in
theorem bytes_c (s : ByteArray) (w : World) (hs : s.size ≤ maxLen) : Calls Try.prog 6 #[.string s] w (Says (s.size ≤ 1048576) w) := by
  unfold maxLen at hs
  by_cases h : s.size ≤ 1048576
  · go_enter Try.func6, Try.ntmps6
    go_wp2
    go_ret
    exact says_mk _ rfl (by simp [h])
  · go_enter Try.func6, Try.ntmps6
    go_wp2
    go_ret
    exact says_mk _ rfl (by simp; omega)

set_option maxHeartbeats 400000 in
theorem law_c (s : ByteArray) (w : World) (hs : s.size ≤ maxLen) :
    Calls Try.prog 3 #[.string s] w fun e w' => e = .returned (.bool true) ∧ Grown w w' := by
  have hs' := hs
  unfold maxLen at hs'
  by_cases hb : s.size ≤ 1048576
  · by_cases h4 : s.size ≤ 4096
    · go_enter Try.func3, Try.ntmps3
      go_wp2_with (go_at_call 6; refine (bytes_c _ _ hs).mono ?_; intro e w' hsay; obtain ⟨rfl, rfl⟩ := says_yes hsay hb; clear hsay)
      refine (zz_c _ _ hs).mono ?_
      rintro e w' ⟨n, rfl, h1, h2, h3, rfl⟩
      have H2 : Hid (0 < n → wholeP (s.extract 0 n)) := h2
      have H3 : Hid (∀ k, k ≤ s.size → k ≠ n → ¬ wholeP (s.extract 0 k)) := h3
      clear h2 h3
      by_cases hn : 0 < n
      · have hx : (s.extract 0 n).size ≤ maxLen := by rw [ByteArray.size_extract]; unfold maxLen; omega
        go_wp2_with (go_at_call 8; refine (whole_c _ _ hx).mono ?_; intro e w' hsay; obtain ⟨rfl, rfl⟩ := says_yes hsay (H2 hn); clear hsay)
        go_loop [4] (fun i => ∃ k : Nat, 1 ≤ k ∧ k ≤ s.size + 1 ∧ i = .int .i64 k) (fun i => s.size + 1 - (intOf i).toNat)
        case atStart => exact ⟨1, by omega, by omega, rfl⟩
        case round =>
          obtain ⟨k, hk1, hk2, rfl⟩ := hrel
          by_cases hlt : k ≤ s.size
          · have hx : (s.extract 0 k).size ≤ maxLen := by rw [ByteArray.size_extract]; unfold maxLen; omega
            by_cases hkn : k = n
            · subst hkn
              go_wp2_with fail
              go_round
              case rel => exact ⟨k + 1, by omega, by omega, by go_num⟩
              case measure => simp [intOf]; omega
            · have hkn' : ((k : Int) != (n : Int)) = true := by simp; omega
              have HN : Hid (¬ wholeP (s.extract 0 k)) := H3 k hlt hkn
              go_wp2_with (go_at_call 8; refine (whole_c _ _ hx).mono ?_; intro e w' hsay; obtain ⟨rfl, rfl⟩ := says_no hsay HN; clear hsay)
              go_round
              case rel => exact ⟨k + 1, by omega, by omega, by go_num⟩
              case measure => simp [intOf]; omega
          · go_wp2_with fail
            go_ret
            exact ⟨rfl, Grown.refl _⟩
      · obtain rfl : n = 0 := by omega
        go_wp2_with fail
        go_loop [4] (fun i => ∃ k : Nat, 1 ≤ k ∧ k ≤ s.size + 1 ∧ i = .int .i64 k) (fun i => s.size + 1 - (intOf i).toNat)
        case atStart => exact ⟨1, by omega, by omega, rfl⟩
        case round =>
          obtain ⟨k, hk1, hk2, rfl⟩ := hrel
          by_cases hlt : k ≤ s.size
          · have hx : (s.extract 0 k).size ≤ maxLen := by rw [ByteArray.size_extract]; unfold maxLen; omega
            have hkn' : ((k : Int) != 0) = true := by simp; omega
            have HN : Hid (¬ wholeP (s.extract 0 k)) := H3 k hlt (by omega)
            go_wp2_with (go_at_call 8; refine (whole_c _ _ hx).mono ?_; intro e w' hsay; obtain ⟨rfl, rfl⟩ := says_no hsay HN; clear hsay)
            go_round
            case rel => exact ⟨k + 1, by omega, by omega, by go_num⟩
            case measure => simp [intOf]; omega
          · go_wp2_with fail
            go_ret
            exact ⟨rfl, Grown.refl _⟩
    · go_enter Try.func3, Try.ntmps3
      go_wp2_with (go_at_call 6; refine (bytes_c _ _ hs).mono ?_; intro e w' hsay; obtain ⟨rfl, rfl⟩ := says_yes hsay hb; clear hsay)
      go_ret
      exact ⟨rfl, Grown.refl _⟩
  · go_enter Try.func3, Try.ntmps3
    go_wp2_with (go_at_call 6; refine (bytes_c _ _ hs).mono ?_; intro e w' hsay; obtain ⟨rfl, rfl⟩ := says_no hsay hb; clear hsay)
    go_ret
    exact ⟨rfl, Grown.refl _⟩

end Go.Proofs.Qxb6601561a.Tag
