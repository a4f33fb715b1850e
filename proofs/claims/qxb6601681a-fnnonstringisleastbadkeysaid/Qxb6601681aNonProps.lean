/-
  The walk of regB1CopyProps.
-/
import Derived.Test.Qxb6601681aNonCopy
namespace Go.Proofs.Qxb6601681a.Non
open Go.RowKit
set_option linter.unusedVariables false

theorem bdown {B B' : Nat} {w w' : World} (h : Below B w w') (hb : B' ≤ B) : Below B' w w' := ⟨h.os, h.tape, h.output, h.size, fun i hi => h.block i (by omega)⟩
theorem make32 (w : World) (n : Int) : (Instr.makeMap 32 (some (.int .i64 n))).run Try.prog w = .ok (.map (some w.heap.size)) (w.alloc (.map #[] 0)) := by
  simp [Instr.makeMap, run_underlying Try.underlying32, asInt, asIntOf, newObj]
  rfl

/-- an element while the map is written -/
theorem Elem.turn {w w' : World} {v : Value} {B : Bool} {b N : Nat} {D : DataW Value} (h : Elem w v B) (ho : w.ownsMap Try.prog 9 RH b N D) (hg : w.grownBy w' (some b)) : Elem w' v B := by
  rcases h with h | ⟨g, l, pt, h1, h2, h3, h4, h5⟩
  · exact .inl h
  · refine .inr ⟨g, l, pt, h1, h2, Nat.lt_of_lt_of_le h3 hg.size, fun j hj => ?_, h5⟩
    have hc := h4 j hj
    have hne : g ≠ b := by
      intro e
      obtain ⟨es, clock, hb, _⟩ := ho
      subst e
      simp [World.cell?, hb] at hc
    rw [World.cell?_of_block (w := w) (hg.block g h3 (by intro e; injection e with e; exact hne e))]
    exact hc
theorem bool_of (p : Prop) : ∃ b : Bool, b = true ↔ p := by
  by_cases h : p
  · exact ⟨true, by simp [h]⟩
  · exact ⟨false, by simp [h]⟩

theorem cp_step {n i b : Nat} {ks : Nat → ByteArray} {V : Nat → Value} {Bd : Nat → Bool} {D : DataW Value} {w5 w6 : World} {u : ByteArray} {v : Value} {bd : Bool} (hr : Rise n ks) (hin : i < n) (hu : u = ks i) (hH : Holds i ks V D) (hE : ∀ j, j < i → Elem w5 (V j) (Bd j)) (hev : Elem w5 v bd) (hO : w5.ownsMap Try.prog 9 RH b i D) (hg : w5.grownBy w6 (some b)) :
    Holds (i + 1) ks (fun j => if j = i then v else V j) (D.put (L u) (.held v)) ∧ ∀ j, j < i + 1 → Elem w6 (if j = i then v else V j) (if j = i then bd else Bd j) := by
  refine ⟨by rw [hu]; exact hH.put hr hin v, fun j hj => ?_⟩
  by_cases e : j = i
  · rw [if_pos e, if_pos e]; exact hev.turn hO hg
  · rw [if_neg e, if_neg e]; exact (hE j (by omega)).turn hO hg
theorem below_turn {b : Nat} {w w5 w6 : World} (h : Below b w w5) (hb : b ≤ w.heap.size) (hg : w5.grownBy w6 (some b)) : Below b w w6 :=
  h.trans ⟨hg.os, hg.tape, hg.output, hg.size, fun k hk => hg.block k (by have := h.size; omega) (by intro e; injection e with e; omega)⟩

def CpAns (n : Nat) (ks : Nat → ByteArray) (w : World) (e : Ending) (w' : World) : Prop :=
  ∃ (V : Nat → Value) (B : Nat → Bool) (D : DataW Value), e = .returned (.map (some w.heap.size)) ∧ Below w.heap.size w w' ∧ w'.ownsMap Try.prog 9 RH w.heap.size n D ∧ Holds n ks V D ∧ ∀ j, j < n → Elem w' (V j) (B j)

theorem cp_nil (A : Option Addr) (n cap : Nat) (w : World) : Calls Try.prog 22 #[.map none, .slice A n cap] w fun e w' => e = .returned (.map none) ∧ w' = w := by
  have hnm := fun w => run_eql_map_nil (P := Try.prog) w 32 9 42 none Try.underlying32
  go_enter Try.func22, Try.ntmps22
  go_wp2_with fail
  go_ret
  exact ⟨rfl, rfl⟩

set_option maxRecDepth 100000 in
set_option maxHeartbeats 4000000 in
theorem cp_c (bp : Nat) (look : ByteArray → Value) (cnt : Nat) (A : Option Addr) (n cap : Nat) (ks : Nat → ByteArray) (w : World) (hn : n ≤ 65536) (hK : KS w A n ks) (hP : PM w (.map (some bp)) look cnt) (hr : Rise n ks) (hl : ∀ j, j < n → len (look (ks j)) ≤ 131072) :
    Calls Try.prog 22 #[.map (some bp), .slice A n cap] w (CpAns n ks w) := by
  have HK : Hid (KS w A n ks) := hK
  have HP : Hid (PM w (.map (some bp)) look cnt) := hP
  have HR : Hid (Rise n ks) := hr
  have HL : Hid (∀ j, j < n → len (look (ks j)) ≤ 131072) := hl
  have hnm := fun w => run_eql_map_nil (P := Try.prog) w 32 9 42 (some bp) Try.underlying32
  have hmm := make32
  clear hK hP hr hl
  go_enter Try.func22, Try.ntmps22
  go_wp2_with fail
  have O1 : Hid ((w.alloc (.map #[] 0)).ownsMap Try.prog 9 RH w.heap.size 0 (.map [])) := World.ownsMap_made w _ _ _
  have B1 : Hid (Below w.heap.size w (w.alloc (.map #[] 0))) := (Below.refl _ _).alloc (Nat.le_refl _) _
  obtain ⟨b, hb⟩ : ∃ b, b = w.heap.size := ⟨_, rfl⟩
  rw [← hb] at O1 B1 ⊢
  have HB : Hid (b = w.heap.size) := hb
  generalize w.alloc (.map #[] 0) = w1 at O1 B1 ⊢
  clear hb hmm hnm
  go_loopw [6] (fun iv wq => ∃ (i : Nat) (V : Nat → Value) (Bd : Nat → Bool) (D : DataW Value), iv = .int .i64 i ∧ i ≤ n ∧ Hid (wq.ownsMap Try.prog 9 RH b i D) ∧ Hid (Holds i ks V D) ∧ Hid (∀ j, j < i → Elem wq (V j) (Bd j)) ∧ Hid (Below b w wq)) (fun iv _ => n + 1 - (intOf iv).toNat)
  case atStart => exact ⟨0, fun _ => .slice none 0 0, fun _ => true, _, rfl, by omega, O1, Holds.start ks _, fun j hj => by omega, B1⟩
  case round =>
    obtain ⟨i, V, Bd, D, rfl, hi, hO, hH, hE, hB⟩ := hrel
    clear O1 B1
    by_cases hin : i < n
    · have din : decide (i < n) = true := decide_eq_true hin
      have nin : (i : Int) < n := by omega
      have him : i < maxLen := by unfold maxLen; omega
      obtain ⟨kb, off, rfl, hkb, hc⟩ := (HK.out.on (by rw [← HB.out]; exact hB.out)).at_ (by omega)
      have HKL : Hid (kb < wr.heap.size) := hkb
      obtain ⟨u, hu⟩ : ∃ u, u = ks i := ⟨_, rfl⟩
      have cu : wr.cell? ⟨kb, off + i, none⟩ = some (.string u) := by rw [hu]; exact hc i hin
      have hus : u.size ≤ maxLen := by rw [hu]; exact HK.out.size i
      have HU : Hid (u = ks i) := hu
      have HPW : Hid (PM wr (.map (some bp)) look cnt) := HP.out.on (by rw [← HB.out]; exact hB.out)
      obtain ⟨A2, l, c, pt, hv, hlm, hnil, hcells, hstr⟩ := (HPW.out.read u hus).gen
      have HV : Hid (look u = .slice A2 l c) := hv
      have hl2 : l ≤ 131072 := by have := HL.out i hin; rw [← hu, hv] at this; exact this
      clear hc hu hv hkb hlm
      cases A2 with
      | none =>
        obtain ⟨rfl, rfl⟩ := hnil rfl
        have hns := fun w => Lib.run_eql_slice_nil (P := Try.prog) w 42 50 none 0 0 0 0 Try.underlying42
        clear hnil hcells hstr
        go_wp2_with (first | (at_lookup; refine wpList_lookup_pm rfl (.tmp 22) (.tmp 26) rfl (.map (some bp)) u look cnt (.slice none 0 0) rfl rfl HPW.out hus HV.out ?_) | (at_mapUpdate; refine wpList_mapUpdate_own _ rfl _ _ _ 32 rfl 9 42 keyed9 Try.underlying32 RH b i D rfl hO.out him (.string u) (.slice none 0 0) (L u) rfl rfl (keyL hus) (.held (.slice none 0 0)) [] rfl ?_; intro w2 hO2 hg2))
        have ST := cp_step HR.out hin HU.out hH.out hE.out (.inl ⟨rfl, rfl⟩) hO.out hg2
        have ST1 : Hid _ := ST.1
        have ST2 : Hid _ := ST.2
        have B2 : Hid (Below b w w2) := below_turn hB.out (Nat.le_of_eq HB.out) hg2
        have O2 : Hid (w2.ownsMap Try.prog 9 RH b (i + 1) (D.put (L u) (.held (.slice none 0 0)))) := hO2
        clear ST hO2 hg2
        go_roundw
        case rel => exact ⟨i + 1, _, _, _, by go_num, by omega, O2, ST1, ST2, B2⟩
        case measure => simp [intOf] <;> omega
      | some a2 =>
        have hns := fun w => Lib.run_eql_slice_nil (P := Try.prog) w 42 50 (some a2) l c 0 0 Try.underlying42
        have HC : Hid (0 < l → ∃ b off, some a2 = some ⟨b, off, none⟩ ∧ b < wr.heap.size ∧ ∀ j, j < l → wr.cell? ⟨b, off + j, none⟩ = some (.pointer (pt j))) := hcells
        have HS : Hid (∀ j, j < l → ∀ p, pt j = some p → ∃ pb po s, p = ⟨pb, po, none⟩ ∧ pb < wr.heap.size ∧ wr.cell? ⟨pb, po, none⟩ = some (.string s) ∧ s.size ≤ maxLen) := hstr
        have hb8 : ((8 : Nat) : Int) * l ≤ 281474976710656 := by omega
        have hlm : l ≤ maxLen := by unfold maxLen; omega
        have CU : Hid (wr.cell? ⟨kb, off + i, none⟩ = some (.string u)) := cu
        clear hnil hcells hstr
        go_wp2_with (first | (at_lookup; refine wpList_lookup_pm rfl (.tmp 22) (.tmp 26) rfl (.map (some bp)) u look cnt (.slice (some a2) l c) rfl rfl HPW.out hus HV.out ?_) | (at_make; refine wpList_make_cells _ rfl (.tmp 36) (.tmp 36) 42 rfl 50 l (.pointer none) 8 Try.underlying42 info50 rfl rfl rfl hb8 hlm ?_; intro w2 b2 r2 z2))
        obtain ⟨g, hg⟩ : ∃ g, g = wr.heap.size := ⟨_, rfl⟩
        rw [← hg] at b2 r2 z2 ⊢
        have HG : Hid (g = wr.heap.size) := hg
        have Z2 : Hid (g < w2.heap.size) := by show g < w2.heap.size; rw [z2.out]; omega
        clear hg z2 hns cu
        obtain ⟨wo, hwo⟩ : ∃ wo, wo = wr := ⟨_, rfl⟩
        rw [← hwo] at HC HS CU HG HPW hO hE hB b2 HKL
        clear hwo
        go_loopw [9] (fun jv wq => ∃ (j : Nat) (f : Nat → Option Addr), jv = .int .i64 j ∧ j ≤ l ∧ Hid (Row wq g l (fun t => .pointer (f t))) ∧ Hid (Below g wo wq) ∧ Hid (g < wq.heap.size)) (fun jv _ => l + 1 - (intOf jv).toNat)
        case atStart => exact ⟨0, fun _ => none, rfl, by omega, r2, b2, Z2⟩
        case round =>
          obtain ⟨j, f, rfl, hj, hR, hB2, hz⟩ := hrel
          clear b2 r2 Z2
          by_cases hjl : j < l
          · have djl : decide (j < l) = true := decide_eq_true hjl
            have njl : (j : Int) < l := by omega
            obtain ⟨pb0, po0, ha, hlt, hc⟩ := HC.out (by omega)
            cases ha
            have cp : wr.cell? ⟨pb0, po0 + j, none⟩ = some (.pointer (pt j)) := by rw [hB2.out.cell (by rw [HG.out]; exact hlt)]; exact hc j hjl
            cases hp : pt j with
            | none =>
              rw [hp] at cp
              clear hp hc hlt
              go_wp2_with fail
              go_roundw
              case rel => exact ⟨j + 1, f, by go_num, by omega, hR, hB2, hz⟩
              case measure => simp [intOf] <;> omega
            | some p =>
              rw [hp] at cp
              obtain ⟨pb, po, s, rfl, hpb, cs0, hss⟩ := HS.out j hjl p hp
              have cs : wr.cell? ⟨pb, po, none⟩ = some (.string s) := by rw [hB2.out.cell (by rw [HG.out]; exact hpb)]; exact cs0
              have cg : wr.cell? ⟨g, j, none⟩ = some (.pointer (f j)) := hR.out.cell j hjl
              have fg : wr.frozen? ⟨g, j, none⟩ = false := hR.out.loose j hjl
              have hgz : g < wr.heap.size := hz.out
              have hpz : pb0 < wr.heap.size := Nat.lt_of_lt_of_le hlt hB2.out.size
              have hpz2 : pb < wr.heap.size := Nat.lt_of_lt_of_le hpb hB2.out.size
              clear hp hc hlt cs0 hss hpb
              go_wp2_with fail
              go_roundw
              case rel =>
                refine ⟨j + 1, fun t => if t = j then some ⟨wr.heap.size, 0, none⟩ else f t, by go_num, by omega, ?_, (hB2.out.setCell (Nat.le_refl _) _).alloc (by simp [World.setCell]; omega) _, ?_⟩
                · have r1 := hR.out.set hjl (.pointer (some ⟨wr.heap.size, 0, none⟩))
                  refine Row.congr (Row.on r1 (B := wr.heap.size) ((Below.refl _ _).alloc (by simp [World.setCell]) _) hgz) fun t ht => ?_
                  by_cases e : t = j
                  · simp [put, e]
                  · simp [put, e]
                · show g < (World.alloc _ _).heap.size
                  rw [World.size_alloc]
                  simp [World.setCell]; omega
              case measure => simp [intOf] <;> omega
          · have djl : decide (j < l) = false := decide_eq_false hjl
            have hbo : b < g := by rw [HG.out]; exact hO.out.lt
            have O5 : Hid (wr.ownsMap Try.prog 9 RH b i D) := owns_under hO.out hB2.out hbo
            have hB3 : Below wo.heap.size wo wr := by rw [← HG.out]; exact hB2.out
            have E5 : Hid (∀ j, j < i → Elem wr (V j) (Bd j)) := fun j hj => (hE.out j hj).on hB3
            have cu : wr.cell? ⟨kb, off + i, none⟩ = some (.string u) := by rw [hB3.cell (by exact HKL.out)]; exact CU.out
            obtain ⟨bd, hbd⟩ := bool_of (∃ t, t < l ∧ f t = none)
            have EV : Hid (Elem wr (.slice (some ⟨g, 0, none⟩) l l) bd) := .inr ⟨g, l, f, rfl, hl2, hz.out, hR.out.cell, hbd⟩
            have B5 : Hid (Below b w wr) := hB.out.trans (bdown hB2.out (Nat.le_of_lt hbo))
            clear hbd hB3 hO hE hB hB2 hR HC HS
            go_wp2_with (at_mapUpdate; refine wpList_mapUpdate_own _ rfl _ _ _ 32 rfl 9 42 keyed9 Try.underlying32 RH b i D rfl O5.out him (.string u) (.slice (some ⟨g, 0, none⟩) l l) (L u) rfl rfl (keyL hus) (.held (.slice (some ⟨g, 0, none⟩) l l)) [] rfl ?_; intro w6 hO6 hg6)
            have ST := cp_step HR.out hin HU.out hH.out E5.out EV.out O5.out hg6
            have ST1 : Hid _ := ST.1
            have ST2 : Hid _ := ST.2
            have B6 : Hid (Below b w w6) := below_turn B5.out (Nat.le_of_eq HB.out) hg6
            have O6 : Hid (w6.ownsMap Try.prog 9 RH b (i + 1) (D.put (L u) (.held (.slice (some ⟨g, 0, none⟩) l l)))) := hO6
            clear ST hO6 hg6
            go_roundw
            case rel => exact ⟨i + 1, _, _, _, by go_num, by omega, O6, ST1, ST2, B6⟩
            case measure => simp [intOf] <;> omega
    · have din : decide (i < n) = false := decide_eq_false hin
      obtain rfl : i = n := by omega
      go_wp2_with fail
      go_ret
      refine ⟨V, Bd, D, ?_, ?_, ?_, hH.out, hE.out⟩
      · rw [← HB.out]; rfl
      · rw [← HB.out]; exact hB.out
      · rw [← HB.out]; exact hO.out
end Go.Proofs.Qxb6601681a.Non
