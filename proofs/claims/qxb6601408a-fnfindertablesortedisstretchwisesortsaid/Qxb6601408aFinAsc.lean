/-
  The walk of the law FnFinderTableSortedAscendsWhenFirstBytesMatch.
-/
import Derived.Test.Qxb6601408aFinLaw
import Derived.Test.Qxb6601408aFinPlain2
namespace Go.Proofs.Qxb6601408a.Fin
open Go.RowKit
set_option linter.unusedVariables false

theorem Kept.below {base g o k B : Nat} {w w' : World} (h : Kept base g o k w w') (h1 : B ≤ base) (h2 : B ≤ g) : RowKit.Below B w w' := ⟨h.os, h.tape, h.output, h.size, fun i hi => h.block i (by omega) (by omega)⟩
theorem zeros_of {a : Array Value} {m : Nat} {F : Nat → Nat} (h : Ints a m F) (hz : ∀ i, i < m → F i = 0) : Zeros a m := ⟨h.size, fun i hi => by rw [h.get i hi, hz i hi]; rfl⟩
theorem DomI.intsS {s x c : Nat → Int} {n : Nat} {d : Nat → Int} (h : DomI s x c n d) {a : Array Value} (ha : IntsI a 257 s) : Ints a 257 (fun b => (s b).toNat) :=
  ⟨ha.size, fun i hi => by rw [ha.get i hi]; have := mono_ge h.zero h.mono i (by omega); congr 2; omega⟩
theorem DomI.intsX {s x c : Nat → Int} {n : Nat} {d : Nat → Int} (h : DomI s x c n d) {a : Array Value} (ha : IntsI a 256 x) : Ints a 256 (fun b => (x b).toNat) :=
  ⟨ha.size, fun i hi => by rw [ha.get i hi]; have := mono_ge h.zero h.mono i (by omega); have := (h.okay i hi).1; congr 2; omega⟩
theorem DomI.intsC {s x c : Nat → Int} {n : Nat} {d : Nat → Int} (h : DomI s x c n d) {a : Array Value} (ha : IntsI a 256 c) : Ints a 256 (fun b => (c b).toNat) :=
  ⟨ha.size, fun i hi => by rw [ha.get i hi]; have := mono_ge h.zero h.mono i (by omega); have := (h.okay i hi).2.2.1; congr 2; omega⟩

set_option maxRecDepth 100000 in
set_option maxHeartbeats 4000000 in
theorem asc_c (A : Option Addr) (n cap : Nat) (s x c : Nat → Int) (sa xa ca : Array Value) (d : Nat → Int) (w : World) (hA : Arg A n cap d w) (hs : IntsI sa 257 s) (hx : IntsI xa 256 x) (hc : IntsI ca 256 c) :
    Calls Try.prog 6 #[.slice A n cap, .agg sa, .agg xa, .agg ca] w (TrueAns w) := by
  have HA : Hid (Arg A n cap d w) := hA
  have HS : Hid (IntsI sa 257 s) := hs
  have HX : Hid (IntsI xa 256 x) := hx
  have HC : Hid (IntsI ca 256 c) := hc
  have i34 : (Try.prog.info? 34).map (·.size) = some sa.size := by rw [hs.size]; kernel_rfl
  have i35 : (Try.prog.info? 35).map (·.size) = some xa.size := by rw [hx.size]; kernel_rfl
  have i35' : (Try.prog.info? 35).map (·.size) = some ca.size := by rw [hc.size]; kernel_rfl
  have I34 : Hid ((Try.prog.info? 34).map (·.size) = some sa.size) := i34
  have I35 : Hid ((Try.prog.info? 35).map (·.size) = some xa.size) := i35
  have I35' : Hid ((Try.prog.info? 35).map (·.size) = some ca.size) := i35'
  clear hA hs hx hc i34 i35 i35'
  go_enter Try.func6, Try.ntmps6
  go_upto_region 1 with fail
  obtain ⟨w1, hw1, r1, b1, z1⟩ := rows3 w sa xa ca
  rw [← hw1]
  obtain ⟨h, hh⟩ : ∃ h, h = w.heap.size := ⟨_, rfl⟩
  rw [← hh] at r1 b1 z1 ⊢
  have HH : Hid (h = w.heap.size) := hh
  have R1 : Hid (Rows3 w1 h sa xa ca) := r1
  have B1 : Hid (RowKit.Below h w w1) := b1
  have Z1 : Hid (w1.heap.size = h + 1 + 1 + 1) := z1
  clear hw1 r1 b1 z1 hh
  go_wp2_with (first | refine wpList_load_row rfl 34 (.tmp 5) rfl h rfl 34 sa (0, 0) _ R1.out.s Try.underlying34 rfl I34.out ?_ | refine wpList_load_row rfl 35 (.tmp 6) rfl (h + 1) rfl 35 xa (0, 0) _ R1.out.x Try.underlying35 rfl I35.out ?_ | refine wpList_load_row rfl 35 (.tmp 7) rfl (h + 1 + 1) rfl 35 ca (0, 0) _ R1.out.c Try.underlying35 rfl I35'.out ?_)
  refine (bytes19_c A n cap sa xa ca _).mono ?_
  rintro e w2 ⟨⟨r, rfl⟩, b2⟩
  have B2 : Hid (RowKit.Below (h + 1 + 1 + 1) w1 w2) := by rw [← Z1.out]; exact b2
  have R2 : Hid (Rows3 w2 h sa xa ca) := R1.out.on B2.out
  clear b2
  cases r with
  | false =>
    go_wp2_with fail
    go_ret
    exact ⟨rfl, by rw [← HH.out]; exact B1.out.trans (B2.out.down (by omega))⟩
  | true =>
    by_cases hn : 65536 < n
    · go_wp2_with fail
      go_ret
      exact ⟨rfl, by rw [← HH.out]; exact B1.out.trans (B2.out.down (by omega))⟩
    · go_wp2_with (first | refine wpList_load_row rfl 34 (.tmp 5) rfl h rfl 34 sa (0, 0) _ R2.out.s Try.underlying34 rfl I34.out ?_ | refine wpList_load_row rfl 35 (.tmp 6) rfl (h + 1) rfl 35 xa (0, 0) _ R2.out.x Try.underlying35 rfl I35.out ?_ | refine wpList_load_row rfl 35 (.tmp 7) rfl (h + 1 + 1) rfl 35 ca (0, 0) _ R2.out.c Try.underlying35 rfl I35'.out ?_)
      refine (dom_c A n cap s x c sa xa ca d _ (by omega) (HA.out.reads (by rw [← HH.out]; exact B1.out.trans (B2.out.down (by omega)))) HS.out HX.out HC.out).mono ?_
      rintro e w3 ⟨r, rfl, b3, hdom⟩
      have B3 : Hid (RowKit.Below (h + 1 + 1 + 1) w1 w3) := B2.out.trans (b3.down (by rw [← Z1.out]; exact B2.out.size))
      have R3 : Hid (Rows3 w3 h sa xa ca) := R1.out.on B3.out
      have HDI : Hid (r = true → DomI s x c n d) := hdom
      clear b3 hdom R2
      cases r with
      | false =>
        clear HDI
        go_wp2_with fail
        go_ret
        exact ⟨rfl, by rw [← HH.out]; exact B1.out.trans (B3.out.down (by omega))⟩
      | true =>
        have HI : Hid (DomI s x c n d) := HDI.out rfl
        have HD : Hid (Dom (fun b => (s b).toNat) (fun b => (x b).toNat) (fun b => (c b).toNat) n d) := HI.out.dom
        have NS : Hid (Ints sa 257 (fun b => (s b).toNat)) := HI.out.intsS HS.out
        have NX : Hid (Ints xa 256 (fun b => (x b).toNat)) := HI.out.intsX HX.out
        have NC : Hid (Ints ca 256 (fun b => (c b).toNat)) := HI.out.intsC HC.out
        generalize hSS : (fun b => (s b).toNat) = S at HD NS
        generalize hXX : (fun b => (x b).toNat) = X at HD NX
        generalize hCC : (fun b => (c b).toNat) = C at HD NC
        clear HDI HI HS HX HC hSS hXX hCC
        go_wp2_with (first | refine wpList_load_row rfl 34 (.tmp 5) rfl h rfl 34 sa (0, 0) _ R3.out.s Try.underlying34 rfl I34.out ?_ | refine wpList_load_row rfl 35 (.tmp 6) rfl (h + 1) rfl 35 xa (0, 0) _ R3.out.x Try.underlying35 rfl I35.out ?_ | refine wpList_load_row rfl 35 (.tmp 7) rfl (h + 1 + 1) rfl 35 ca (0, 0) _ R3.out.c Try.underlying35 rfl I35'.out ?_)
        refine (first_c A n cap S X sa xa d _ (by omega) (HA.out.reads (by rw [← HH.out]; exact B1.out.trans (B3.out.down (by omega)))) NS.out NX.out (fun b hb => HD.out.x_le b hb) (fun b hb => HD.out.s_le (256 - b) b (by omega))).mono ?_
        rintro e w4 ⟨r, rfl, b4, hfb⟩
        have B4 : Hid (RowKit.Below (h + 1 + 1 + 1) w1 w4) := B3.out.trans (b4.down (by rw [← Z1.out]; exact B3.out.size))
        have R4 : Hid (Rows3 w4 h sa xa ca) := R1.out.on B4.out
        have HFB : Hid (r = true → ∀ b, b < 256 → ∀ i, S b ≤ i → i < X b → d i / 72057594037927936 = b) := hfb
        clear b4 hfb R3
        cases r with
        | false =>
          clear HFB
          go_wp2_with fail
          go_ret
          exact ⟨rfl, by rw [← HH.out]; exact B1.out.trans (B4.out.down (by omega))⟩
        | true =>
          have HF : Hid (∀ b, b < 256 → ∀ i, S b ≤ i → i < X b → d i / 72057594037927936 = b) := HFB.out rfl
          clear HFB
          rcases HA.out with ⟨rfl, rfl, rfl⟩ | ⟨b0, off0, rfl, hb0, hcells⟩
          · have z0 : ∀ i, i ≤ 256 → S i = 0 := fun i hi => by have := HD.out.s_le (256 - i) i (by omega); omega
            have ZS : Hid (Zeros sa 257) := zeros_of NS.out fun i hi => z0 i (by omega)
            have ZX : Hid (Zeros xa 256) := zeros_of NX.out fun i hi => by have := HD.out.x_le i hi; omega
            have ZC : Hid (Zeros ca 256) := zeros_of NC.out fun i hi => by have := HD.out.x_le i hi; have := HD.out.cx i hi; omega
            clear HA z0
            go_wp2_with fail
            refine (clone_nil_c _).mono ?_
            rintro e w5 ⟨rfl, rfl⟩
            go_wp2_with (first | refine wpList_load_row rfl 34 (.tmp 5) rfl h rfl 34 sa (0, 0) _ R4.out.s Try.underlying34 rfl I34.out ?_ | refine wpList_load_row rfl 35 (.tmp 6) rfl (h + 1) rfl 35 xa (0, 0) _ R4.out.x Try.underlying35 rfl I35.out ?_ | refine wpList_load_row rfl 35 (.tmp 7) rfl (h + 1 + 1) rfl 35 ca (0, 0) _ R4.out.c Try.underlying35 rfl I35'.out ?_)
            refine (zz_nil sa xa ca _ ZS.out ZX.out ZC.out).mono ?_
            rintro e w6 ⟨rfl, b6⟩
            have B6 : Hid (RowKit.Below (h + 1 + 1 + 1) w1 w6) := B4.out.trans (b6.down (by rw [← Z1.out]; exact B4.out.size))
            obtain ⟨n, hn0⟩ : ∃ n : Nat, n = 0 := ⟨_, rfl⟩
            have HD0 : Hid (Dom S X C n d) := by rw [hn0]; exact HD.out
            have HN0 : Hid (n = 0) := hn0
            have hnn : n ≤ 0 := by omega
            clear b6 hn0 R4 B4 HD HF
            have HD := HD0
            clear HD0
            go_wp2_with fail
            go_loopw [10, 11] (fun tv bv wq => ∃ b t : Nat, bv = .int .i64 b ∧ b ≤ 256 ∧ tv = .int .i64 t ∧ Hid (t = En S X b) ∧ Hid (RowKit.Below (h + 1 + 1 + 1) w1 wq)) (fun _ bv _ => 256 - (intOf bv).toNat)
            case atStart => exact ⟨0, 0, rfl, by omega, rfl, rfl, B6⟩
            case round =>
              obtain ⟨b, t, rfl, hb256, rfl, hT, hB⟩ := hrel
              clear B6
              have R7 : Hid (Rows3 wr h sa xa ca) := R1.out.on hB.out
              have htn : t ≤ n := by rw [hT.out]; exact Nat.le_trans (HD.out.en_le b hb256) (HD.out.s_le (256 - b) b (by omega))
              by_cases hb : b < 256
              · have db : decide ((b : Int) < 256) = true := decide_eq_true (by omega)
                have db' : decide (b < 256) = true := decide_eq_true hb
                have nb1 : (b : Int) < 257 := by omega
                have nb2 : (b : Int) < 256 := by omega
                obtain ⟨sb, hsb⟩ : ∃ v, v = S b := ⟨_, rfl⟩
                obtain ⟨xb, hxb⟩ : ∃ v, v = X b := ⟨_, rfl⟩
                have cS : wr.cell? ⟨h, b, none⟩ = some (.int .i64 sb) := by rw [hsb, R7.out.cellS]; exact NS.out.get b (by omega)
                have cX : wr.cell? ⟨h + 1, b, none⟩ = some (.int .i64 xb) := by rw [hxb, R7.out.cellX]; exact NX.out.get b hb
                have g1 : sb ≤ xb := by rw [hsb, hxb]; exact HD.out.sx b hb
                have g2 : xb ≤ n := by rw [hxb]; exact HD.out.x_le b hb
                obtain ⟨m, hm⟩ : ∃ m : Nat, xb = sb + m := ⟨xb - sb, by omega⟩
                have em : (xb : Int) - sb = m := by omega
                have HM : Hid (xb = sb + m ∧ sb = S b ∧ xb = X b) := ⟨hm, hsb, hxb⟩
                have hmn : m ≤ n := by omega
                clear hsb hxb hm
                go_wp2_with fail
                go_quiet (fail)
                go_wp2_with fail
                go_roundw
                case rel => exact ⟨b + 1, t + m, by go_num, by omega, by go_num, by show t + m = En S X (b + 1); rw [En, ← hT.out, ← HM.out.2.1, ← HM.out.2.2, HM.out.1]; omega, below_drewN hB.out _⟩
                case measure => simp [intOf] <;> omega
              · obtain rfl : b = 256 := by omega
                obtain rfl : t = 0 := by omega
                go_wp2_with fail
                go_loopw [12] (fun iv wq => iv = .int .i64 1 ∧ Hid (RowKit.Below (h + 1 + 1 + 1) w1 wq)) (fun iv _ => 0)
                case atStart => exact ⟨rfl, hB⟩
                case round =>
                  obtain ⟨rfl, hB8⟩ := hrel
                  go_wp2_with fail
                  go_ret
                  exact ⟨rfl, by rw [← HH.out]; exact B1.out.trans (hB8.out.down (by omega))⟩
          · have HCE : Hid (∀ j, j < n → w4.cell? ⟨b0, off0 + j, none⟩ = some (.int .u64 (d j))) := fun j hj => by
              rw [(B1.out.trans (B4.out.down (by omega))).cell (by rw [HH.out]; exact hb0 (by omega))]; exact hcells j hj
            have HBL : Hid (0 < n → b0 < w4.heap.size) := fun hn0 => Nat.lt_of_lt_of_le (hb0 hn0) (Nat.le_trans B1.out.size B4.out.size)
            clear hb0 hcells HA
            go_wp2_with fail
            refine (clone_c b0 off0 n cap d _ (by omega) HCE.out HBL.out).mono ?_
            rintro e w5 ⟨rfl, b5, h5, z5⟩
            have B5 : Hid (RowKit.Below (h + 1 + 1 + 1) w1 w5) := B4.out.trans (b5.down (by rw [← Z1.out]; exact B4.out.size))
            have R5 : Hid (Rows3 w5 h sa xa ca) := R1.out.on B5.out
            obtain ⟨g, hg⟩ : ∃ g, g = w4.heap.size := ⟨_, rfl⟩
            rw [← hg] at h5 z5 ⊢
            have HG : Hid (h + 1 + 1 + 1 ≤ g) := by show h + 1 + 1 + 1 ≤ g; rw [hg, ← Z1.out]; exact B4.out.size
            have H5 : Hid (Hold w5 g 0 n d) := h5
            have Z5 : Hid (g < w5.heap.size) := z5
            clear b5 h5 z5 hg HCE HBL R4 B4
            go_wp2_with (first | refine wpList_load_row rfl 34 (.tmp 5) rfl h rfl 34 sa (0, 0) _ R5.out.s Try.underlying34 rfl I34.out ?_ | refine wpList_load_row rfl 35 (.tmp 6) rfl (h + 1) rfl 35 xa (0, 0) _ R5.out.x Try.underlying35 rfl I35.out ?_ | refine wpList_load_row rfl 35 (.tmp 7) rfl (h + 1 + 1) rfl 35 ca (0, 0) _ R5.out.c Try.underlying35 rfl I35'.out ?_)
            refine (zz_c g 0 n S X C sa xa ca d _ H5.out (by omega) HD.out Z5.out NS.out NX.out NC.out).mono ?_
            rintro e w6 ⟨⟨c', rfl⟩, k6, d6, h6, s6⟩
            have B6 : Hid (RowKit.Below (h + 1 + 1 + 1) w1 w6) := B5.out.trans (k6.below (Nat.le_trans HG.out (Nat.le_of_lt Z5.out)) HG.out)
            have H6 : Hid (Hold w6 g 0 n d6) := h6
            have AS : Hid (Sorted 0 (En S X 256) d6) := s6.asc 72057594037927936 (by decide) HF.out
            have hEn : En S X 256 ≤ n := Nat.le_trans (HD.out.en_le 256 (by omega)) HD.out.top
            obtain ⟨E, hE⟩ : ∃ E, E = En S X 256 := ⟨_, rfl⟩
            rw [← hE] at hEn AS ⊢
            have EE : Hid (E = En S X 256) := hE
            clear k6 h6 s6 hE B5 R5 H5 HF
            go_wp2_with fail
            go_loopw [10, 11] (fun tv bv wq => ∃ b t : Nat, bv = .int .i64 b ∧ b ≤ 256 ∧ tv = .int .i64 t ∧ Hid (t = En S X b) ∧ Hid (RowKit.Below (h + 1 + 1 + 1) w1 wq) ∧ Hid (Hold wq g 0 n d6)) (fun _ bv _ => 256 - (intOf bv).toNat)
            case atStart => exact ⟨0, 0, rfl, by omega, rfl, rfl, B6, H6⟩
            case round =>
              obtain ⟨b, t, rfl, hb256, rfl, hT, hB, hh6⟩ := hrel
              clear B6 H6
              have R7 : Hid (Rows3 wr h sa xa ca) := R1.out.on hB.out
              have htn : t ≤ n := by rw [hT.out]; exact Nat.le_trans (HD.out.en_le b hb256) (HD.out.s_le (256 - b) b (by omega))
              by_cases hb : b < 256
              · have db : decide ((b : Int) < 256) = true := decide_eq_true (by omega)
                have db' : decide (b < 256) = true := decide_eq_true hb
                have nb1 : (b : Int) < 257 := by omega
                have nb2 : (b : Int) < 256 := by omega
                obtain ⟨sb, hsb⟩ : ∃ v, v = S b := ⟨_, rfl⟩
                obtain ⟨xb, hxb⟩ : ∃ v, v = X b := ⟨_, rfl⟩
                have cS : wr.cell? ⟨h, b, none⟩ = some (.int .i64 sb) := by rw [hsb, R7.out.cellS]; exact NS.out.get b (by omega)
                have cX : wr.cell? ⟨h + 1, b, none⟩ = some (.int .i64 xb) := by rw [hxb, R7.out.cellX]; exact NX.out.get b hb
                have g1 : sb ≤ xb := by rw [hsb, hxb]; exact HD.out.sx b hb
                have g2 : xb ≤ n := by rw [hxb]; exact HD.out.x_le b hb
                obtain ⟨m, hm⟩ : ∃ m : Nat, xb = sb + m := ⟨xb - sb, by omega⟩
                have em : (xb : Int) - sb = m := by omega
                have HM : Hid (xb = sb + m ∧ sb = S b ∧ xb = X b) := ⟨hm, hsb, hxb⟩
                have hmn : m ≤ n := by omega
                clear hsb hxb hm
                go_wp2_with fail
                go_quiet (fail)
                go_wp2_with fail
                go_roundw
                case rel => exact ⟨b + 1, t + m, by go_num, by omega, by go_num, by show t + m = En S X (b + 1); rw [En, ← hT.out, ← HM.out.2.1, ← HM.out.2.2, HM.out.1]; omega, below_drewN hB.out _, hh6.out.drewN _⟩
                case measure => simp [intOf] <;> omega
              · obtain rfl : b = 256 := by omega
                obtain rfl : t = E := by rw [hT.out]; exact EE.out.symm
                have tne : ((t : Int) != (t : Int)) = false := by simp
                have tne' : (t != t) = false := by simp
                go_wp2_with fail
                go_loopw [12] (fun iv wq => ∃ i : Nat, iv = .int .i64 i ∧ 1 ≤ i ∧ i ≤ n + 1 ∧ Hid (RowKit.Below (h + 1 + 1 + 1) w1 wq) ∧ Hid (Hold wq g 0 n d6)) (fun iv _ => n + 1 - (intOf iv).toNat)
                case atStart => exact ⟨1, rfl, by omega, by omega, hB, hh6⟩
                case round =>
                  obtain ⟨i, rfl, hi1, hi2, hB8, hh8⟩ := hrel
                  clear hB hh6 R7
                  by_cases hit : i < t
                  · have dit : decide (i < t) = true := decide_eq_true hit
                    obtain ⟨u, hu⟩ : ∃ v, v = d6 (i - 1) := ⟨_, rfl⟩
                    obtain ⟨v, hv⟩ : ∃ v, v = d6 i := ⟨_, rfl⟩
                    have cu : wr.cell? ⟨g, i - 1, none⟩ = some (.int .u64 u) := by rw [hu]; have := hh8.out.cell (i - 1) (by omega); rw [Nat.zero_add] at this; exact this
                    have cv : wr.cell? ⟨g, i, none⟩ = some (.int .u64 v) := by rw [hv]; have := hh8.out.cell i (by omega); rw [Nat.zero_add] at this; exact this
                    have huv : u ≤ v := by rw [hu, hv]; exact AS.out (i - 1) i (by omega) (by omega) hit
                    have t1 : decide (v < u) = false := decide_eq_false (by omega)
                    have ni1 : (i : Int) - 1 < t := by omega
                    have ni2 : (i : Int) < t := by omega
                    clear hu hv
                    go_wp2_with fail
                    go_quiet (fail)
                    go_wp2_with fail
                    go_roundw
                    case rel => exact ⟨i + 1, by go_num, by omega, by omega, below_drewN hB8.out _, hh8.out.drewN _⟩
                    case measure => simp [intOf] <;> omega
                  · have dit : decide (i < t) = false := decide_eq_false hit
                    go_wp2_with fail
                    go_ret
                    exact ⟨rfl, by rw [← HH.out]; exact B1.out.trans (hB8.out.down (by omega))⟩
end Go.Proofs.Qxb6601408a.Fin
