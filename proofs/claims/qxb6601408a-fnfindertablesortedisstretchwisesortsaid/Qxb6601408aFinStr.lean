/-
  The walk of the law FnFinderTableSortedIsStretchwiseSort.
-/
import Derived.Test.Qxb6601408aFinAsc
import Derived.Test.Qxb6601408aFinWant
import Derived.Deep.RegionWith
import Derived.Deep.CutRange
namespace Go.Proofs.Qxb6601408a.Fin
open Go.RowKit
set_option linter.unusedVariables false

theorem Hold.on {base : Nat} {w w' : World} {g n : Nat} {d : Nat → Int} (h : Hold w g 0 n d) (hB : RowKit.Below base w w') (hg : g < base) : Hold w' g 0 n d :=
  ⟨fun t ht => by rw [hB.cell hg]; exact h.cell t ht, fun t ht => by rw [World.frozen?_of_block (w := w) (hB.block g hg)]; exact h.loose t ht⟩
theorem Hold.far {base b o k : Nat} {w w' : World} {g n : Nat} {d : Nat → Int} (h : Hold w g 0 n d) (hB : Kept base b o k w w') (hg : g < base) (hne : g ≠ b) : Hold w' g 0 n d :=
  ⟨fun t ht => by rw [World.cell?_of_block (w := w) (hB.block g hg hne)]; exact h.cell t ht, fun t ht => by rw [World.frozen?_of_block (w := w) (hB.block g hg hne)]; exact h.loose t ht⟩

set_option maxRecDepth 100000 in
set_option maxHeartbeats 4000000 in
theorem str_c (A : Option Addr) (n cap : Nat) (s x c : Nat → Int) (sa xa ca : Array Value) (d : Nat → Int) (w : World) (hA : Arg A n cap d w) (hs : IntsI sa 257 s) (hx : IntsI xa 256 x) (hc : IntsI ca 256 c) :
    Calls Try.prog 5 #[.slice A n cap, .agg sa, .agg xa, .agg ca] w (TrueAns w) := by
  have HA : Hid (Arg A n cap d w) := hA
  have HS : Hid (IntsI sa 257 s) := hs
  have HX : Hid (IntsI xa 256 x) := hx
  have HC : Hid (IntsI ca 256 c) := hc
  have i34 : (Try.prog.info? 34).map (·.size) = some sa.size := by rw [hs.size]; kernel_rfl
  have i35 : (Try.prog.info? 35).map (·.size) = some xa.size := by rw [hx.size]; kernel_rfl
  have i35' : (Try.prog.info? 35).map (·.size) = some ca.size := by rw [hc.size]; kernel_rfl
  have I34 : Hid ((Try.prog.info? 34).map (·.size) = some sa.size) := i34
  have I35 : Hid ((Try.prog.info? 35).map (·.size) = some xa.size) := i35
  have I35' : Hid ((Try.prog.info? 35).map (·.size) = some ca.size) := i35'
  clear hA hs hx hc i34 i35 i35'
  go_enter Try.func5, Try.ntmps5
  go_upto_region 1 with fail
  obtain ⟨w1, hw1, r1, b1, z1⟩ := rows3 w sa xa ca
  rw [← hw1]
  obtain ⟨h, hh⟩ : ∃ h, h = w.heap.size := ⟨_, rfl⟩
  rw [← hh] at r1 b1 z1 ⊢
  have HH : Hid (h = w.heap.size) := hh
  have R1 : Hid (Rows3 w1 h sa xa ca) := r1
  have B1 : Hid (RowKit.Below h w w1) := b1
  have Z1 : Hid (w1.heap.size = h + 1 + 1 + 1) := z1
  clear hw1 r1 b1 z1 hh
  go_wp2_with (first | refine wpList_load_row rfl 34 (.tmp 5) rfl h rfl 34 sa (0, 0) _ R1.out.s Try.underlying34 rfl I34.out ?_ | refine wpList_load_row rfl 35 (.tmp 6) rfl (h + 1) rfl 35 xa (0, 0) _ R1.out.x Try.underlying35 rfl I35.out ?_ | refine wpList_load_row rfl 35 (.tmp 7) rfl (h + 1 + 1) rfl 35 ca (0, 0) _ R1.out.c Try.underlying35 rfl I35'.out ?_)
  refine (bytes14_c A n cap sa xa ca _).mono ?_
  rintro e w2 ⟨⟨r, rfl⟩, b2⟩
  have B2 : Hid (RowKit.Below (h + 1 + 1 + 1) w1 w2) := by rw [← Z1.out]; exact b2
  have R2 : Hid (Rows3 w2 h sa xa ca) := R1.out.on B2.out
  clear b2
  cases r with
  | false =>
    go_wp2_with fail
    go_ret
    exact ⟨rfl, by rw [← HH.out]; exact B1.out.trans (B2.out.down (by omega))⟩
  | true =>
    by_cases hn : 65536 < n
    · go_wp2_with fail
      go_ret
      exact ⟨rfl, by rw [← HH.out]; exact B1.out.trans (B2.out.down (by omega))⟩
    · go_wp2_with (first | refine wpList_load_row rfl 34 (.tmp 5) rfl h rfl 34 sa (0, 0) _ R2.out.s Try.underlying34 rfl I34.out ?_ | refine wpList_load_row rfl 35 (.tmp 6) rfl (h + 1) rfl 35 xa (0, 0) _ R2.out.x Try.underlying35 rfl I35.out ?_ | refine wpList_load_row rfl 35 (.tmp 7) rfl (h + 1 + 1) rfl 35 ca (0, 0) _ R2.out.c Try.underlying35 rfl I35'.out ?_)
      refine (dom_c A n cap s x c sa xa ca d _ (by omega) (HA.out.reads (by rw [← HH.out]; exact B1.out.trans (B2.out.down (by omega)))) HS.out HX.out HC.out).mono ?_
      rintro e w3 ⟨r, rfl, b3, hdom⟩
      have B3 : Hid (RowKit.Below (h + 1 + 1 + 1) w1 w3) := B2.out.trans (b3.down (by rw [← Z1.out]; exact B2.out.size))
      have R3 : Hid (Rows3 w3 h sa xa ca) := R1.out.on B3.out
      have HDI : Hid (r = true → DomI s x c n d) := hdom
      clear b3 hdom R2
      cases r with
      | false =>
        clear HDI
        go_wp2_with fail
        go_ret
        exact ⟨rfl, by rw [← HH.out]; exact B1.out.trans (B3.out.down (by omega))⟩
      | true =>
        have HI : Hid (DomI s x c n d) := HDI.out rfl
        have HD : Hid (Dom (fun b => (s b).toNat) (fun b => (x b).toNat) (fun b => (c b).toNat) n d) := HI.out.dom
        have NS : Hid (Ints sa 257 (fun b => (s b).toNat)) := HI.out.intsS HS.out
        have NX : Hid (Ints xa 256 (fun b => (x b).toNat)) := HI.out.intsX HX.out
        have NC : Hid (Ints ca 256 (fun b => (c b).toNat)) := HI.out.intsC HC.out
        generalize hSS : (fun b => (s b).toNat) = S at HD NS
        generalize hXX : (fun b => (x b).toNat) = X at HD NX
        generalize hCC : (fun b => (c b).toNat) = C at HD NC
        clear HDI HI HS HX HC hSS hXX hCC
        rcases HA.out with ⟨rfl, rfl, rfl⟩ | ⟨b0, off0, rfl, hb0, hcells⟩
        · have z0 : ∀ i, i ≤ 256 → S i = 0 := fun i hi => by have := HD.out.s_le (256 - i) i (by omega); omega
          have ZS : Hid (Zeros sa 257) := zeros_of NS.out fun i hi => z0 i (by omega)
          have ZX : Hid (Zeros xa 256) := zeros_of NX.out fun i hi => by have := HD.out.x_le i hi; omega
          have ZC : Hid (Zeros ca 256) := zeros_of NC.out fun i hi => by have := HD.out.x_le i hi; have := HD.out.cx i hi; omega
          clear HA z0 HD NS NX NC
          go_wp2_with fail
          refine (clone_nil_c _).mono ?_
          rintro e w5 ⟨rfl, rfl⟩
          go_wp2_with fail
          refine (clone_nil_c _).mono ?_
          rintro e w6 ⟨rfl, rfl⟩
          go_wp2_with (at_make; refine wpList_make_room _ rfl _ _ rfl 0 rfl rfl (Nat.zero_le _) ?_; intro w7 b7 h7 z7)
          obtain ⟨g3, hg3⟩ : ∃ g3, g3 = w6.heap.size := ⟨_, rfl⟩
          rw [← hg3] at b7 h7 z7 ⊢
          have HG3 : Hid (h + 1 + 1 + 1 ≤ g3) := by show h + 1 + 1 + 1 ≤ g3; rw [hg3, ← Z1.out]; exact B3.out.size
          have B7 : Hid (RowKit.Below (h + 1 + 1 + 1) w1 w7) := B3.out.trans (b7.out.down HG3.out)
          clear b7 h7 z7 hg3 R3 B3
          go_loopw [10, 11] (fun wv bv wq => ∃ b : Nat, wv = .slice (some ⟨g3, 0, none⟩) 0 0 ∧ bv = .int .i64 b ∧ b ≤ 256 ∧ Hid (RowKit.Below (h + 1 + 1 + 1) w1 wq)) (fun _ bv _ => 256 - (intOf bv).toNat)
          case atStart => exact ⟨0, rfl, rfl, by omega, B7⟩
          case round =>
            obtain ⟨b, rfl, rfl, hb256, hB⟩ := hrel
            clear B7
            have R7 : Hid (Rows3 wr h sa xa ca) := R1.out.on hB.out
            by_cases hb : b < 256
            · have db : decide ((b : Int) < 256) = true := decide_eq_true (by omega)
              have db' : decide (b < 256) = true := decide_eq_true hb
              have nb1 : (b : Int) < 257 := by omega
              have nb2 : (b : Int) < 256 := by omega
              have cS : wr.cell? ⟨h, b, none⟩ = some (.int .i64 0) := by rw [R7.out.cellS]; exact ZS.out.2 b (by omega)
              have cX : wr.cell? ⟨h + 1, b, none⟩ = some (.int .i64 0) := by rw [R7.out.cellX]; exact ZX.out.2 b hb
              go_upto_region 13 with fail
              go_cut [12] from 38 to 55 (fun sv wc => sv = .slice none 0 0 ∧ Hid (RowKit.Below (h + 1 + 1 + 1) w1 wc))
              case first =>
                go_region_with (go_at_call 16; refine (clone_nil_c wr.drew).mono ?_; rintro e ws ⟨rfl, rfl⟩)
                all_goals
                  (go_wp2_with fail
                   go_meet
                   exact ⟨rfl, hB.out.drew⟩)
              case rest =>
                obtain ⟨rfl, b8⟩ := hcut
                clear cS cX hB R7
                go_wp2_with fail
                refine (msort_nil _).mono ?_
                rintro e w9 ⟨rfl, rfl⟩
                go_wp2_with (at_builtin; refine wpList_append_none rfl (.tmp 53) (.tmp 54) rfl g3 0 0 rfl rfl (Nat.le_refl _) ?_)
                go_roundw
                case rel => exact ⟨b + 1, rfl, by go_num, by omega, b8⟩
                case measure => simp [intOf] <;> omega
            · obtain rfl : b = 256 := by omega
              go_wp2_with (first | refine wpList_load_row rfl 34 (.tmp 5) rfl h rfl 34 sa (0, 0) _ R7.out.s Try.underlying34 rfl I34.out ?_ | refine wpList_load_row rfl 35 (.tmp 6) rfl (h + 1) rfl 35 xa (0, 0) _ R7.out.x Try.underlying35 rfl I35.out ?_ | refine wpList_load_row rfl 35 (.tmp 7) rfl (h + 1 + 1) rfl 35 ca (0, 0) _ R7.out.c Try.underlying35 rfl I35'.out ?_)
              refine (zz_nil sa xa ca _ ZS.out ZX.out ZC.out).mono ?_
              rintro e w11 ⟨rfl, b11⟩
              have BL : Hid (RowKit.Below h w w11) := B1.out.trans ((hB.out.trans (b11.down (by rw [← Z1.out]; exact hB.out.size))).down (by omega))
              clear b11 hB R7
              go_wp2_with fail
              go_loopw [14] (fun iv wq => iv = .int .i64 0 ∧ Hid (RowKit.Below h w wq)) (fun iv _ => 0)
              case atStart => exact ⟨rfl, BL⟩
              case round =>
                obtain ⟨rfl, bl⟩ := hrel
                clear BL
                go_wp2_with fail
                go_loopw [15] (fun iv wq => iv = .int .i64 0 ∧ Hid (RowKit.Below h w wq)) (fun iv _ => 0)
                case atStart => exact ⟨rfl, bl⟩
                case round =>
                  obtain ⟨rfl, bl8⟩ := hrel
                  go_wp2_with fail
                  go_ret
                  exact ⟨rfl, by rw [← HH.out]; exact bl8.out⟩
        · have HCE : Hid (∀ j, j < n → w3.cell? ⟨b0, off0 + j, none⟩ = some (.int .u64 (d j))) := fun j hj => by
            rw [(B1.out.trans (B3.out.down (by omega))).cell (by rw [HH.out]; exact hb0 (by omega))]; exact hcells j hj
          have HBL : Hid (0 < n → b0 < w3.heap.size) := fun hn0 => Nat.lt_of_lt_of_le (hb0 hn0) (Nat.le_trans B1.out.size B3.out.size)
          have hn' : n ≤ 65536 := by omega
          clear hb0 hcells HA
          go_wp2_with fail
          refine (clone_c b0 off0 n cap d _ hn' HCE.out HBL.out).mono ?_
          rintro e w5 ⟨rfl, b5, h5, z5⟩
          have B5 : Hid (RowKit.Below (h + 1 + 1 + 1) w1 w5) := B3.out.trans (b5.down (by rw [← Z1.out]; exact B3.out.size))
          obtain ⟨g, hg⟩ : ∃ g, g = w3.heap.size := ⟨_, rfl⟩
          rw [← hg] at h5 z5 ⊢
          have HG : Hid (h + 1 + 1 + 1 ≤ g) := by show h + 1 + 1 + 1 ≤ g; rw [hg, ← Z1.out]; exact B3.out.size
          have H5 : Hid (Hold w5 g 0 n d) := h5
          have Z5 : Hid (g < w5.heap.size) := z5
          clear b5 h5 z5 hg HCE HBL R3 B3
          go_wp2_with fail
          refine (clone_c g 0 n n d _ hn' H5.out.cell (fun _ => Z5.out)).mono ?_
          rintro e w6 ⟨rfl, b6, h6, z6⟩
          obtain ⟨g2, hg2⟩ : ∃ g2, g2 = w5.heap.size := ⟨_, rfl⟩
          rw [← hg2] at b6 h6 z6 Z5 ⊢
          have HG2 : Hid (g < g2) := Z5.out
          have B6 : Hid (RowKit.Below (h + 1 + 1 + 1) w1 w6) := B5.out.trans (b6.down (by have := HG.out; have := HG2.out; omega))
          have E6 : Hid (Hold w6 g 0 n d) := H5.out.on b6 HG2.out
          have F6 : Hid (Hold w6 g2 0 n d) := h6
          have Z6 : Hid (g2 < w6.heap.size) := z6
          clear b6 h6 z6 hg2 H5 Z5 B5
          go_wp2_with (at_make; refine wpList_make_room _ rfl _ _ rfl n rfl rfl hn' ?_; intro w7 b7 h7 z7)
          obtain ⟨g3, hg3⟩ : ∃ g3, g3 = w6.heap.size := ⟨_, rfl⟩
          rw [← hg3] at b7 h7 z7 Z6 ⊢
          have HG3 : Hid (g2 < g3) := Z6.out
          have Z7 : Hid (g3 < w7.heap.size) := by show g3 < w7.heap.size; rw [z7.out]; omega
          clear z7 Z6 hg3
          go_loopw [10, 11] (fun wv bv wq => ∃ (b t : Nat) (q : Nat → Int), wv = .slice (some ⟨g3, 0, none⟩) t n ∧ bv = .int .i64 b ∧ b ≤ 256 ∧ Hid (t = En S X b) ∧ Hid (RowKit.Below g3 w6 wq) ∧ Hid (Hold wq g3 0 n q) ∧ Hid (g3 < wq.heap.size) ∧ Hid (Want S X b d q)) (fun _ bv _ => 256 - (intOf bv).toNat)
          case atStart => exact ⟨0, 0, _, rfl, rfl, by omega, rfl, b7, h7, Z7, Want.start S X d _⟩
          case round =>
            obtain ⟨b, t, q, rfl, rfl, hb256, hT, hB, hq, hz, hW⟩ := hrel
            clear b7 h7 Z7
            have R7 : Hid (Rows3 wr h sa xa ca) := (R1.out.on B6.out).on (hB.out.down (by have := HG.out; have := HG2.out; have := HG3.out; omega))
            have F7 : Hid (Hold wr g2 0 n d) := F6.out.on hB.out HG3.out
            have htS : t ≤ S b := by rw [hT.out]; exact HD.out.en_le b hb256
            have hSn : S b ≤ n := HD.out.s_le (256 - b) b (by omega)
            by_cases hb : b < 256
            · have db : decide ((b : Int) < 256) = true := decide_eq_true (by omega)
              have db' : decide (b < 256) = true := decide_eq_true hb
              have nb1 : (b : Int) < 257 := by omega
              have nb2 : (b : Int) < 256 := by omega
              obtain ⟨sb, hsb⟩ : ∃ v, v = S b := ⟨_, rfl⟩
              obtain ⟨xb, hxb⟩ : ∃ v, v = X b := ⟨_, rfl⟩
              have cS : wr.cell? ⟨h, b, none⟩ = some (.int .i64 sb) := by rw [hsb, R7.out.cellS]; exact NS.out.get b (by omega)
              have cX : wr.cell? ⟨h + 1, b, none⟩ = some (.int .i64 xb) := by rw [hxb, R7.out.cellX]; exact NX.out.get b hb
              have g1 : sb ≤ xb := by rw [hsb, hxb]; exact HD.out.sx b hb
              have g5 : xb ≤ n := by rw [hxb]; exact HD.out.x_le b hb
              rw [← hsb] at htS hSn
              obtain ⟨m, hm⟩ : ∃ m : Nat, xb = sb + m := ⟨xb - sb, by omega⟩
              have HM : Hid (xb = sb + m ∧ sb = S b ∧ xb = X b) := ⟨hm, hsb, hxb⟩
              have g6 : xb - sb = m := by omega
              have g7 : sb + m ≤ n := by omega
              have g8 : t + m ≤ n := by omega
              have g9 : (xb : Int) ≤ n := by omega
              have hmn : m ≤ 65536 := by omega
              clear hsb hxb hm
              obtain ⟨o, ho1, ho2, ho3, ho4, ho5⟩ := cut_at g2 0 n sb m g7
              have ho1' := ho1
              rw [Nat.zero_add] at ho1'
              have HSRC : Hid (∀ j, j < m → wr.cell? ⟨g2, o + j, none⟩ = some (.int .u64 (d (sb + j)))) := fun j hj => by
                rw [ho2 (by omega), Nat.add_assoc]; exact F7.out.cell (sb + j) (by omega)
              have HLT : Hid (0 < m → g2 < wr.heap.size) := fun _ => by have := HG3.out; have := hz.out; omega
              obtain ⟨gs, hgs⟩ : ∃ gs, gs = wr.heap.size := ⟨_, rfl⟩
              have HGS : Hid (gs = wr.heap.size) := hgs
              clear hgs ho2 ho3 ho4 ho5
              go_upto_region 13 with fail
              go_cut [12] from 38 to 55 (fun sv wc => sv = .slice (some ⟨gs, 0, none⟩) m m ∧ Hid (RowKit.Below gs wr wc) ∧ Hid (Hold wc gs 0 m (fun t => d (sb + t))) ∧ Hid (gs < wc.heap.size))
              case first =>
                go_region_with (go_at_call 16; refine (clone_c g2 o m (n - sb) (fun t => d (sb + t)) wr.drew hmn HSRC.out HLT.out).mono ?_; rintro e ws ⟨rfl, bs, hs, zs⟩)
                all_goals
                  (go_wp2_with fail
                   go_meet
                   refine ⟨by rw [HGS.out], ?_, ?_, ?_⟩
                   · show RowKit.Below gs wr ws
                     rw [HGS.out]
                     exact ((RowKit.Below.refl _ _).drew).trans bs
                   · show Hold ws gs 0 m _
                     rw [HGS.out]
                     exact hs
                   · show gs < ws.heap.size
                     rw [HGS.out]
                     exact zs)
              case rest =>
                obtain ⟨rfl, b8, h8, z8⟩ := hcut
                clear cS cX ho1 ho1' HSRC HLT
                have HG4 : Hid (g3 < gs) := by have := HGS.out; have := hz.out; show g3 < gs; omega
                go_wp2_with fail
                refine (msort_c gs 0 m m (fun t => d (sb + t)) _ h8.out hmn).mono ?_
                rintro e w9 ⟨rfl, k9, r, h9, p9, s9⟩
                have Q9 : Hid (Hold w9 g3 0 n q) := (hq.out.on b8.out HG4.out).far (k9.kept (Nat.le_refl _)) (by have := HG4.out; have := z8.out; omega) (by have := HG4.out; omega)
                have SRC : Hid (∀ j, j < m → w9.cell? ⟨gs, 0 + j, none⟩ = some (.int .u64 (r j))) := h9.cell
                have B9 : Hid (RowKit.Below g3 w6 w9) := (hB.out.trans (b8.out.down (by have := HG4.out; omega))).trans ((k9.kept (Nat.le_refl _)).below (by have := HG4.out; have := z8.out; omega) (by have := HG4.out; omega))
                have P9 : Hid (Perm 0 m (fun t => d (sb + t)) r ∧ Sorted 0 m r) := ⟨p9, s9⟩
                have Z9 : Hid (g3 < w9.heap.size) := Nat.lt_of_lt_of_le (by have := HG4.out; have := z8.out; omega) k9.size
                clear k9 h9 p9 s9 b8 h8 z8 hB hq hz
                go_wp2_with (at_builtin; refine wpList_append_hold rfl (.tmp 53) (.tmp 54) rfl g3 t n gs 0 m m q r rfl rfl Q9.out g8 SRC.out ?_; intro w10 K10 H10)
                go_roundw
                case rel =>
                  refine ⟨b + 1, t + m, Fin.join q t m r, rfl, by go_num, by omega, ?_, ?_, ?_, ?_, ?_⟩
                  · show t + m = En S X (b + 1)
                    rw [En, ← hT.out, ← HM.out.2.1, ← HM.out.2.2, HM.out.1]; omega
                  · exact B9.out.trans ((K10.out.kept (Nat.le_refl _)).below (Nat.le_of_lt Z9.out) (Nat.le_refl _))
                  · exact Hold.join (base := g3) Q9.out g8 (fun _ => (Nat.zero_add t).symm) (K10.out.kept (Nat.le_of_lt Z9.out)) H10.out
                  · exact Nat.lt_of_lt_of_le Z9.out K10.out.size
                  · have e1 : X b - S b = m := by rw [← HM.out.2.1, ← HM.out.2.2, HM.out.1]; omega
                    have := hW.out.step (r := r) (by rw [e1, ← HM.out.2.1]; exact P9.out.1) (by rw [e1]; exact P9.out.2)
                    rw [e1, ← hT.out] at this
                    exact this
                case measure => simp [intOf] <;> omega
            · obtain rfl : b = 256 := by omega
              have hEn : t ≤ n := by omega
              have E7 : Hid (Hold wr g 0 n d) := E6.out.on hB.out (by have := HG2.out; have := HG3.out; omega)
              have G7 : Hid (g < wr.heap.size) := by have := HG2.out; have := HG3.out; have := hz.out; show g < wr.heap.size; omega
              clear htS hSn
              go_wp2_with (first | refine wpList_load_row rfl 34 (.tmp 5) rfl h rfl 34 sa (0, 0) _ R7.out.s Try.underlying34 rfl I34.out ?_ | refine wpList_load_row rfl 35 (.tmp 6) rfl (h + 1) rfl 35 xa (0, 0) _ R7.out.x Try.underlying35 rfl I35.out ?_ | refine wpList_load_row rfl 35 (.tmp 7) rfl (h + 1 + 1) rfl 35 ca (0, 0) _ R7.out.c Try.underlying35 rfl I35'.out ?_)
              refine (zz_c g 0 n S X C sa xa ca d _ E7.out hn' HD.out G7.out NS.out NX.out NC.out).mono ?_
              rintro e w11 ⟨⟨c', rfl⟩, k11, d6, h6, s6⟩
              have BL : Hid (RowKit.Below h w w11) := (B1.out.trans ((B6.out.trans (hB.out.down (by have := HG.out; have := HG2.out; have := HG3.out; omega))).down (by omega))).trans (k11.below (by have := HG.out; have := G7.out; omega) (by have := HG.out; omega))
              have HE : Hid (Hold w11 g 0 n d6) := h6
              have HF : Hid (Hold w11 g2 0 n d) := F7.out.far k11 (by have := HG3.out; have := hz.out; omega) (by have := HG2.out; omega)
              have HQ : Hid (Hold w11 g3 0 n q) := hq.out.far k11 hz.out (by have := HG2.out; have := HG3.out; omega)
              rw [← hT.out]
              have EQ : Hid (∀ p, p < t → d6 p = q p) := fun p hp => s6.want hW.out p (by rw [← hT.out]; exact hp)
              have RE : Hid (∀ i, t ≤ i → d6 i = d i) := fun i hi => s6.rest i (by rw [← hT.out]; exact hi)
              clear k11 h6 s6 hB hq hz hW R7 F7 E7 G7
              have tne : ((t : Int) != (t : Int)) = false := by simp
              have tne' : (t != t) = false := by simp
              go_wp2_with fail
              go_loopw [14] (fun iv wq => ∃ i : Nat, iv = .int .i64 i ∧ i ≤ t ∧ Hid (RowKit.Below h w wq) ∧ Hid (Hold wq g 0 n d6) ∧ Hid (Hold wq g2 0 n d) ∧ Hid (Hold wq g3 0 n q)) (fun iv _ => n + 1 - (intOf iv).toNat)
              case atStart => exact ⟨0, rfl, by omega, BL, HE, HF, HQ⟩
              case round =>
                obtain ⟨i, rfl, hi1, bl, he, hf, hq⟩ := hrel
                clear BL HE HF HQ
                by_cases hit : i < t
                · have dit : decide (i < t) = true := decide_eq_true hit
                  obtain ⟨u, hu⟩ : ∃ v, v = q i := ⟨_, rfl⟩
                  have cu : wr.cell? ⟨g, i, none⟩ = some (.int .u64 u) := by rw [hu, ← EQ.out i hit]; have := he.out.cell i (by omega); rw [Nat.zero_add] at this; exact this
                  have cv : wr.cell? ⟨g3, i, none⟩ = some (.int .u64 u) := by rw [hu]; have := hq.out.cell i (by omega); rw [Nat.zero_add] at this; exact this
                  have t1 : (u != u) = false := by simp
                  have ni1 : (i : Int) < t := by omega
                  have ni2 : (i : Int) < n := by omega
                  clear hu
                  go_wp2_with fail
                  go_quiet (fail)
                  go_wp2_with fail
                  go_roundw
                  case rel => exact ⟨i + 1, by go_num, by omega, below_drewN bl.out _, he.out.drewN _, hf.out.drewN _, hq.out.drewN _⟩
                  case measure => simp [intOf] <;> omega
                · have dit : decide (i < t) = false := decide_eq_false hit
                  go_wp2_with fail
                  go_loopw [15] (fun jv wq => ∃ j : Nat, jv = .int .i64 j ∧ t ≤ j ∧ j ≤ n ∧ Hid (RowKit.Below h w wq) ∧ Hid (Hold wq g 0 n d6) ∧ Hid (Hold wq g2 0 n d)) (fun jv _ => n + 1 - (intOf jv).toNat)
                  case atStart => exact ⟨t, rfl, by omega, by omega, bl, he, hf⟩
                  case round =>
                    obtain ⟨j, rfl, hj1, hj2, bl8, he8, hf8⟩ := hrel
                    clear bl he hf hq
                    by_cases hjn : j < n
                    · have djn : decide (j < n) = true := decide_eq_true hjn
                      obtain ⟨u, hu⟩ : ∃ v, v = d j := ⟨_, rfl⟩
                      have cu : wr.cell? ⟨g, j, none⟩ = some (.int .u64 u) := by rw [hu, ← RE.out j hj1]; have := he8.out.cell j (by omega); rw [Nat.zero_add] at this; exact this
                      have cv : wr.cell? ⟨g2, j, none⟩ = some (.int .u64 u) := by rw [hu]; have := hf8.out.cell j (by omega); rw [Nat.zero_add] at this; exact this
                      have t1 : (u != u) = false := by simp
                      have ni2 : (j : Int) < n := by omega
                      clear hu
                      go_wp2_with fail
                      go_quiet (fail)
                      go_wp2_with fail
                      go_roundw
                      case rel => exact ⟨j + 1, by go_num, by omega, by omega, below_drewN bl8.out _, he8.out.drewN _, hf8.out.drewN _⟩
                      case measure => simp [intOf] <;> omega
                    · have djn : decide (j < n) = false := decide_eq_false hjn
                      go_wp2_with fail
                      go_ret
                      exact ⟨rfl, by rw [← HH.out]; exact bl8.out⟩
end Go.Proofs.Qxb6601408a.Fin
