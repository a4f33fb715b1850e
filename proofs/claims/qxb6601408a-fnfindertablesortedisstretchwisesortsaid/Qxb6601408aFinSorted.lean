/-
  The walk of (*finderTable).sorted.
-/
import Derived.Test.Qxb6601408aFinCopy
namespace Go.Proofs.Qxb6601408a.Fin
open Go.RowKit
set_option linter.unusedVariables false

/-- m ints lie in block b from o on -/
def Arr (w : World) (b o m : Nat) (A : Nat → Nat) : Prop := ∀ i, i < m → w.cell? ⟨b, o + i, none⟩ = some (.int .i64 (A i))
theorem Arr.far {w w' : World} {b o m : Nat} {A : Nat → Nat} {base blk off n : Nat} (h : Arr w b o m A) (k : Kept base blk off n w w') (hb : b < base) (hne : b ≠ blk) : Arr w' b o m A :=
  fun i hi => (World.cell?_of_block (w := w) (k.block b hb hne)).trans (h i hi)

theorem Kept.down {base base' blk off n : Nat} {w w' : World} (h : Kept base blk off n w w') (hb : base' ≤ base) : Kept base' blk off n w w' :=
  ⟨h.os, h.tape, h.output, h.size, fun k hk hne => h.block k (by omega) hne, h.cell, h.frozen⟩
/-- where a cut of a row of n begins: at the row's own head where nothing is behind the cut -/
theorem cut_at (blk off n e m : Nat) (h : e + m ≤ n) : ∃ o, (if n = e then some (⟨blk, off, none⟩ : Addr) else some ⟨blk, off + e, none⟩) = some ⟨blk, o, none⟩ ∧ (0 < m → o = off + e) ∧ off ≤ o ∧ o + m ≤ off + n ∧ o ≤ off + e := by
  by_cases c : n = e
  · exact ⟨off, by rw [if_pos c], by omega, by omega, by omega, by omega⟩
  · exact ⟨off + e, by rw [if_neg c], by omega, by omega, by omega, by omega⟩

theorem Sp.keep {base : Nat} {w w' : World} {v : Value} {blk o k : Nat} (h : Sp base w v) (hk : Keep blk o k w w') (hb : blk < base) : Sp base w' v := by
  obtain ⟨len, xs, h1, h2 | ⟨g, cap, cur, rfl, hbb, hg, hn, hm, hc, ht⟩⟩ := h
  · exact ⟨len, xs, h1, .inl h2⟩
  · have hlt : g < w.heap.size := by
      rcases Nat.lt_or_ge g w.heap.size with hlt | hge
      · exact hlt
      · rw [Array.getElem?_eq_none hge] at hg; cases hg
    exact ⟨len, xs, h1, .inr ⟨g, cap, cur, rfl, hbb, (hk.block g hlt (by omega)).trans hg, hn, hm, hc, ht⟩⟩

theorem Str.step' {S X C : Nat → Nat} {n b e s x m : Nat} {d d1 d2 d3 : Nat → Int} (hd : Dom S X C n d) (hb : b < 256) (h : Str S X b d d1) (hE : e = En S X b) (hs : s = S b) (hx : x = X b) (hm : x = s + m)
    (h2 : ∀ t, t < m → d2 (e + t) = d (s + t)) (h2o : ∀ i, i < e ∨ e + m ≤ i → d2 i = d1 i) (h3 : Perm e (e + m) d2 d3) (h3s : Sorted e (e + m) d3) : Str S X (b + 1) d d3 ∧ e + m = En S X (b + 1) := by
  have e1 : En S X (b + 1) = e + m := by rw [En, ← hE, ← hs, ← hx, hm]; omega
  refine ⟨h.step (d2 := d2) hd hb ?_ ?_ ?_ ?_, e1.symm⟩
  · intro t ht
    rw [← hE, ← hs]
    exact h2 t (by omega)
  · rw [e1, ← hE]; exact h2o
  · rw [e1, ← hE]; exact h3
  · rw [e1, ← hE]; exact h3s

/-- the answer of sorted -/
def SortedAll (base blk off n : Nat) (S X : Nat → Nat) (d : Nat → Int) (w : World) (e : Ending) (w' : World) : Prop :=
  (∃ c, e = .returned (.slice (some ⟨blk, off, none⟩) (En S X 256) c)) ∧ Kept base blk off n w w' ∧ ∃ d', Hold w' blk off n d' ∧ Str S X 256 d d'

set_option maxRecDepth 100000 in
set_option maxHeartbeats 4000000 in
theorem sorted_c (tb blk off n : Nat) (S X C : Nat → Nat) (ca : Array Value) (d : Nat → Int) (w : World) (h : Hold w blk off n d) (hn : n ≤ 65536) (hD : Dom S X C n d) (hblk : blk < w.heap.size) (htb : tb < w.heap.size) (hne : tb ≠ blk)
    (he : w.cell? ⟨tb, 0, none⟩ = some (.slice (some ⟨blk, off, none⟩) n n)) (hS : Arr w tb 1 257 S) (hX : Arr w tb 258 256 X)
    (hca : ca.size = 256) (hcc : ∀ i, i < 256 → ca[i]? = some (.int .i64 (C i))) :
    Calls Try.prog 22 #[.pointer (some ⟨tb, 0, none⟩), .agg ca] w (SortedAll w.heap.size blk off n S X d w) := by
  have H0 : Hid (Hold w blk off n d) := h
  have HD : Hid (Dom S X C n d) := hD
  have HS : Hid (Arr w tb 1 257 S) := hS
  have HX : Hid (Arr w tb 258 256 X) := hX
  clear h hD hS hX
  go_enter Try.func22, Try.ntmps22
  go_wp2_with fail
  have HA : Hid (Hold (w.alloc (Obj.cells ca 35)) blk off n d) := H0.out.alloc hblk _
  have KA : Hid (Keep blk off n w (w.alloc (Obj.cells ca 35))) := (Keep.refl _ _ _ _).alloc hblk _
  have SA : Hid (Arr (w.alloc (Obj.cells ca 35)) tb 1 257 S) := fun i hi => by rw [World.cell?_alloc_lt _ _ _ htb]; exact HS.out i hi
  have XA : Hid (Arr (w.alloc (Obj.cells ca 35)) tb 258 256 X) := fun i hi => by rw [World.cell?_alloc_lt _ _ _ htb]; exact HX.out i hi
  have EA : Hid ((w.alloc (Obj.cells ca 35)).cell? ⟨tb, 0, none⟩ = some (.slice (some ⟨blk, off, none⟩) n n)) := by
    show (w.alloc (Obj.cells ca 35)).cell? ⟨tb, 0, none⟩ = _
    rw [World.cell?_alloc_lt _ _ _ htb]; exact he
  have CA : Hid (∀ i, i < 256 → (w.alloc (Obj.cells ca 35)).cell? ⟨w.heap.size, i, none⟩ = some (.int .i64 (C i))) := fun i hi => by rw [World.cell?_alloc_new]; exact hcc i hi
  have ZA : Hid ((w.alloc (Obj.cells ca 35)).heap.size = w.heap.size + 1) := by show (w.alloc (Obj.cells ca 35)).heap.size = w.heap.size + 1; simp
  obtain ⟨cb, hcb⟩ : ∃ cb, cb = w.heap.size := ⟨_, rfl⟩
  rw [← hcb] at CA ZA hblk htb ⊢
  have HCB : Hid (cb = w.heap.size) := hcb
  generalize w.alloc (Obj.cells ca 35) = w1 at HA KA SA XA EA CA ZA ⊢
  clear H0 HS HX he hcc hca hcb
  go_loopw [5, 6, 12] (fun spv ev bv wq => ∃ (b e : Nat) (d1 : Nat → Int), bv = .int .i64 b ∧ b ≤ 256 ∧ ev = .int .i64 e ∧ Hid (e = En S X b) ∧ Hid (Sp (cb + 1) wq spv) ∧ Hid (Kept (cb + 1) blk off n w1 wq) ∧ Hid (Hold wq blk off n d1) ∧ Hid (Str S X b d d1)) (fun _ _ bv _ => 256 - (intOf bv).toNat)
  case atStart => exact ⟨0, 0, d, rfl, by omega, rfl, rfl, ⟨0, [], ownsRow_nil _ _⟩, Kept.refl _ _ _ _ _, HA, Str.start S X d⟩
  case round =>
    obtain ⟨b, e, d1, rfl, hb256, rfl, hE, hsp, hk, hh, hst⟩ := hrel
    clear HA
    have hee : e ≤ S b := by rw [hE.out]; exact HD.out.en_le b hb256
    by_cases hb : b < 256
    · obtain ⟨s, hs⟩ : ∃ s, s = S b := ⟨_, rfl⟩
      obtain ⟨x, hx⟩ : ∃ x, x = X b := ⟨_, rfl⟩
      obtain ⟨c, hc⟩ : ∃ c, c = C b := ⟨_, rfl⟩
      have h1 := HD.out.sx b hb
      have h2 := HD.out.sc b hb
      have h3 := HD.out.cx b hb
      have h4 := HD.out.x_le b hb
      have h5 := HD.out.asc b hb
      have cS : wr.cell? ⟨tb, 1 + b, none⟩ = some (.int .i64 s) := by rw [hs]; exact (SA.out.far hk.out (by omega) hne) b (by omega)
      have cX : wr.cell? ⟨tb, 258 + b, none⟩ = some (.int .i64 x) := by rw [hx]; exact (XA.out.far hk.out (by omega) hne) b hb
      have cE : wr.cell? ⟨tb, 0, none⟩ = some (.slice (some ⟨blk, off, none⟩) n n) := (World.cell?_of_block (w := w1) (hk.out.block tb (by omega) hne)).trans EA.out
      have cC : wr.cell? ⟨cb, b, none⟩ = some (.int .i64 c) := by rw [hc]; exact (World.cell?_of_block (w := w1) (hk.out.block cb (by omega) (by omega))).trans (CA.out b hb)
      rw [← hs] at hee h1 h2 h5
      rw [← hx] at h1 h3 h4
      rw [← hc] at h2 h3 h5
      have HSB : Hid (s = S b) := hs
      have HCB2 : Hid (c = C b) := hc
      have HXB : Hid (x = X b) := hx
      have ASC : Hid (Sorted s c d) := h5
      obtain ⟨m, hm⟩ : ∃ m : Nat, x = s + m := ⟨x - s, by omega⟩
      obtain ⟨kp, hkp⟩ : ∃ kp : Nat, c = s + kp := ⟨c - s, by omega⟩
      have em : (x : Int) - s = m := by omega
      have ekp : (c : Int) - s = kp := by omega
      have HM : Hid (x = s + m) := hm
      have HKP : Hid (c = s + kp) := hkp
      have hkm : kp ≤ m := by omega
      have hemn : e + m ≤ n := by omega
      have hsmn : s + m ≤ n := by omega
      clear hs hx hc h1 h2 h3 h4 h5 hm hkp
      have db : decide ((b : Int) < 256) = true := decide_eq_true (by omega)
      have db' : decide (b < 256) = true := decide_eq_true hb
      have nb1 : (b : Int) < 257 := by omega
      have nb2 : (b : Int) < 256 := by omega
      go_upto_region 6 with fail
      go_quiet (fail)
      go_upto_if 36 with fail
      go_cut [] from 13 to 85 (fun wc => ∃ d2 : Nat → Int, Hid (Sp (cb + 1) wc u5) ∧ Hid (Kept (cb + 1) blk off n w1 wc) ∧ Hid (Hold wc blk off n d2) ∧ Hid (∀ t, t < m → d2 (e + t) = d (s + t)) ∧ Hid (∀ i, i < e ∨ e + m ≤ i → d2 i = d1 i))
      case first =>
        by_cases hse : s = e
        · have t1 : (s != e) = false := by simp [hse]
          have t2 : ((s : Int) != (e : Int)) = false := by simp [hse]
          have HSE : Hid (s = e) := hse
          clear hse
          go_wp2_with fail
          go_meet
          exact ⟨d1, hsp.out, hk.out.drewN _, hh.out.drewN _, fun t ht => by rw [HSE.out]; exact hst.out.rest (e + t) (by rw [← hE.out]; omega), fun _ _ => rfl⟩
        · have t1 : (s != e) = true := by simp [hse]
          have t2 : ((s : Int) != (e : Int)) = true := by simp; omega
          have g1 : ¬ n = e := by omega
          have g2 : e ≤ n := by omega
          have g3 : s ≤ n := by omega
          have g4 : IntKind.i64.wrap ((s : Int) + m) = (x : Int) := by rw [IntKind.wrap_i64]; have := HM.out; omega
          have g5 : x ≤ n := by have := HM.out; omega
          have g6 : s ≤ x := by have := HM.out; omega
          have g7 : x - s = m := by have := HM.out; omega
          have g8 : (x : Int) ≤ n := by omega
          obtain ⟨os, ho1, ho2, ho3, ho4, ho5⟩ := cut_at blk off n s m hsmn
          have HMIN : Hid (m = Nat.min m (n - e)) := (Nat.min_eq_left (by omega : m ≤ n - e)).symm
          have HSRC : Hid (0 < m → ∃ ad : Addr, some (⟨blk, os, none⟩ : Addr) = some ad ∧ ∀ j, j < m → (wr.drewN (nq + 1)).cell? (ad.add j) = some (.int .u64 (d1 (s + j)))) := fun h0 => ⟨_, rfl, fun j hj => by
            rw [Addr.add_lit, ho2 h0, Nat.add_assoc]; exact hh.out.cell (s + j) (by omega)⟩
          have HDST : Hid (∀ j, j < m → ((wr.drewN (nq + 1)).cell? ⟨blk, off + e + j, none⟩).isSome = true) := fun j hj => by
            rw [Nat.add_assoc]; show (wr.cell? _).isSome = true; rw [hh.out.cell (e + j) (by omega)]; rfl
          have HFRZ : Hid (∀ j, j < m → (wr.drewN (nq + 1)).frozen? ⟨blk, off + e + j, none⟩ = false) := fun j hj => by
            rw [Nat.add_assoc]; exact hh.out.loose (e + j) (by omega)
          go_wp2_with fail
          go_region_law (refine step_copy_hold rfl (.tmp 42) (.tmp 51) rfl (some ⟨blk, off + e, none⟩) (some ⟨blk, os, none⟩) (n - e) (n - e) m (n - s) (by simp [Act.eval, Act.put]) (by simp [Act.eval, Act.put]) blk (off + e) m (fun t => d1 (s + t)) HMIN.out (fun _ => rfl) HSRC.out HDST.out HFRZ.out ?_; intro w2 HK2 HH2)
          all_goals
            (go_wp2_with fail
             go_meet
             have kk : Keep blk off n (wr.drewN (nq + 1)) w2 := HK2.out.mono (by omega) (by omega)
             refine ⟨Fin.join d1 e m (fun t => d1 (s + t)), Sp.keep (w := wr.drewN (nq + 1)) hsp.out kk (by omega), (hk.out.drewN _).trans (kk.kept (Nat.le_trans (Nat.le_of_eq ZA.out.symm) hk.out.size)), Hold.join (base := cb + 1) (hh.out.drewN _) (by omega) (fun _ => rfl) (HK2.out.kept (Nat.le_trans (Nat.le_of_eq ZA.out.symm) hk.out.size)) HH2.out, fun t ht => ?_, fun i hi => join_out _ _ _ _ _ hi⟩
             rw [join_in _ _ _ _ _ ht]
             exact hst.out.rest (s + t) (by rw [← hE.out]; omega))
      case rest =>
        obtain ⟨d2, hsp2, hk2, hh2, hv2, hv3⟩ := hcut
        clear hsp hk hh cS cX cE cC
        obtain ⟨r, hr⟩ : ∃ r : Nat, n = e + r := ⟨n - e, by omega⟩
        obtain ⟨l, hl⟩ : ∃ l : Nat, m = kp + l := ⟨m - kp, by omega⟩
        obtain ⟨e2, he2⟩ : ∃ e2 : Nat, e2 = e + m := ⟨_, rfl⟩
        have r1 : n - e = r := by omega
        have r2 : r + e ≤ n := by omega
        have r3 : n ≤ r + e := by omega
        have l1 : m - kp = l := by omega
        have l2 : l + kp ≤ m := by omega
        have l3 : m ≤ l + kp := by omega
        have e3 : (e : Int) + m = e2 := by omega
        have e4 : e2 - e = m := by omega
        have e5 : e2 ≤ e + m := by omega
        have e6 : e + m ≤ e2 := by omega
        have e7 : e ≤ e2 := by omega
        have e8 : e2 ≤ n := by omega
        clear hr hl he2
        obtain ⟨o1, ho1, ho2, ho3, ho4, ho5⟩ := cut_at blk off n e m hemn
        obtain ⟨o2, hp1, hp2, hp3, hp4, hp5⟩ := cut_at blk o1 r kp l (by omega)
        have cE : wc.cell? ⟨tb, 0, none⟩ = some (.slice (some ⟨blk, off, none⟩) n n) := (World.cell?_of_block (w := w1) (hk2.out.block tb (by omega) hne)).trans EA.out
        have cC : wc.cell? ⟨cb, b, none⟩ = some (.int .i64 c) := by
          rw [HCB2.out]
          exact (World.cell?_of_block (w := w1) (hk2.out.block cb (by omega) (by omega))).trans (CA.out b hb)
        go_wp2_with fail
        refine (sort_c blk o2 l (r - kp) (fun t => d2 (e + kp + t)) _ (hh2.out.sub (e + kp) l o2 (by omega) (fun h => by have := hp2 h; have := ho2 (by omega); omega)) (by omega)).mono ?_
        rintro e' w3 ⟨rfl, k3, q3, h3, p3, s3⟩
        have hz : cb + 1 ≤ wc.heap.size := Nat.le_trans (Nat.le_of_eq ZA.out.symm) hk2.out.size
        have kk : Keep blk off n wc w3 := k3.mono (by omega) (by omega)
        have K3 : Hid (Kept (cb + 1) blk off n w1 w3) := hk2.out.trans (kk.kept hz)
        have H3 : Hid (Hold w3 blk off n (Fin.join d2 (e + kp) l q3)) := Hold.join (base := cb + 1) hh2.out (by omega) (fun h => by have := hp2 h; have := ho2 (by omega); omega) (k3.kept hz) h3
        have SP3 : Hid (Sp (cb + 1) w3 u5) := hsp2.out.keep kk (by omega)
        have P3 : Hid (Perm (e + kp) (e + kp + l) d2 (Fin.join d2 (e + kp) l q3)) := Perm.join p3
        have S3 : Hid (Sorted (e + kp) (e + kp + l) (Fin.join d2 (e + kp) l q3)) := Sorted.join s3
        have L3 : Hid (∀ t, t < kp → Fin.join d2 (e + kp) l q3 (e + t) = d (s + t)) := fun t ht => by rw [join_out _ _ _ _ _ (by omega)]; exact hv2.out t (by omega)
        have Z3 : Hid (cb + 1 ≤ w3.heap.size) := Nat.le_trans hz kk.size
        generalize Fin.join d2 (e + kp) l q3 = d3 at H3 P3 S3 L3
        clear k3 h3 p3 s3 kk hz hsp2 hk2 hh2 cE cC
        have A3 : Hid (∀ t u, t < u → u < kp → d3 (e + t) ≤ d3 (e + u)) := fun t u h1 h2 => by
          rw [L3.out t (by omega), L3.out u h2]; exact ASC.out (s + t) (s + u) (by omega) (by omega) (by have := HKP.out; omega)
        by_cases hk0 : 0 < kp
        · have dk0 : decide ((0 : Int) < kp) = true := decide_eq_true (by omega)
          have dk0' : decide (0 < kp) = true := decide_eq_true hk0
          by_cases hkm2 : kp < m
          · have dkm : decide (kp < m) = true := decide_eq_true hkm2
            go_wp2_with fail
            refine (merge_c (cb + 1) blk o1 m r kp u5 (fun t => d3 (e + t)) _ (H3.out.sub e m o1 (by omega) ho2) SP3.out (by omega) Z3.out hk0 hkm2 (by omega) (by omega) (by omega) ?_ ?_).mono ?_
            · exact fun i j h1 h2 h3 => A3.out i j h2 h3
            · refine Sorted.part (e := e) ?_
              rw [show e + m = e + kp + l from by omega]; exact S3.out
            rintro e' w4 ⟨v4, rfl, sp4, k4, q4, h4, p4, s4⟩
            have KF : Hid (Kept (cb + 1) blk off n w1 w4) := K3.out.trans (k4.mono (by omega) (by omega))
            have HF : Hid (Hold w4 blk off n (Fin.join d3 e m q4)) := Hold.join H3.out (by omega) ho2 k4 h4
            have SPF : Hid (Sp (cb + 1) w4 v4) := sp4
            have ST : Hid (Str S X (b + 1) d (Fin.join d3 e m q4) ∧ e + m = En S X (b + 1)) :=
              Str.step' HD.out hb hst.out hE.out HSB.out HXB.out HM.out hv2.out hv3.out ((P3.out.mono (by omega) (by omega) (by omega)).trans (Perm.join p4)) (Sorted.join s4)
            generalize Fin.join d3 e m q4 = d4 at HF ST
            clear k4 h4 p4 s4 sp4
            go_wp2_with fail
            go_roundw
            case rel => exact ⟨b + 1, e2, d4, by go_num, by omega, rfl, by show e2 = En S X (b + 1); have := ST.out.2; omega, SPF, KF, HF, ST.out.1⟩
            case measure => simp [intOf] <;> omega

          · have dkm : decide (kp < m) = false := decide_eq_false hkm2
            have ST : Hid (Str S X (b + 1) d d3 ∧ e + m = En S X (b + 1)) :=
              Str.step' HD.out hb hst.out hE.out HSB.out HXB.out HM.out hv2.out hv3.out (P3.out.mono (by omega) (by omega) (by omega)) (fun i j h1 h2 h3 => by
                have := A3.out (i - e) (j - e) (by omega) (by omega)
                rw [show e + (i - e) = i from by omega, show e + (j - e) = j from by omega] at this; exact this)
            have KF := K3
            have HF := H3
            have SPF := SP3
            go_wp2_with fail
            go_roundw
            case rel => exact ⟨b + 1, e2, d3, by go_num, by omega, rfl, by show e2 = En S X (b + 1); have := ST.out.2; omega, SPF, KF, HF, ST.out.1⟩
            case measure => simp [intOf] <;> omega

        · have dk0 : decide ((0 : Int) < kp) = false := decide_eq_false (by omega)
          have dk0' : decide (0 < kp) = false := decide_eq_false hk0
          have ST : Hid (Str S X (b + 1) d d3 ∧ e + m = En S X (b + 1)) :=
            Str.step' HD.out hb hst.out hE.out HSB.out HXB.out HM.out hv2.out hv3.out (P3.out.mono (by omega) (by omega) (by omega)) (S3.out.sub (by omega) (by omega))
          have KF := K3
          have HF := H3
          have SPF := SP3
          go_wp2_with fail
          go_roundw
          case rel => exact ⟨b + 1, e2, d3, by go_num, by omega, rfl, by show e2 = En S X (b + 1); have := ST.out.2; omega, SPF, KF, HF, ST.out.1⟩
          case measure => simp [intOf] <;> omega

    · obtain rfl : b = 256 := by omega
      have cE : wr.cell? ⟨tb, 0, none⟩ = some (.slice (some ⟨blk, off, none⟩) n n) := (World.cell?_of_block (w := w1) (hk.out.block tb (by omega) hne)).trans EA.out
      have hen : e ≤ n := Nat.le_trans hee HD.out.top
      go_wp2_with fail
      go_ret
      refine ⟨⟨n, by rw [← hE.out]; rfl⟩, ?_, d1, hh, hst⟩
      rw [← HCB.out]
      exact (KA.out.kept (by rw [← HCB.out]; exact Nat.le_refl _)).trans (hk.out.down (by omega))
end Go.Proofs.Qxb6601408a.Fin
