/-
  THE LAW (5), WHERE THE GUARDS LET IT RUN.
-/
import Derived.Test.Qxb6605223aLaw
import Derived.Test.Qxb6605223aLawC
import Derived.Test.Qxb6605223aState
import Derived.Test.Qxb6605223aReset
namespace Go.Proofs.Qxb6605223a
open Go.RowKit

set_option maxHeartbeats 8000000 in
set_option maxRecDepth 100000 in
theorem law_main (n P m c0 c1 c2 c3 c4 c5 c6 : Nat) (pa0 pa1 pa2 pa3 pa4 pa5 pa6 : Option Addr) (PR PS FR RO WA RD : Nat → Int) (RA : Nat → Option Addr) (RL RC : Nat → Nat) (BP : Nat → Nat → Int) (w : World)
    (l0 : n ≤ 4096) (l2 : P ≤ 4096) (l6 : m ≤ 4096) (hPS : ∀ i, i < n → PS i ≤ 2147483647)
    (h0 : Sg w.heap.size w.heap.size pa0 n (fun i => .int .i64 (PR i)) w) (h1 : Sg w.heap.size w.heap.size pa1 n (fun i => .int .i32 (PS i)) w) (h2 : Sg w.heap.size w.heap.size pa2 P (fun q => .slice (RA q) (RL q) (RC q)) w) (hr : ∀ q, q < P → Sg w.heap.size w.heap.size (RA q) (RL q) (fun i => .int .i64 (BP q i)) w)
    (h3 : Sg w.heap.size w.heap.size pa3 n (fun i => .int .i64 (FR i)) w) (h4 : Sg w.heap.size w.heap.size pa4 P (fun i => .int .i32 (RO i)) w) (h5 : Sg w.heap.size w.heap.size pa5 P (fun i => .int .i32 (WA i)) w) (h6 : Sg w.heap.size w.heap.size pa6 m (fun i => .int .i64 (RD i)) w) :
    Calls Try.prog 5 #[.slice pa0 n c0, .slice pa1 n c1, .slice pa2 P c2, .slice pa3 n c3, .slice pa4 P c4, .slice pa5 P c5, .slice pa6 m c6] w fun e w' => Lawful w e w' := by
  have HC := hid (bytes19 _ _ n n P n P P m c0 c1 c2 c3 c4 c5 c6 pa0 pa1 pa2 pa3 pa4 pa5 pa6 RA RL RC w h2)
  have HC7 := hid (bytes7 _ _ n n P n P P m c0 c1 c2 c3 c4 c5 c6 pa0 pa1 pa2 pa3 pa4 pa5 pa6 RA RL RC w l0 l0 l2 l0 l2 l2 l6 h2)
  have HC8 := hid (fun hRL => well _ _ n P c0 c1 c2 c3 c4 c5 pa0 pa1 pa2 pa3 pa4 pa5 PR PS FR RA RL RC BP w l0 l2 hRL hPS h0 h1 h2 h3 hr)
  have HC9 := hid (readsIn _ _ n m c6 pa6 RD w (by omega) h6)
  obtain ⟨ii, hi0, hz0, hz1, hz2⟩ := info_parts info21
  have i0 : (n : Int) ≤ 4096 := by omega
  have i2 : (P : Int) ≤ 4096 := by omega
  have i6 : (m : Int) ≤ 4096 := by omega
  have H0 := hid h0
  have H1 := hid h1
  have H2 := hid h2
  have HR := hid hr
  have H3 := hid h3
  have H4 := hid h4
  have H5 := hid h5
  have H6 := hid h6
  clear h0 h1 h2 hr h3 h4 h5 h6 hPS
  go_enter Try.func5, Try.ntmps5
  go_wp2_with fail
  refine HC.out.mono ?_
  rintro e w' ⟨⟨b, rfl, _⟩, rfl⟩
  cases b
  · go_wp2_with fail
    go_ret
    exact lawful_here w
  go_wp2_with fail
  refine HC7.out.mono ?_
  rintro e w' ⟨⟨t, rfl, hRL⟩, rfl⟩
  by_cases ht : (1048576 : Int) < t
  · clear hRL
    go_wp2_with fail
    go_ret
    exact lawful_here w
  have HRL := hid (hRL (by omega))
  clear hRL
  go_wp2_with fail
  refine (HC8.out HRL.out).mono ?_
  rintro e w' ⟨⟨b, rfl, hWF⟩, rfl⟩
  cases b
  · clear hWF
    go_wp2_with fail
    go_ret
    exact lawful_here w
  have HWF := hid (hWF rfl)
  clear hWF
  go_wp2_with fail
  refine HC9.out.mono ?_
  rintro e w' ⟨⟨b, rfl, hRD⟩, rfl⟩
  cases b
  · clear hRD
    go_wp2_with fail
    go_ret
    exact lawful_here w
  have HO : Hid (Ops n P m PR PS FR RD RL BP) := ⟨HWF.out, HRL.out, hRD rfl⟩
  clear hRD HC HC7 HC8 HC9 HWF HRL
  go_wp2_with fail
  refine (cloneInt _ _ n c0 pa0 PR w (by omega) (Nat.le_refl _) H0.out).mono ?_
  rintro e w1 ⟨q0, d0, rfl, k0, b1⟩
  have K0 := hid k0
  have B1 := hid b1
  have D1 := b1.size
  clear k0 b1
  go_wp2_with fail
  refine (clone32 _ _ n c1 pa1 PS w1 (by omega) D1 (H1.out.below B1.out)).mono ?_
  rintro e w2 ⟨q1, d1, rfl, k1, b2⟩
  have K1 := hid k1
  have B2 := hid b2
  have C2 := hid (below_two B1.out b2)
  clear k1 b2
  go_wp2_with fail
  refine (cloneInt2 _ _ P c2 pa2 RA RL RC BP w2 (by omega) C2.out.size HO.out.rl (H2.out.below C2.out) (fun q hq => (HR.out q hq).below C2.out)).mono ?_
  rintro e w3 ⟨q2, d2, rfl, k2, b3⟩
  have K2 := hid k2
  have B3 := hid b3
  have C3 := hid (below_two C2.out b3)
  clear k2 b3
  go_wp2_with fail
  refine (cloneInt _ _ n c3 pa3 FR w3 (by omega) C3.out.size (H3.out.below C3.out)).mono ?_
  rintro e w4 ⟨q3, d3, rfl, k3, b4⟩
  have K3 := hid k3
  have B4 := hid b4
  have C4 := hid (below_two C3.out b4)
  clear k3 b4
  go_wp2_with fail
  refine (clone32 _ _ P c4 pa4 RO w4 (by omega) C4.out.size (H4.out.below C4.out)).mono ?_
  rintro e w5 ⟨q4, d4, rfl, k4, b5⟩
  have K4 := hid k4
  have B5 := hid b5
  have C5 := hid (below_two C4.out b5)
  clear k4 b5
  go_wp2_with fail
  refine (clone32 _ _ P c5 pa5 WA w5 (by omega) C5.out.size (H5.out.below C5.out)).mono ?_
  rintro e w6 ⟨q5, d5, rfl, _, b6⟩
  have B6 := hid b6
  have C6 := hid (below_two C5.out b6)
  clear b6
  go_wp2_with fail
  refine (cloneInt _ _ m c6 pa6 RD w6 (by omega) C6.out.size (H6.out.below C6.out)).mono ?_
  rintro e w7 ⟨q6, d6, rfl, k6, b7⟩
  have K6 := hid k6
  have B7 := hid b7
  have C7 := hid (below_two C6.out b7)
  clear k6 b7 H0 H1 H2 HR H3 H4 H5 H6
  have S3 : Hid (Sg (w7.heap.size) (w7.heap.size) q3 n (fun i => .int .i64 (FR i)) w7) := cloned_sg K3.out (below_two B5.out (below_two B6.out B7.out)) (.inl (Nat.le_trans B5.out.size (Nat.le_trans B6.out.size B7.out.size))) (Nat.le_trans B5.out.size (Nat.le_trans B6.out.size B7.out.size))
  have S6' : Hid (Sg (w7.heap.size) (w7.heap.size) q6 m (fun i => .int .i64 (RD i)) w7) := cloned_sg K6.out (Below.refl _ _) (.inl (Nat.le_refl _)) (Nat.le_refl _)
  go_wp2_with fail
  refine (returnedBy _ _ n m d3 d6 q3 q6 FR RD w7 (by omega) (by omega) (Nat.le_refl _) S3.out S6'.out (fun i hi => ⟨(HO.out.wf i hi).fr0, (HO.out.wf i hi).fr⟩) HO.out.rd).mono ?_
  rintro e w8 ⟨rfl, hI, b8⟩
  have HI := hid hI
  have B8 := hid b8
  have C8 := hid (below_two C7.out b8)
  have L8 := hid hI.lt
  clear hI b8 S3 S6'
  go_wp2_with fail
  refine (new14 n n P n P P d0 d1 d2 d3 d4 d5 q0 q1 q2 q3 q4 q5 w8 l0 l2).mono ?_
  rintro e w9 ⟨F, G, ops, ent, rfl, hF, ⟨E, hEF, hwE, rfl, hE⟩, hG, b9, hwG, hGF⟩
  have HF := hid hF
  have HE := hid hE
  have HG := hid hG
  have B9 := hid b9
  have C9 := hid (below_two C8.out b9)
  clear hF hE hG b9
  obtain ⟨R, RA', RC', hIns, hRG, hRF, hRI, hRw, hRE⟩ := ins_of HO.out K0.out B1.out K1.out B2.out K2.out B3.out K3.out B4.out K4.out B5.out B6.out K6.out B7.out B8.out L8.out B9.out hwG hGF
  have HIns := hid hIns
  clear hIns K0 K1 K2 K3 K4 K6 B1 B2 B3 B4 B5 B6 B7
  obtain ⟨zs, hzs⟩ : ∃ zs, zs = zsOf PR PS FR RD m := ⟨_, rfl⟩
  have hL : zs.length ≤ 4096 := by
    have := zsOf_length PR PS FR RD m
    rw [← hzs] at this
    omega
  have HRES := hid (reset22 R w8.heap.size F G n P m d0 d1 d3 d6 d4 q0 q1 q3 q6 q4 PR PS FR RD ops (.slice q2 P d2) (.slice (some ⟨E, 0, none⟩) P P) (.slice q5 P d5) w9 l0 l2 l6 hwG hGF hRG hRF HF.out HG.out HIns.out.h0 HIns.out.h1 HIns.out.h3 HIns.out.h6 HO.out.rd (fun i hi => ⟨(HO.out.wf i hi).fr0, (HO.out.wf i hi).fr⟩)
    (fun i hi => ⟨(key_lt HO.out hi).1, (key_lt HO.out hi).2.1⟩) (fun i hi => ⟨(key_lt HO.out hi).2.2.1, (key_lt HO.out hi).2.2.2⟩) HIns.out.ro)
  rw [← hzs] at HRES
  have HZ := hid hzs
  clear hzs HF
  go_wp2_with fail
  refine (zzReset15 R F G _ _ _ _ _ zs w9 HRES.out).mono ?_
  rintro e w10 ⟨rfl, ⟨kv, rv, ru, fs, due, uv, hF, ⟨a5, n5, m5, rfl⟩, ⟨a13, n13, m13, rfl⟩, ⟨a14, n14, m14, rfl⟩, ⟨a19, n19, m19, rfl⟩, hRet⟩, hkp⟩
  have HF := hid hF
  have HRet := hid hRet
  have HK := hid hkp
  have lF10 := hF.lt
  clear hF hRet hkp HRES
  go_wp2_with fail
  refine (returned20 F G zs.length (hiOf zs) (loOf zs) _ _ _ _ _ _ _ _ _ _ _ _ w10 hL HF.out HRet.out).mono ?_
  rintro e w11 ⟨rfl, hPC, b11⟩
  have HPC := hid hPC
  have B11 := hid b11
  clear hPC b11
  have lF11 : F < w11.heap.size := Nat.lt_of_lt_of_le lF10 B11.out.size
  have kB : Kp R w8.heap.size w9 w11 := (HK.out.weak' (by omega)).trans (Kp.of_below (B11.out.mono (by omega)))
  obtain ⟨s0, s1, s2, sr⟩ := HIns.out.kept kB (F := F) (by omega)
  have lI : w7.heap.size < F := by have := L8.out; omega
  have hI11 : Row 4 w7.heap.size n (fun i => .bool (retOf FR RD m i)) w11 := ((HI.out.block (B9.out.block _ L8.out)).block (HK.out.block _ lI (Ne.symm hRI))).block (B11.out.block _ (by omega))
  have hG11 : GIs G n ops (.slice q0 n d0) (.slice q1 n d1) (.slice q2 P d2) (.slice q3 n d3) w11 := (HG.out.block (HK.out.block G hGF (Ne.symm hRG))).block (B11.out.block G (by omega))
  have hE11 : Row 75 E P (fun _ => nilV) w11 := (HE.out.block (HK.out.block E hEF (by omega))).block (B11.out.block E (by omega))
  have hF11 := HF.out.block (B11.out.block F lF10)
  have hRet11 : Ret F rv zs.length (hiOf zs) (loOf zs) w11 := HRet.out.kept (fun k hk _ => B11.out.block k hk)
  have hwF : w.heap.size ≤ F := by have := C8.out.size; omega
  have C11 := hid ((C9.out.trans (HK.out.below hRw hwF)).trans (B11.out.mono (Nat.le_trans C9.out.size HK.out.size)))
  obtain ⟨Bf, hBf⟩ : ∃ Bf, w10.heap.size = Bf := ⟨_, rfl⟩
  have hBf11 : Bf < w11.heap.size := by rw [← hBf]; exact HPC.out.lt
  have hFBf : F < Bf := by rw [← hBf]; exact lF10
  rw [hBf] at HPC ⊢
  obtain ⟨I, hIe⟩ : ∃ I, w7.heap.size = I := ⟨_, rfl⟩
  rw [hIe] at hI11 lI ⊢
  obtain ⟨B0, hB0⟩ : ∃ B0, w8.heap.size = B0 := ⟨_, rfl⟩
  rw [hB0] at s0 s1 s2 sr hwG
  obtain ⟨V, hV⟩ : ∃ V : Nat → Int, V = ixOf (tOf BP zs) zs.length := ⟨_, rfl⟩
  have HRANK : Hid (∀ l, l < n → V l = want PR PS FR RD n m l) := fun l hl => by rw [hV]; exact rank HO.out zs HZ.out l hl
  have HFI := hid hF11
  have HI11 := hid hI11
  have HE11 := hid hE11
  have HRet11 := hid hRet11
  have HS0 := hid s0
  have HS1 := hid s1
  have hAT := at2 HO.out zs HZ.out
  have HASK : Hid (∀ (g l : Nat) (wx : World), g = w11.heap.size → l < n → J F G n g V (.slice q6 m d6) rv (.slice a5 n5 m5) ru (.slice q4 P d4) (.slice (some ⟨E, 0, none⟩) P P) (.slice q5 P d5) (.slice a13 n13 m13) (.slice a14 n14 m14) (.slice a19 n19 m19) w11 l wx → Calls Try.prog 18 #[.pointer (some ⟨F, 0, none⟩), .int .i64 l] wx fun e w' => e = .returned (.int .i32 (V l)) ∧ JX F G n g V (.slice q6 m d6) rv (.slice a5 n5 m5) ru (.slice q4 P d4) (.slice (some ⟨E, 0, none⟩) P P) (.slice q5 P d5) (.slice a13 n13 m13) (.slice a14 n14 m14) (.slice a19 n19 m19) w11 l w') := fun g l wx hg hl hj => by
    rw [hV] at hj ⊢
    exact J.ask hj hl l0 l2 hL HO.out.rl hwG hGF (by omega) hg hG11 hRet11 hAT s2 sr
  clear kB s0 s1 s2 sr hI11 hG11 hE11 hF11 hRet11 hAT hV HIns HK HI HG HE HF HRet HZ HO B8 B9 B11 C2 C3 C4 C5 C6 C7 C8 C9 L8 hRE hRI hRw
  go_wp2_with (at_make; refine wpList_make_full _ rfl _ _ 23 rfl 0 21 ii (.int .i32 0) 1 Try.underlying23 hi0 hz0 hz1 .i64 .i64 _ _ n rfl rfl rfl rfl (by rw [hz2]; omega) (by unfold maxLen; omega) (Nat.zero_le _) ?_; intro w12 hown hgrow)
  obtain ⟨g, hg⟩ : ∃ g, w11.heap.size = g := ⟨_, rfl⟩
  have hJ0 : J F G n g V (.slice q6 m d6) rv (.slice a5 n5 m5) ru (.slice q4 P d4) (.slice (some ⟨E, 0, none⟩) P P) (.slice q5 P d5) (.slice a13 n13 m13) (.slice a14 n14 m14) (.slice a19 n19 m19) w11 0 w12 := J.start HFI.out hg.symm hgrow (by rw [← hg]; exact hown)
  rw [hg] at lF11 hBf11 ⊢
  have HJ0 := hid hJ0
  clear hJ0 hown hgrow HFI
  go_loopg [20] n (fun k i wr => ∃ l : Nat, l + k = n ∧ i = .int .i64 l ∧ J F G n g V (.slice q6 m d6) rv (.slice a5 n5 m5) ru (.slice q4 P d4) (.slice (some ⟨E, 0, none⟩) P P) (.slice q5 P d5) (.slice a13 n13 m13) (.slice a14 n14 m14) (.slice a19 n19 m19) w11 l wr)
  case atStart => exact ⟨0, by omega, rfl, HJ0.out⟩
  case round =>
    obtain ⟨l, hl, rfl, hJ⟩ := hrel
    clear HJ0
    by_cases hlt : l < n
    · obtain ⟨b0, o0, rfl, hbF0, hbB0, hc0⟩ := HS0.out (by omega)
      obtain ⟨b1, o1, rfl, hbF1, hbB1, hc1⟩ := HS1.out (by omega)
      have HC0 : Hid (∀ wx, Kp F g w11 wx → ∀ i, i < n → wx.cell? ⟨b0, o0 + i, none⟩ = some (.int .i64 (PR i))) := fun wx hk i hi => by
        rw [World.cell?_of_block (w := w11) (w' := wx) (a := ⟨b0, o0 + i, none⟩) (hk.block b0 (by omega) hbF0)]
        exact hc0 i hi
      have HC1 : Hid (∀ wx, Kp F g w11 wx → ∀ i, i < n → wx.cell? ⟨b1, o1 + i, none⟩ = some (.int .i32 (PS i))) := fun wx hk i hi => by
        rw [World.cell?_of_block (w := w11) (w' := wx) (a := ⟨b1, o1 + i, none⟩) (hk.block b1 (by omega) hbF1)]
        exact hc1 i hi
      have HCI : Hid (∀ wx, Kp F g w11 wx → ∀ i, i < n → wx.cell? ⟨I, i, none⟩ = some (.bool (retOf FR RD m i))) := fun wx hk i hi => (HI11.out.block (hk.block I (by omega) (by omega))).cell i hi
      clear hc0 hc1
      have kI : wr.cell? ⟨I, l, none⟩ = some (.bool (retOf FR RD m l)) := HCI.out wr hJ.kp l hlt
      have HJ := hid hJ
      clear hJ
      by_cases hret : retOf FR RD m l = true
      · rw [hret] at kI
        have hv : V l = ((cnt PR PS FR RD m l n : Nat) : Int) := by rw [HRANK.out l hlt, want, if_pos hret]
        have HV := hid hv
        clear hv hret
        go_wp2_with fail
        go_loopg [21, 22] n (fun k s i wr => ∃ x : Nat, x + k = n ∧ i = .int .i64 x ∧ s = .int .i32 ((cnt PR PS FR RD m l x : Nat) : Int) ∧ J F G n g V (.slice q6 m d6) rv (.slice a5 n5 m5) ru (.slice q4 P d4) (.slice (some ⟨E, 0, none⟩) P P) (.slice q5 P d5) (.slice a13 n13 m13) (.slice a14 n14 m14) (.slice a19 n19 m19) w11 l wr)
        case atStart => exact ⟨0, by omega, rfl, rfl, HJ.out⟩
        case round =>
          obtain ⟨x, hx, rfl, rfl, hJ⟩ := hrel
          clear HJ kI
          by_cases hltx : x < n
          · have kx := HCI.out wr hJ.kp x hltx
            have ky := HC0.out wr hJ.kp x hltx
            have kl := HC0.out wr hJ.kp l hlt
            have kz := HC1.out wr hJ.kp x hltx
            have km := HC1.out wr hJ.kp l hlt
            have HJ := hid hJ
            have hcl : cnt PR PS FR RD m l x ≤ 4096 := Nat.le_trans (cnt_le PR PS FR RD m l x) (by omega)
            have HCN := hid (show cnt PR PS FR RD m l (x + 1) = if (retOf FR RD m x && before PR PS x l) = true then cnt PR PS FR RD m l x + 1 else cnt PR PS FR RD m l x from rfl)
            clear hJ
            obtain ⟨c, hc⟩ : ∃ c, cnt PR PS FR RD m l x = c := ⟨_, rfl⟩
            rw [hc] at hcl HCN ⊢
            clear hc
            have j1 : (0 : Int) ≤ (x : Int) := by omega
            have j2 : (x : Int) < (n : Int) := by omega
            have j3 : (0 : Int) ≤ (l : Int) := by omega
            have j4 : (l : Int) < (n : Int) := by omega
            go_wp2_with fail
            by_cases hrx : retOf FR RD m x = true
            · rw [hrx] at kx
              by_cases hp : PR x < PR l
              · have p1 : decide (PR x < PR l) = true := by simpa using hp
                have hcn : cnt PR PS FR RD m l (x + 1) = c + 1 := by rw [HCN.out, if_pos (by simp [hrx, before, hp])]
                clear HCN hrx
                have HCN := hid hcn
                clear hcn
                go_quiet (fail)
                go_wp2_with fail
                go_roundg (n - (x + 1))
                case measure => omega
                case rel => exact ⟨x + 1, by omega, by go_num, by rw [HCN.out]; go_num, HJ.out.drewN _⟩
              · have p1 : decide (PR x < PR l) = false := by simpa using hp
                by_cases he : PR x = PR l
                · have e1 : decide (PR x = PR l) = true := by simpa using he
                  have e2 : (PR x == PR l) = true := by simpa using he
                  by_cases hs : PS x < PS l
                  · have s1 : decide (PS x < PS l) = true := by simpa using hs
                    have hcn : cnt PR PS FR RD m l (x + 1) = c + 1 := by rw [HCN.out, if_pos (by simp [hrx, before, he, hs])]
                    clear HCN hrx
                    have HCN := hid hcn
                    clear hcn
                    go_quiet (fail)
                    go_wp2_with fail
                    go_roundg (n - (x + 1))
                    case measure => omega
                    case rel => exact ⟨x + 1, by omega, by go_num, by rw [HCN.out]; go_num, HJ.out.drewN _⟩
                  · have s1 : decide (PS x < PS l) = false := by simpa using hs
                    have hcn : cnt PR PS FR RD m l (x + 1) = c := by rw [HCN.out, if_neg (by simp [hrx, before, hp, hs])]
                    clear HCN hrx
                    have HCN := hid hcn
                    clear hcn
                    go_quiet (fail)
                    go_wp2_with fail
                    go_roundg (n - (x + 1))
                    case measure => omega
                    case rel => exact ⟨x + 1, by omega, by go_num, by rw [HCN.out], HJ.out.drewN _⟩
                · have e1 : decide (PR x = PR l) = false := by simpa using he
                  have e2 : (PR x == PR l) = false := by simpa using he
                  have hcn : cnt PR PS FR RD m l (x + 1) = c := by rw [HCN.out, if_neg (by simp [hrx, before, hp, he])]
                  clear HCN hrx
                  have HCN := hid hcn
                  clear hcn
                  go_quiet (fail)
                  go_wp2_with fail
                  go_roundg (n - (x + 1))
                  case measure => omega
                  case rel => exact ⟨x + 1, by omega, by go_num, by rw [HCN.out], HJ.out.drewN _⟩
            · have hrx' : retOf FR RD m x = false := by simpa using hrx
              rw [hrx'] at kx
              have hcn : cnt PR PS FR RD m l (x + 1) = c := by rw [HCN.out, if_neg (by simp [hrx'])]
              clear HCN hrx hrx'
              have HCN := hid hcn
              clear hcn
              go_quiet (fail)
              go_wp2_with fail
              go_roundg (n - (x + 1))
              case measure => omega
              case rel => exact ⟨x + 1, by omega, by go_num, by rw [HCN.out], HJ.out.drewN _⟩
          · obtain rfl : x = n := by omega
            have HA := hid (HASK.out g l wr hg.symm hlt hJ)
            clear hJ
            go_wp2_with fail
            refine HA.out.mono ?_
            rintro e w2 ⟨he, hJX⟩
            rw [HV.out] at he
            subst he
            obtain ⟨u0, y0⟩ := hJX.part.old l hlt
            have yz := hJX.part.fz l
            have HJX := hid hJX
            clear hJX HA
            go_wp2_with fail
            go_roundg (x - (l + 1))
            case measure => omega
            case rel => exact ⟨l + 1, by omega, by go_num, by have hN := HJX.out.next hlt lF11; rw [HV.out] at hN; exact hN⟩
      · have hret' : retOf FR RD m l = false := by simpa using hret
        rw [hret'] at kI
        have hv : V l = -1 := by rw [HRANK.out l hlt, want, if_neg hret]
        have HV := hid hv
        clear hv hret hret'
        have HA := hid (HASK.out g l wr hg.symm hlt HJ.out)
        go_wp2_with fail
        refine HA.out.mono ?_
        rintro e w2 ⟨he, hJX⟩
        rw [HV.out] at he
        subst he
        obtain ⟨u0, y0⟩ := hJX.part.old l hlt
        have yz := hJX.part.fz l
        have HJX := hid hJX
        clear hJX HA kI
        go_wp2_with fail
        go_roundg (n - (l + 1))
        case measure => omega
        case rel => exact ⟨l + 1, by omega, by go_num, by have hN := HJX.out.next hlt lF11; rw [HV.out] at hN; exact hN⟩
    · obtain rfl : l = n := by omega
      have HJ := hid hJ
      clear hJ HASK HRANK HS0 HS1 HI11
      go_wp2_with fail
      go_loopg [24] l (fun k i wr => ∃ x : Nat, x + k = l ∧ i = .int .i64 x ∧ J F G l g V (.slice q6 m d6) rv (.slice a5 n5 m5) ru (.slice q4 P d4) (.slice (some ⟨E, 0, none⟩) P P) (.slice q5 P d5) (.slice a13 n13 m13) (.slice a14 n14 m14) (.slice a19 n19 m19) w11 l wr)
      case atStart => exact ⟨0, by omega, rfl, HJ.out⟩
      case round =>
        obtain ⟨x, hx, rfl, hJ⟩ := hrel
        clear HJ
        by_cases hltx : x < l
        · have hX := hJ.x (by omega)
          have HA : Hid (∀ d, Calls Try.prog 18 #[.pointer (some ⟨F, 0, none⟩), .int .i64 x] (wr.drewN d) fun e w' => e = .returned (.int .i32 (V x)) ∧ w' = wr.drewN d) := fun d => ((hX.drewN d).ask hltx).mono fun e w' ⟨he, hw⟩ => ⟨he, hw.symm⟩
          have kg : wr.cell? ⟨g, x, none⟩ = some (.int .i32 (V x)) := hJ.part.cell x hltx
          have HJ := hid hJ
          clear hJ hX
          have j1 : (0 : Int) ≤ (x : Int) := by omega
          have j2 : (x : Int) < (l : Int) := by omega
          go_wp2_with fail
          go_quiet (first | (go_at_call 18; refine Calls.quiet_of_same (HA.out _)))
          go_wp2_with fail
          go_roundg (l - (x + 1))
          case measure => omega
          case rel => exact ⟨x + 1, by omega, by go_num, HJ.out.drewN _⟩
        · obtain ⟨idx, ixd, hFJ, hidx⟩ : ∃ idx ixd, FIs F G (.slice q6 m d6) rv (.slice a5 n5 m5) idx ixd ru (.slice q4 P d4) (.slice (some ⟨E, 0, none⟩) P P) (.slice q5 P d5) (.slice a13 n13 m13) (.slice a14 n14 m14) (.slice a19 n19 m19) wr ∧ (0 < l → ixd = true ∧ ∃ X, idx = .slice (some ⟨X, 0, none⟩) l l) := by
            rcases hJ.ix with ⟨h1, h2⟩ | ⟨X, _, h2, _⟩
            · exact ⟨_, _, h2, fun h => by omega⟩
            · exact ⟨_, _, h2, fun _ => ⟨rfl, X, rfl⟩⟩
          have hRetJ : Ret F rv zs.length (hiOf zs) (loOf zs) wr := HRet11.out.kept (fun k hk h2 => hJ.kp.block k (by omega) h2)
          have hPCJ : PartC Bf zs.length zs.length (rcs (hiOf zs) (loOf zs) zs.length) wr := HPC.out.block (hJ.kp.block Bf (by omega) (by omega))
          have hEJ : Row 75 E P (fun _ => nilV) wr := HE11.out.block (hJ.kp.block E (by omega) (by omega))
          have CJ := hid (C11.out.trans (hJ.kp.below hwF (by omega)))
          have HFJ := hid hFJ
          have HPCJ := hid hPCJ
          have HEJ := hid hEJ
          have HR20 := hid (returned20 F G zs.length (hiOf zs) (loOf zs) _ _ _ _ _ _ _ _ _ _ _ _ wr hL hFJ hRetJ)
          have HIDX := hid hidx
          clear hFJ hRetJ hPCJ hEJ hJ HPC HRet11 HE11 C11 hidx
          go_wp2_with fail
          refine HR20.out.mono ?_
          rintro e w13 ⟨rfl, hPD, b13⟩
          have lBf := HPCJ.out.lt
          have hPC13 : PartC Bf zs.length zs.length (rcs (hiOf zs) (loOf zs) zs.length) w13 := HPCJ.out.block (b13.block Bf lBf)
          have HF13 := hid (HFJ.out.block (b13.block F HFJ.out.lt))
          have HE13 := hid (HEJ.out.block (b13.block E HEJ.out.lt))
          have C13 := hid (CJ.out.trans (b13.mono CJ.out.size))
          obtain ⟨Bg, hBg⟩ : ∃ Bg, wr.heap.size = Bg := ⟨_, rfl⟩
          rw [hBg] at hPD ⊢
          have HPD := hid hPD
          have HPC13 := hid hPC13
          clear hPD hPC13 b13 HR20 HPCJ HFJ HEJ CJ
          go_wp2_with fail
          go_loopg [26] zs.length (fun k i wr => ∃ (x d : Nat), x + k = zs.length ∧ i = .int .i64 x ∧ wr = w13.drewN d)
          case atStart => exact ⟨0, 0, by omega, rfl, rfl⟩
          case round =>
            obtain ⟨x, d, hx, rfl, rfl⟩ := hrel
            by_cases hltx : x < zs.length
            · have e0 : w13.cell? ⟨Bg, x * 10, none⟩ = some (.int .i32 (hiOf zs x)) := HPD.out.cell x 0 hltx (by omega)
              have e1 : w13.cell? ⟨Bg, x * 10 + 1, none⟩ = some (.int .i32 (loOf zs x)) := HPD.out.cell x 1 hltx (by omega)
              have e2 : w13.cell? ⟨Bg, x * 10 + 2, none⟩ = some (.bool false) := HPD.out.cell x 2 hltx (by omega)
              have e3 : w13.cell? ⟨Bg, x * 10 + 3, none⟩ = some (.bool false) := HPD.out.cell x 3 hltx (by omega)
              have e4 : w13.cell? ⟨Bg, x * 10 + 4, none⟩ = some (.int .i32 0) := HPD.out.cell x 4 hltx (by omega)
              have e5 : w13.cell? ⟨Bg, x * 10 + 5, none⟩ = some (.int .i32 0) := HPD.out.cell x 5 hltx (by omega)
              have e6 : w13.cell? ⟨Bg, x * 10 + 6, none⟩ = some (.int .i32 0) := HPD.out.cell x 6 hltx (by omega)
              have e7 : w13.cell? ⟨Bg, x * 10 + 7, none⟩ = some (.int .i32 0) := HPD.out.cell x 7 hltx (by omega)
              have e8 : w13.cell? ⟨Bg, x * 10 + 8, none⟩ = some (.int .i32 0) := HPD.out.cell x 8 hltx (by omega)
              have e9 : w13.cell? ⟨Bg, x * 10 + 9, none⟩ = some (.int .i32 (-1)) := HPD.out.cell x 9 hltx (by omega)
              have f0 : w13.cell? ⟨Bf, x * 10, none⟩ = some (.int .i32 (hiOf zs x)) := HPC13.out.cell x 0 hltx (by omega)
              have f1 : w13.cell? ⟨Bf, x * 10 + 1, none⟩ = some (.int .i32 (loOf zs x)) := HPC13.out.cell x 1 hltx (by omega)
              have f2 : w13.cell? ⟨Bf, x * 10 + 2, none⟩ = some (.bool false) := HPC13.out.cell x 2 hltx (by omega)
              have f3 : w13.cell? ⟨Bf, x * 10 + 3, none⟩ = some (.bool false) := HPC13.out.cell x 3 hltx (by omega)
              have f4 : w13.cell? ⟨Bf, x * 10 + 4, none⟩ = some (.int .i32 0) := HPC13.out.cell x 4 hltx (by omega)
              have f5 : w13.cell? ⟨Bf, x * 10 + 5, none⟩ = some (.int .i32 0) := HPC13.out.cell x 5 hltx (by omega)
              have f6 : w13.cell? ⟨Bf, x * 10 + 6, none⟩ = some (.int .i32 0) := HPC13.out.cell x 6 hltx (by omega)
              have f7 : w13.cell? ⟨Bf, x * 10 + 7, none⟩ = some (.int .i32 0) := HPC13.out.cell x 7 hltx (by omega)
              have f8 : w13.cell? ⟨Bf, x * 10 + 8, none⟩ = some (.int .i32 0) := HPC13.out.cell x 8 hltx (by omega)
              have f9 : w13.cell? ⟨Bf, x * 10 + 9, none⟩ = some (.int .i32 (-1)) := HPC13.out.cell x 9 hltx (by omega)
              obtain ⟨a, ha⟩ : ∃ a, hiOf zs x = a := ⟨_, rfl⟩
              obtain ⟨b, hb⟩ : ∃ b, loOf zs x = b := ⟨_, rfl⟩
              rw [ha] at e0 f0
              rw [hb] at e1 f1
              clear ha hb
              have j1 : (0 : Int) ≤ (x : Int) := by omega
              have j2 : (x : Int) < (zs.length : Int) := by omega
              go_wp2_with fail
              go_quiet (fail)
              go_wp2_with fail
              go_roundg (zs.length - (x + 1))
              case measure => omega
              case rel => exact ⟨x + 1, _, by omega, by go_num, rfl⟩
            · clear HPD HPC13
              by_cases hl0 : l = 0
              · subst hl0
                go_wp2_with fail
                go_ret
                exact ⟨rfl, C13.out.trans ⟨rfl, rfl, rfl, Nat.le_refl _, fun _ _ => rfl⟩⟩
              · obtain ⟨rfl, X, rfl⟩ := HIDX.out (by omega)
                have HS21 := hid (state21 F G E P rv ru _ _ _ _ _ _ _ _ _ _ _ _ _ _ _ _ _ _ _ _ _ _ _ _ true (w13.drewN d) l2 hEF HF13.out HE13.out)
                have hl1 : (0 : Int) < (l : Int) := by omega
                go_wp2_with fail
                refine HS21.out.mono ?_
                rintro e w14 ⟨⟨la, ln, lc, rfl⟩, b14⟩
                have C14 := hid ((C13.out.trans (c := w13.drewN d) ⟨rfl, rfl, rfl, Nat.le_refl _, fun _ _ => rfl⟩).trans (b14.mono C13.out.size))
                clear HS21 C13 b14
                go_wp2_with fail
                go_ret
                exact ⟨rfl, C14.out.alloc C14.out.size _⟩

/-- THE LAW AT EVERY INPUT. -/
theorem law (n n1 P n3 n4 n5 m c0 c1 c2 c3 c4 c5 c6 : Nat) (pa0 pa1 pa2 pa3 pa4 pa5 pa6 : Option Addr) (PR PS FR RO WA RD : Nat → Int) (RA : Nat → Option Addr) (RL RC : Nat → Nat) (BP : Nat → Nat → Int) (w : World)
    (hPS : ∀ i, i < n1 → PS i ≤ 2147483647)
    (h0 : Sg w.heap.size w.heap.size pa0 n (fun i => .int .i64 (PR i)) w) (h1 : Sg w.heap.size w.heap.size pa1 n1 (fun i => .int .i32 (PS i)) w) (h2 : Sg w.heap.size w.heap.size pa2 P (fun q => .slice (RA q) (RL q) (RC q)) w) (hr : ∀ q, q < P → Sg w.heap.size w.heap.size (RA q) (RL q) (fun i => .int .i64 (BP q i)) w)
    (h3 : Sg w.heap.size w.heap.size pa3 n3 (fun i => .int .i64 (FR i)) w) (h4 : Sg w.heap.size w.heap.size pa4 n4 (fun i => .int .i32 (RO i)) w) (h5 : Sg w.heap.size w.heap.size pa5 n5 (fun i => .int .i32 (WA i)) w) (h6 : Sg w.heap.size w.heap.size pa6 m (fun i => .int .i64 (RD i)) w) :
    Calls Try.prog 5 #[.slice pa0 n c0, .slice pa1 n1 c1, .slice pa2 P c2, .slice pa3 n3 c3, .slice pa4 n4 c4, .slice pa5 n5 c5, .slice pa6 m c6] w fun e w' => Lawful w e w' := by
  by_cases hl : n ≤ 4096 ∧ n1 ≤ 4096 ∧ P ≤ 4096 ∧ n3 ≤ 4096 ∧ n4 ≤ 4096 ∧ n5 ≤ 4096 ∧ m ≤ 4096
  · obtain ⟨l0, l1, l2, l3, l4, l5, l6⟩ := hl
    by_cases hf : Fits n n1 n3 n4 n5 P
    · obtain ⟨rfl, rfl, rfl, rfl⟩ := hf
      exact law_main _ _ m c0 c1 c2 c3 c4 c5 c6 pa0 pa1 pa2 pa3 pa4 pa5 pa6 PR PS FR RO WA RD RA RL RC BP w l0 l2 l6 hPS h0 h1 h2 hr h3 h4 h5 h6
    · exact law_unfit n n1 P n3 n4 n5 m c0 c1 c2 c3 c4 c5 c6 pa0 pa1 pa2 pa3 pa4 pa5 pa6 RA RL RC w h2 l0 l1 l2 l3 l4 l5 l6 hf
  · exact law_long n n1 P n3 n4 n5 m c0 c1 c2 c3 c4 c5 c6 pa0 pa1 pa2 pa3 pa4 pa5 pa6 RA RL RC w h2 hl
end Go.Proofs.Qxb6605223a
