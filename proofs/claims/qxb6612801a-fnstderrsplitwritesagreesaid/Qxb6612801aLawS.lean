/-
  THE WALK of FnStderrSplitWritesAgree. By an AI agent.
-/
import Derived.Test.Qxb6612801aSplit
namespace Go.Proofs.Qxb6612801a.LawS
open Go.RowKit Go.MuLone Tail

set_option maxHeartbeats 2000000 in
set_option maxRecDepth 100000 in
theorem walk_main (a0 a1 : Option Addr) (len0 cap0 len1 cap1 : Nat) (xa xb : List UInt8) (w : World) (h0 : Src w.heap.size w (.slice a0 len0 cap0) xa) (h1 : Src w.heap.size w (.slice a1 len1 cap1) xb) (n0 : xa.length = len0) (n1 : xb.length = len1) (hl : len0 + len1 ≤ 1048576) :
    Calls Try.prog 4 #[.slice a0 len0 cap0, .slice a1 len1 cap1] w fun e w' => e = .returned (.bool true) ∧ Below w.heap.size w w' := by
  have cB := bytes_any a0 a1 len0 cap0 len1 cap1 w (by unfold maxLen; omega) (by unfold maxLen; omega)
  have i0 : (len0 : Int) + len1 ≤ 1048576 := by omega
  have H0 := hidden h0
  have H1 := hidden h1
  have N0 := hidden n0
  have N1 := hidden n1
  clear h0 h1 n0 n1
  have q24 : ∀ (w : World) (a : Option Addr) (n c : Nat), (binOp .neq 24 (.slice a n c) (.slice none 0 0)).run Try.prog w = .ok (.bool (!a.isNone)) w := fun w a n c => run_neq_slice_nil_any w 24 5 a n c 0 0 Try.underlying24
  obtain ⟨i5, hi, hz0, hz1, hz2⟩ := info_parts info5
  go_enter Try.func4, Try.ntmps4
  go_wp2_with fail
  refine cB.mono ?_
  rintro e w9 ⟨⟨bo, rfl⟩, rfl⟩
  cases bo
  · go_wp2
    go_ret
    exact ⟨rfl, Below.refl _ _⟩
  · clear cB
    go_upto_if 34 with fail
    go_cut [0] (fun v wc => Hid (Src wc.heap.size wc v xa ∧ Below w.heap.size w wc))
    case first =>
      cases a0 with
      | none =>
        go_wp2_with fail
        go_meet
        case rel => exact ⟨H0.out, Below.refl _ _⟩
      | some ad =>
        go_wp2_with (first | (refine wpList_make_full _ rfl _ _ 24 rfl w.heap.size 5 i5 (.int .u8 0) 1 Try.underlying24 hi hz0 hz1 .i64 .i64 _ _ len0 rfl rfl rfl rfl (by rw [hz2]; omega) (by unfold maxLen; omega) (Nat.le_refl _) ?_; intro w1 hown1 hgrow1; have HM := hidden hown1; have HG := hidden (below_made hgrow1); clear hown1 hgrow1) | (refine copy_src rfl (.tmp 38) (.tmp 39) rfl HM.out rfl (src_later H0.out HG.out) rfl N0.out ?_; intro w2 hs2 hb2; have HS2 := hidden hs2; have HB2 := hidden (HG.out.trans hb2); clear hs2 hb2))
        go_meet
        case rel => exact ⟨HS2.out, HB2.out⟩
    case rest =>
      clear H0
      obtain ⟨wA, hwA⟩ : ∃ wA : World, wA = wc := ⟨_, rfl⟩
      subst hwA
      obtain ⟨ov, oc, hv⟩ := src_slice hcut.out.1
      rw [hv] at hcut
      subst hv
      rw [N0.out] at hcut ⊢
      have HA := hcut
      have H1' := hidden (src_later H1.out HA.out.2)
      have hws := HA.out.2.size
      clear hcut H1
      go_upto_if 43 with fail
      go_cut [1] (fun v wd => Hid (Src wd.heap.size wd v xb ∧ Below wA.heap.size wA wd))
      case first =>
        cases a1 with
        | none =>
          go_wp2_with fail
          go_meet
          case rel => exact ⟨src_mono H1'.out hws, Below.refl _ _⟩
        | some ad =>
          go_wp2_with (first | (refine wpList_make_full _ rfl _ _ 24 rfl wA.heap.size 5 i5 (.int .u8 0) 1 Try.underlying24 hi hz0 hz1 .i64 .i64 _ _ len1 rfl rfl rfl rfl (by rw [hz2]; omega) (by unfold maxLen; omega) (Nat.le_refl _) ?_; intro w1 hown1 hgrow1; have HM := hidden hown1; have HG := hidden (below_made hgrow1); clear hown1 hgrow1) | (refine copy_src rfl (.tmp 47) (.tmp 48) rfl HM.out rfl (src_later H1'.out (HG.out.mono hws)) rfl N1.out ?_; intro w2 hs2 hb2; have HS2 := hidden hs2; have HB2 := hidden (HG.out.trans hb2); clear hs2 hb2))
          go_meet
          case rel => exact ⟨HS2.out, HB2.out⟩
      case rest =>
        clear H1'
        obtain ⟨wd, hwd⟩ : ∃ wd : World, wd = wc := ⟨_, rfl⟩
        subst hwd
        obtain ⟨ov1, oc1, hv⟩ := src_slice hcut.out.1
        rw [hv] at hcut
        subst hv
        rw [N1.out] at hcut ⊢
        have HB := hcut
        have HAd := hidden (src_mono (src_later HA.out.1 HB.out.2) HB.out.2.size)
        have HWd := hidden (HA.out.2.trans (HB.out.2.mono hws))
        have HS : Hid (wA.heap.size ≤ wd.heap.size) := HB.out.2.size
        clear hcut HA
        have HBs := hidden HB.out.1
        obtain ⟨N, hN⟩ : ∃ N : Nat, N = len0 + len1 := ⟨_, rfl⟩
        have iN : (len0 : Int) + len1 = N := by omega
        have HX : Hid ((xa ++ xb).length = N) := by show _ = _; rw [List.length_append, N0.out, N1.out, hN]
        have iN2 : (N : Int) ≤ 1048576 := by omega
        clear HB hN
        go_upto_region 19 with (first | (refine wpList_make_own _ rfl _ _ 24 rfl wd.heap.size 5 i5 (.int .u8 0) 1 Try.underlying24 hi hz0 hz1 .i64 .i64 _ N rfl rfl (by omega) (by rw [hz2]; omega) (by unfold maxLen; omega) (Nat.le_refl _) ?_; intro w1 hown1 hgrow1; have HM := hidden hown1; have HG := hidden (below_made hgrow1); clear hown1 hgrow1) | (at_builtin; refine app_src rfl (.tmp 57) (.tmp 58) rfl (xs := []) HM.out rfl (src_later HAd.out HG.out) rfl (by rw [N0.out]; simp; omega) HG.out.size ?_; intro v2 w2 hown2 hb2; rw [List.nil_append] at hown2; have HM2 := hidden hown2; have HG2 := hidden (HG.out.trans hb2); clear hown2 hb2) | (at_builtin; refine app_src rfl (.tmp 60) (.tmp 61) rfl HM2.out rfl (src_later HBs.out HG2.out) rfl (by rw [N0.out, N1.out]; omega) HG2.out.size ?_; intro v3 w3 hown3 hb3; rw [HX.out] at hown3; obtain ⟨o3, c3, hv3, hc3⟩ := own_slice hown3; subst hv3; have HM3 := hidden hown3; have HG3 := hidden (HG2.out.trans hb3); clear hown3 hb3))
        go_cut [75] (fun v wc => ∃ bo : Bool, v = .bool bo ∧ Hid (bo = decide ((xa ++ xb).getLast? = some 10)) ∧ wc = w3)
        case first =>
          by_cases hp : 0 < N
          · obtain ⟨g, L, l, b, rfl, rfl, hX, hL, hcL, hcell, hall⟩ := last_of HM3.out HX.out hp
            have HXX := hidden hX
            clear hX hL hall
            rw [show cb b = .int .u8 (b.toNat : Int) from rfl] at hcell
            cases hq : ((b.toNat : Int) == 10)
            · go_wp2
              go_meet
              case rel => exact ⟨_, rfl, by show _ = _; rw [HXX.out, ← last_bool l b, hq], rfl⟩
            · go_wp2
              go_meet
              case rel => exact ⟨_, rfl, by show _ = _; rw [HXX.out, ← last_bool l b, hq], rfl⟩
          · obtain rfl : N = 0 := by omega
            go_wp2_with fail
            go_meet
            case rel => exact ⟨_, rfl, by show _ = _; rw [List.eq_nil_of_length_eq_zero HX.out]; rfl, rfl⟩
        case rest =>
          obtain ⟨bo, rfl, hbo, hw3⟩ := hcut
          replace hw3 := hw3.symm
          subst hw3
          go_upto_if 75 with fail
          go_cut [8] (fun v wc => Hid (Sl w3 v (trim (xa ++ xb))) ∧ wc = w3)
          case first =>
            cases bo
            · go_wp2_with fail
              go_meet
              case rel => exact ⟨by show Sl _ _ _; rw [trim_same hbo.out.symm]; exact own_src HM3.out HX.out, rfl⟩
            · obtain ⟨g, L, l, b, rfl, rfl, hX, hL, hcL, hcell, hall⟩ := last_of HM3.out HX.out (by have := last_ten hbo.out.symm; have := HX.out; omega)
              have HSL : Hid (Sl w3 (.slice (some ⟨g, 0, none⟩) L c3) (trim (xa ++ xb))) := by
                have hb := snoc_ten hX hbo.out.symm
                subst hb
                show Sl _ _ _
                rw [hX] at hall ⊢
                exact sl_init hL hcL hall
              clear hX hL hall
              go_wp2_with fail
              go_meet
              case rel => exact ⟨HSL, rfl⟩
          case rest =>
            obtain ⟨HSL, hw3⟩ := hcut
            replace hw3 := hw3.symm
            subst hw3
            generalize u8 = vt at *
            have HSrc := hidden (sl_src (own_src HM3.out HX.out))
            have hs3 : wd.heap.size ≤ w3.heap.size := HG3.out.size
            clear hbo
            go_wp2_with (first | (refine wpList_make_full _ rfl _ _ 24 rfl w3.heap.size 5 i5 (.int .u8 0) 1 Try.underlying24 hi hz0 hz1 .i64 .i64 _ _ N rfl rfl rfl rfl (by rw [hz2]; omega) (by unfold maxLen; omega) (Nat.le_refl _) ?_; intro w4 hown4 hgrow4; have HM4 := hidden hown4; have HG4 := hidden (below_made hgrow4); clear hown4 hgrow4) | (refine copy_src rfl (.tmp 84) (.tmp 85) rfl HM4.out rfl (src_later HSrc.out HG4.out) rfl HX.out ?_; intro w5 hs5 hb5; have HS5 := hidden hs5; have HB5 := hidden (HG4.out.trans hb5); clear hs5 hb5))
            refine (new_any _).mono ?_
            rintro e w6 ⟨rfl, hst6, hb6⟩
            have hs5 : w3.heap.size ≤ w5.heap.size := HB5.out.size
            have hs35 : wd.heap.size ≤ w5.heap.size := Nat.le_trans hs3 hs5
            have HD5 := hidden (HG3.out.trans (HB5.out.mono hs3))
            have HA6 := hidden (src_mono (src_later HAd.out (HD5.out.trans (hb6.mono hs35))) hs35)
            have HB6 := hidden (src_mono (src_later HBs.out (HD5.out.trans (hb6.mono hs35))) hs35)
            have HS6 := hidden (src_later HS5.out hb6)
            have H36 := hidden (HB5.out.trans (hb6.mono hs5))
            have HST6 := hidden hst6
            clear hst6 hb6 HM4 HG4 HS5 HSrc
            generalize w5.heap.size = pb1 at *
            have cW1 := zzwrite_any pb1 [] xa _ w6 HST6.out HA6.out (by rw [N0.out]; omega)
            rw [N0.out, List.nil_append] at cW1
            go_wp2_with fail
            refine cW1.mono ?_
            rintro e w7 ⟨rfl, hst7, hb7⟩
            clear cW1
            have cW2 := zzwrite_any pb1 xa xb _ w7 hst7 (src_later HB6.out hb7) (by rw [N1.out]; omega)
            rw [N1.out] at cW2
            have HB7 := hidden hb7
            clear hst7 hb7
            go_wp2_with fail
            refine cW2.mono ?_
            rintro e w8 ⟨rfl, hst8, hb8⟩
            clear cW2
            have HST8 := hidden hst8
            have HB8 := hidden (HB7.out.trans hb8)
            clear hst8 hb8
            go_wp2_with fail
            refine (new_any _).mono ?_
            rintro e w9 ⟨rfl, hst9, hb9⟩
            have hp12 := st_lt HST8.out
            have HB9 := hidden hb9
            have HST9 := hidden hst9
            have HS9 := hidden (src_mono (src_later HS6.out (HB8.out.trans (hb9.mono (Nat.le_of_lt hp12)))) (Nat.le_of_lt hp12))
            have HK8 : Hid (∀ j, pb1 ≤ j → j < w8.heap.size → w9.heap[j]? = w8.heap[j]?) := fun j _ hj => hb9.block j hj
            have H39 := hidden (H36.out.trans ((HB8.out.trans (hb9.mono (Nat.le_of_lt hp12))).mono hs5))
            clear hst9 hb9 HB6 HS6 HA6
            generalize hpb2 : w8.heap.size = pb2 at *
            have HP2 := hidden hpb2
            clear hpb2
            have cW3 := zzwrite_any pb2 [] (xa ++ xb) _ w9 HST9.out HS9.out (by rw [HX.out]; omega)
            rw [HX.out, List.nil_append] at cW3
            go_wp2_with fail
            refine cW3.mono ?_
            rintro e wX ⟨rfl, hstX, hbX⟩
            have HSTX := hidden hstX
            have HS1 := hidden (st_keep HST8.out (Nat.le_trans HB9.out.size hbX.size) (fun j h1 h2 => (hbX.block j (by rw [HP2.out] at h2; exact h2)).trans (HB9.out.block j (by rw [HP2.out] at h2; exact h2))))
            have H3X := hidden (H39.out.trans (hbX.mono (Nat.le_trans hs5 (Nat.le_of_lt hp12))))
            clear cW3 hstX hbX HST8 HST9 HB9 HS9 HK8
            obtain ⟨S, HSS⟩ : ∃ S : ByteArray, Hid (S = ⟨(out (xa ++ xb)).toArray⟩) := ⟨_, rfl⟩
            have cS1 := stderr_any pb1 (xa ++ xb) wX HS1.out
            rw [← HSS.out] at cS1
            go_wp2_with fail
            refine cS1.mono ?_
            rintro e wY ⟨rfl, hgY⟩
            have cS2 := stderr_any pb2 (xa ++ xb) wY (st_keep HSTX.out hgY.size (fun j h1 h2 => hgY.block j h2 (fun e => by injection e with e; omega)))
            rw [← HSS.out] at cS2
            have hlX : pb2 < wX.heap.size := st_lt HSTX.out
            have H3Y := hidden (H3X.out.grown hgY (Nat.le_trans hs5 (by omega)) (by intro k hk; injection hk with hk; omega))
            have hlY : pb2 < wY.heap.size := Nat.lt_of_lt_of_le hlX hgY.size
            clear cS1 hgY
            go_wp2_with fail
            refine cS2.mono ?_
            rintro e wZ ⟨rfl, hgZ⟩
            have H3Z := hidden (H3Y.out.grown hgZ (by omega) (by intro k hk; injection hk with hk; omega))
            have HF := hidden (HWd.out.trans ((HG3.out.trans (H3Z.out.mono hs3)).mono (HWd.out.size)))
            have HSZ := hidden (sl_later HSL.out (fun j hj => H3Z.out.block j hj))
            clear cS2 hgZ
            obtain ⟨p, hp⟩ := out_suffix (xa ++ xb)
            have hsl : S.data.toList = out (xa ++ xb) := by rw [HSS.out]
            have hss : S.size ≤ 2048 := by rw [Lib.size_eq, hsl]; exact out_len _
            have hpl : p.length + S.size ≤ 1048576 := by
              have h1 := trim_len (xa ++ xb)
              rw [hp, List.length_append, ← hsl, ← Lib.size_eq, HX.out] at h1
              omega
            have cF := suf_any vt p S wZ (by rw [hsl, ← hp]; exact HSZ.out) (by omega)
            have hsz : (S.size : Int) ≤ 2048 := by omega
            have HS := hidden hsl
            clear hsl hp hss hpl
            go_wp2_with fail
            refine cF.mono ?_
            rintro e w13 ⟨rfl, nd, hw13⟩
            have HZ : Hid (Sl w13 vt (trim (xa ++ xb))) := by rw [hw13]; exact sl_later HSZ.out (fun j _ => rfl)
            have HF13 : Hid (Below w.heap.size w w13) := by rw [hw13]; exact ⟨HF.out.os, HF.out.tape, HF.out.output, HF.out.size, HF.out.block⟩
            clear cF hw13
            have hconv := sl_conv HZ.out
            by_cases hsm : N ≤ 2048
            · rw [← out_small (xs := xa ++ xb) (by rw [HX.out]; exact hsm), ← HSS.out] at hconv
              have hsmi : (N : Int) ≤ 2048 := by omega
              go_wp2_with fail
              all_goals go_ret
              all_goals exact ⟨rfl, HF13.out⟩
            · have hsmi : ¬ ((N : Int) ≤ 2048) := by omega
              clear hconv
              go_wp2_with fail
              all_goals go_ret
              all_goals exact ⟨rfl, HF13.out⟩

end Go.Proofs.Qxb6612801a.LawS
