/-
  THE WALK of FnStderrMatchesTailModel. By an AI agent.
-/
import Derived.Test.Qxb6612801aWrite
import Derived.Test.Qxb6612801aModel
namespace Go.Proofs.Qxb6612801a.LawM
open Go.RowKit Go.MuLone Tail

/-- What is known of the chunks: each a slice of bytes in old memory; where there is one, they lie side by side. -/
def Chunks (w : World) (a : Option Addr) (len : Nat) (vf : Nat → Value) (bf : Nat → List UInt8) : Prop :=
  (∀ i, i < len → Src w.heap.size w (vf i) (bf i)) ∧ (∀ i, i < len → (bf i).length ≤ maxLen) ∧ (0 < len → ∃ b off, a = some ⟨b, off, none⟩ ∧ b < w.heap.size ∧ ∀ i, i < len → w.cell? ⟨b, off + i, none⟩ = some (vf i))
theorem src_slice {pb : Nat} {w : World} {v : Value} {bs : List UInt8} (h : Src pb w v bs) : ∃ o c, v = .slice o bs.length c := by
  rcases h with ⟨rfl, rfl⟩ | ⟨ad, c, rfl, _⟩
  · exact ⟨none, 0, rfl⟩
  · exact ⟨_, c, rfl⟩
def Told (len : Nat) (bf : Nat → List UInt8) (e : Ending) : Prop := ∃ b, e = .returned (.bool b) ∧ (b = true → len ≤ 1048576 ∧ ∀ i, i < len → (bf i).length ≤ 1048576)

set_option maxHeartbeats 1000000 in
theorem bytes_any (a0 : Option Addr) (len0 cap0 : Nat) (vf : Nat → Value) (bf : Nat → List UInt8) (w : World) (hk : Chunks w a0 len0 vf bf) (hl0 : len0 ≤ maxLen) :
    Calls Try.prog 5 #[.slice a0 len0 cap0] w fun e w' => Told len0 bf e ∧ w = w' := by
  have i0 : (len0 : Int) ≤ 9223372036854775807 := by unfold maxLen at hl0; omega
  clear hl0
  have HK := hidden hk
  clear hk
  by_cases h0 : (1048576 : Int) < len0
  · go_enter Try.func5, Try.ntmps5
    go_wp2
    go_ret
    exact ⟨⟨false, rfl, by simp⟩, rfl⟩
  · go_enter Try.func5, Try.ntmps5
    go_wp2
    go_loop [3, 4] (fun zn i => ∃ (k : Nat) (t : Int), k ≤ len0 ∧ i = .int .i64 k ∧ zn = .int .i64 t ∧ 0 ≤ t ∧ t ≤ 1048576 ∧ Hid (∀ i, i < k → (bf i).length ≤ 1048576)) (fun _ i => len0 - (intOf i).toNat)
    case atStart => exact ⟨0, len0, by omega, rfl, rfl, by omega, by omega, fun i hi => absurd hi (Nat.not_lt_zero _)⟩
    case round =>
      obtain ⟨k, t, hk, rfl, rfl, t0, t1, hall⟩ := hrel
      by_cases hlt : k < len0
      · obtain ⟨b, off, rfl, hb, hcs⟩ := HK.out.2.2 (by omega)
        have hc := hcs k hlt
        have hsz := HK.out.2.1 k hlt
        obtain ⟨o, c, hv⟩ := src_slice (HK.out.1 k hlt)
        rw [hv] at hc
        clear hcs hv
        generalize hn : (bf k).length = n at *
        have HN := hidden hn
        have hsz' : (n : Int) ≤ 9223372036854775807 := by unfold maxLen at hsz; omega
        clear hsz hn
        go_wp2
        · go_ret
          exact ⟨⟨false, rfl, by simp⟩, rfl⟩
        · go_ret
          exact ⟨⟨false, rfl, by simp⟩, rfl⟩
        · go_round
          case rel =>
            refine ⟨k + 1, _, by omega, by go_num, rfl, by omega, by omega, fun i hi => ?_⟩
            by_cases hik : i = k
            · rw [hik, HN.out]; omega
            · exact hall.out i (by omega)
          case measure => simp [intOf]; omega
      · have hke : k = len0 := by omega
        subst hke
        go_wp2
        go_ret
        exact ⟨⟨true, rfl, fun _ => ⟨by omega, hall.out⟩⟩, rfl⟩

/-- All bytes of the first n chunks. -/
def cat (bf : Nat → List UInt8) (n : Nat) : List UInt8 := (List.range n).flatMap bf
theorem cat_succ (bf : Nat → List UInt8) (n : Nat) : cat bf (n + 1) = cat bf n ++ bf n := by
  unfold cat; rw [List.range_succ, List.flatMap_append]; simp
theorem cat_len (bf : Nat → List UInt8) (n : Nat) : (cat bf (n + 1)).length = (cat bf n).length + (bf n).length := by rw [cat_succ, List.length_append]
theorem cat_le (bf : Nat → List UInt8) {m n : Nat} (h : m ≤ n) : (cat bf m).length ≤ (cat bf n).length := by
  induction n with
  | zero => obtain rfl : m = 0 := by omega
            exact Nat.le_refl _
  | succ n ih =>
    by_cases hm : m = n + 1
    · rw [hm]; exact Nat.le_refl _
    · rw [cat_len]; have := ih (by omega); omega
theorem owner (v : Value) : v.ownBlock = none ∨ v.ownBlock ≠ none := by
  by_cases h : v.ownBlock = none
  · exact Or.inl h
  · exact Or.inr h
theorem far {v : Value} {pb : Nat} (h : ∀ j, v.ownBlock = some j → j < pb) : v.ownBlock ≠ some pb := fun e => by have := h pb e; omega
theorem kept_below {B pb n : Nat} {v : Value} {xs : List Value} {w w' : World} (h : w.ownsRow B 5 1 v n xs) (hb : Below pb w w') (hv : ∀ j, v.ownBlock = some j → j < pb) : w'.ownsRow B 5 1 v n xs := by
  refine ⟨h.1, ?_⟩
  rcases h.2 with h2 | ⟨g, cap, cur, rfl, h3, h4, h5⟩
  · exact Or.inl h2
  · exact Or.inr ⟨g, cap, cur, rfl, h3, by rw [hb.block g (hv g rfl)]; exact h4, h5⟩
theorem lt_of {B n : Nat} {v : Value} {xs : List Value} {w : World} (h : w.ownsRow B 5 1 v n xs) : ∀ j, v.ownBlock = some j → j < w.heap.size := fun j hj => (h.lt j hj).2
theorem src_later {pb : Nat} {w w' : World} {v : Value} {bs : List UInt8} (h : Src pb w v bs) (hb : Below pb w w') : Src pb w' v bs := by
  rcases h with h | ⟨ad, c, rfl, had, hc⟩
  · exact Or.inl h
  · refine Or.inr ⟨ad, c, rfl, had, fun j u hj => ?_⟩
    have hpos : 0 < bs.length := by have := (List.getElem?_eq_some_iff.1 hj).1; simp at this; omega
    rw [hb.cell (by rw [show (ad.add j).block = ad.block by unfold Addr.add; split <;> rfl]; exact had hpos)]
    exact hc j u hj
theorem src_mono {pb pb' : Nat} {w : World} {v : Value} {bs : List UInt8} (h : Src pb w v bs) (hp : pb ≤ pb') : Src pb' w v bs := by
  rcases h with h | ⟨ad, c, rfl, had, hc⟩
  · exact Or.inl h
  · exact Or.inr ⟨ad, c, rfl, fun h => by have := had h; omega, hc⟩

set_option maxHeartbeats 2000000 in
set_option maxRecDepth 100000 in
theorem walk_main (a0 : Option Addr) (len0 cap0 : Nat) (vf : Nat → Value) (bf : Nat → List UInt8) (w : World) (hk : Chunks w a0 len0 vf bf) (hl0 : len0 ≤ maxLen) :
    Calls Try.prog 3 #[.slice a0 len0 cap0] w fun e w' => e = .returned (.bool true) ∧ Below w.heap.size w w' := by
  have cB := bytes_any a0 len0 cap0 vf bf w hk hl0
  have HK := hidden hk
  clear hk hl0
  obtain ⟨i0, hi, hz0, hz1, hz2⟩ := info_parts info5
  go_enter Try.func3, Try.ntmps3
  go_wp2_with fail
  refine cB.mono ?_
  rintro e w9 ⟨⟨bo, rfl, hbo⟩, rfl⟩
  cases bo
  · go_wp2
    go_ret
    exact ⟨rfl, Below.refl _ _⟩
  · obtain ⟨hlen, hbl⟩ := hbo rfl
    have HBL := hidden hbl
    clear hbo hbl cB
    go_wp2
    go_loop [3, 4] (fun t i => ∃ k : Nat, k ≤ len0 ∧ i = .int .i64 k ∧ t = .int .i64 ((24 * k + (cat bf k).length : Nat) : Int) ∧ 24 * k + (cat bf k).length ≤ 1048576) (fun _ i => len0 - (intOf i).toNat)
    case atStart => exact ⟨0, by omega, rfl, rfl, by simp [cat]⟩
    case round =>
      obtain ⟨k, hk, rfl, rfl, hT⟩ := hrel
      by_cases hlt : k < len0
      · obtain ⟨b, off, rfl, hb, hcs⟩ := HK.out.2.2 (by omega)
        have hc := hcs k hlt
        have hsz := HBL.out k hlt
        obtain ⟨o, c, hv⟩ := src_slice (HK.out.1 k hlt)
        rw [hv] at hc
        have hcl := hidden (cat_len bf k)
        clear hcs hv
        generalize hn : (bf k).length = n at *
        clear hn
        generalize hTT : 24 * k + (cat bf k).length = T at *
        have HT := hidden hTT
        clear hTT
        go_wp2
        · go_ret
          exact ⟨rfl, Below.refl _ _⟩
        · go_round
          case rel =>
            have e1 : 24 * (k + 1) + (cat bf (k + 1)).length = T + (24 + n) := by rw [hcl.out, ← HT.out]; omega
            exact ⟨k + 1, by omega, by go_num, by rw [e1]; go_num, by rw [e1]; omega⟩
          case measure => simp [intOf]; omega
      · have hke : k = len0 := by omega
        subst hke
        generalize hTT : 24 * k + (cat bf k).length = T at *
        have hTc : (cat bf k).length ≤ T := by omega
        have HT := hidden hTT
        clear hTT
        go_wp2_with (refine wpList_make_own _ rfl _ _ 24 rfl w.heap.size 5 i0 (.int .u8 0) 1 Try.underlying24 hi hz0 hz1 .i64 .i64 _ T rfl rfl (by omega) (by rw [hz2]; omega) (by unfold maxLen; omega) (Nat.le_refl _) ?_; intro w1 hown1 hgrow1)
        have hb1 : Below w.heap.size w w1 := (Below.refl _ _).grown hgrow1 (Nat.le_refl _) (by intro k hk; cases hk)
        go_loopw [5, 6] (fun v i wr => ∃ m : Nat, m ≤ k ∧ i = .int .i64 m ∧ Hid (wr.ownsRow w.heap.size 5 1 v (cat bf m).length ((cat bf m).map cb) ∧ Below w.heap.size w wr)) (fun _ i _ => k - (intOf i).toNat)
        case atStart => exact ⟨0, by omega, rfl, ⟨hown1, hb1⟩⟩
        case round =>
          clear hown1 hgrow1 hb1
          obtain ⟨m, hm, rfl, hst⟩ := hrel
          by_cases hlt2 : m < k
          · obtain ⟨b, off, rfl, hb, hcs⟩ := HK.out.2.2 (by omega)
            have hc : wr.cell? ⟨b, off + m, none⟩ = some (vf m) := by rw [hst.out.2.cell (show b < w.heap.size from hb)]; exact hcs m hlt2
            have hsz := HBL.out m hlt2
            have hsrc := src_later (HK.out.1 m hlt2) hst.out.2
            have hcl := hidden (cat_succ bf m)
            have hcm := cat_le bf (show m ≤ k by omega)
            have hbs := hst.out.2.size
            clear hcs
            rcases hsrc with ⟨hv, hbs0⟩ | ⟨ad, c, hv, had, hsc⟩
            · rw [hv] at hc
              have HB0 := hidden hbs0
              clear hv hbs0
              go_wp2_with (at_builtin; refine wpList_append_own_none rfl (.tmp 38) (.tmp 42) 24 rfl w.heap.size 5 i0 1 Try.underlying24 hi _ _ _ rfl hst.out.1 rfl ?_)
              go_roundw
              case rel => exact ⟨m + 1, by omega, by go_num, by rw [hcl.out, HB0.out, List.append_nil]; exact hst⟩
              case measure => simp [intOf]; omega
            · rw [hv] at hc
              have HSC := hidden hsc
              clear hv hsc
              go_wp2_with (at_builtin; refine wpList_append_own _ rfl (.tmp 38) (.tmp 42) 24 rfl w.heap.size 5 i0 (.int .u8 0) 1 1 Try.underlying24 hi hz0 hz1 hz2 rfl (by decide) _ _ _ rfl hst.out.1 ad (bf m).length c ((bf m).map cb) rfl (by simp) HSC.out (one_cb _) (by unfold maxLen; omega) (by omega) hbs ?_; intro v2 w2 hown2 hgrow2 _; have H2 := hidden hown2; have G2 := hidden (hst.out.2.grown hgrow2 hbs (fun j hj => (hst.out.1.lt j hj).1)); clear hown2 hgrow2)
              go_roundw
              case rel => exact ⟨m + 1, by omega, by go_num, by rw [hcl.out]; exact ⟨by rw [List.length_append, List.map_append]; exact H2.out, G2.out⟩⟩
              case measure => simp [intOf]; omega
          · have hme : m = k := by omega
            subst hme
            go_wp2_with fail
            refine (new_any _).mono ?_
            rintro e w3 ⟨rfl, hst3, hb3⟩
            have hown3 := hst.out.1.kept (row := none) ⟨hb3.os, hb3.tape, hb3.output, hb3.size, fun j hj _ => hb3.block j hj⟩ (owner _)
            have hBp : w.heap.size ≤ wr.heap.size := hst.out.2.size
            have hbw3 : Below w.heap.size w w3 := hst.out.2.trans (hb3.mono hBp)
            have HO3 := hidden hown3
            have HLT := hidden (lt_of hst.out.1)
            have HW3 := hidden hbw3
            generalize hpb : wr.heap.size = pb at *
            clear hown3 hbw3 hb3 hpb hst
            go_wp2
            go_loopw [8] (fun i w4 => ∃ q : Nat, q ≤ m ∧ i = .int .i64 q ∧ Hid (St pb (cat bf q) w4 ∧ Below pb w3 w4)) (fun i _ => m - (intOf i).toNat)
            case atStart => exact ⟨0, by omega, rfl, ⟨hst3, Below.refl _ _⟩⟩
            case round =>
              clear hst3
              obtain ⟨q, hq, rfl, hst4⟩ := hrel
              by_cases hlt3 : q < m
              · obtain ⟨b, off, rfl, hb, hcs⟩ := HK.out.2.2 (by omega)
                have hbw4 : Below w.heap.size w wr := HW3.out.trans (hst4.out.2.mono hBp)
                have hc : wr.cell? ⟨b, off + q, none⟩ = some (vf q) := by rw [hbw4.cell (show b < w.heap.size from hb)]; exact hcs q hlt3
                have hsz := HBL.out q hlt3
                have hsrc := src_mono (src_later (HK.out.1 q hlt3) hbw4) hBp
                have hcl := hidden (cat_succ bf q)
                obtain ⟨o, c, hv⟩ := src_slice hsrc
                rw [hv] at hc hsrc
                have cW := zzwrite_any pb (cat bf q) (bf q) _ wr hst4.out.1 hsrc (by omega)
                have HBw := hidden hbw4
                clear hcs hv hsrc hbw4
                generalize hn : (bf q).length = n at *
                clear hn
                go_wp2_with fail
                refine cW.mono ?_
                rintro e w5 ⟨rfl, hst5, hb5⟩
                have hc5 : w5.cell? ⟨b, off + q, none⟩ = some (.slice o n c) := by rw [hb5.cell (show b < pb by omega)]; exact hc
                have H5 := hidden hst5
                have B5 := hidden (hst4.out.2.trans hb5)
                clear hst5 hb5
                go_wp2_with fail
                go_roundw
                case rel => exact ⟨q + 1, by omega, by go_num, by rw [hcl.out]; exact ⟨H5.out, B5.out⟩⟩
                case measure => simp [intOf]; omega
              · have hqe : q = m := by omega
                subst hqe
                have cS := stderr_any pb (cat bf q) wr hst4.out.1
                have hpl : pb < wr.heap.size := by obtain ⟨_, _, _, _, _, _, _, _, _, h⟩ := hst4.out.1; exact h
                have HPL := hidden hpl
                clear hpl
                go_wp2_with fail
                refine cS.mono ?_
                rintro e w6 ⟨rfl, hg6⟩
                have hown4 := kept_below HO3.out hst4.out.2 HLT.out
                have hown6 := hown4.kept hg6 (Or.inr (far HLT.out))
                have cT := tm_any w.heap.size _ (cat bf q) w6 hown6 (by omega)
                have HF := hidden ((HW3.out.trans (hst4.out.2.mono hBp)).grown hg6 (by have := HPL.out; omega) (by intro j hj; cases hj; exact hBp))
                clear hown4 hown6 hg6
                go_wp2_with fail
                refine cT.mono ?_
                rintro e w9 ⟨rfl, hw9⟩
                obtain rfl := hw9.symm
                go_wp2_with fail
                go_ret
                exact ⟨rfl, HF.out⟩

end Go.Proofs.Qxb6612801a.LawM
