/-
  THE WALK of zzTailModel: it answers what Stderr answers. By an AI agent.
-/
import Derived.Test.Qxb6612801aStr
namespace Go.Proofs.Qxb6612801a.Tail
open Go.RowKit Go.MuLone

theorem sl_own {B : Nat} {v : Value} {bs : List UInt8} {w : World} (h2 : w.ownsRow B 5 1 v bs.length (bs.map cb)) : Sl w v bs := by
  rcases h2.2 with ⟨rfl, h0⟩ | ⟨g, cap, cur, rfl, _, _, hc, _⟩
  · exact Or.inl ⟨rfl, List.eq_nil_of_length_eq_zero h0⟩
  · refine Or.inr ⟨g, 0, cap, rfl, hc, fun i hi => ?_⟩
    rw [Nat.zero_add, h2.cellAt i (by omega)]
    simp [hi]
theorem own_cap' {B g n cap : Nat} {xs : List Value} {w : World} (h : w.ownsRow B 5 1 (.slice (some ⟨g, 0, none⟩) n cap) n xs) : n ≤ cap := by
  rcases h.2 with ⟨h', _⟩ | ⟨g', cap', cur, h', _, _, hc, _⟩
  · simp at h'
  · simp only [Value.slice.injEq, Option.some.injEq, Addr.mk.injEq, and_true, true_and] at h'
    omega
theorem ib_mid : ∀ (p r : List UInt8), (10 : UInt8) ∉ p → Lib.indexByte (p ++ 10 :: r) 10 = p.length
  | [], r, _ => by simp [Lib.indexByte]
  | b :: p, r, h => by
    have hb : (b == (10 : UInt8)) = false := by
      rw [beq_eq_false_iff_ne]; intro e; exact h (by simp [e])
    have ih := ib_mid p r (fun e => h (by simp [e]))
    simp only [List.cons_append, Lib.indexByte, hb, ih]
    have : ((p.length : Int) == -1) = false := by rw [beq_eq_false_iff_ne]; omega
    simp [this]
theorem ib_none : ∀ (l : List UInt8), (10 : UInt8) ∉ l → Lib.indexByte l 10 = -1
  | [], _ => rfl
  | b :: l, h => by
    have hb : (b == (10 : UInt8)) = false := by
      rw [beq_eq_false_iff_ne]; intro e; exact h (by simp [e])
    have ih := ib_none l (fun e => h (by simp [e]))
    simp [Lib.indexByte, hb, ih]
theorem after_none {s : List UInt8} (h : (10 : UInt8) ∉ s) : after s = s := by
  unfold after; rw [ib_none s h, if_neg (by omega)]
theorem after_mid {p r : List UInt8} (h : (10 : UInt8) ∉ p) : after (p ++ 10 :: r) = r := by
  unfold after; rw [ib_mid p r h, if_pos (by omega), Int.toNat_natCast]
  rw [List.drop_append, List.drop_of_length_le (by omega), show p.length + 1 - p.length = 1 by omega]; rfl
theorem trim_last (xs : List UInt8) (lo : Nat) (h : lo < xs.length) : trim (xs.drop lo) = (trim xs).drop lo := by
  rcases List.eq_nil_or_concat xs with rfl | ⟨l, b, rfl⟩
  · simp at h
  · rw [List.concat_eq_append] at *
    rw [List.length_append, List.length_singleton] at h
    rw [List.drop_append_of_le_length (by omega), trim_snoc, trim_snoc]
    split
    · rfl
    · rw [List.drop_append_of_le_length (by omega)]

theorem out_small {xs : List UInt8} (h : xs.length ≤ 2048) : out xs = trim xs := by
  unfold out lastN; rw [if_neg (by omega), show xs.length - 2048 = 0 by omega, List.drop_zero]
theorem out_big {xs : List UInt8} (h : 2048 < xs.length) : out xs = after ((trim xs).drop (xs.length - 2048)) := by
  unfold out lastN; rw [if_pos h, trim_last _ _ (by omega)]
theorem byte_eq {c : UInt8} (h : ((c.toNat : Int) == 10) = true) : c = 10 := by
  have : c.toNat = 10 := by have h' : (c.toNat : Int) = 10 := by simpa using h
                            omega
  exact UInt8.toNat_inj.1 this
theorem byte_ne {c : UInt8} (h : ((c.toNat : Int) == 10) = false) : c ≠ 10 := by
  rintro rfl; simp at h
theorem found {t : List UInt8} {lo k : Nat} (h1 : lo ≤ k) (hk : k < t.length) (h : ((t[k].toNat : Int) == 10) = true) (hn : (10 : UInt8) ∉ (t.take k).drop lo) : after (t.drop lo) = t.drop (k + 1) := by
  have e : t.drop lo = (t.take k).drop lo ++ 10 :: t.drop (k + 1) := by
    conv => lhs; rw [← List.take_append_drop k t]
    rw [List.drop_append_of_le_length (by rw [List.length_take]; omega), List.drop_eq_getElem_cons hk, byte_eq h]
  rw [e, after_mid hn]
theorem stepped {t : List UInt8} {lo k : Nat} (h1 : lo ≤ k) (hk : k < t.length) (h : ((t[k].toNat : Int) == 10) = false) (hn : (10 : UInt8) ∉ (t.take k).drop lo) : (10 : UInt8) ∉ (t.take (k + 1)).drop lo := by
  rw [List.take_succ_eq_append_getElem hk, List.drop_append_of_le_length (by rw [List.length_take]; omega)]
  intro hm
  rcases List.mem_append.1 hm with h2 | h2
  · exact hn h2
  · rw [List.mem_singleton] at h2; exact byte_ne h h2.symm

/-- The text t without its last newline, of n bytes in block g. -/
def Has (w : World) (g : Nat) (t : List UInt8) : Prop := ∀ i (h : i < t.length), w.cell? ⟨g, i, none⟩ = some (cb t[i])
theorem sl_has {w : World} {g c : Nat} {t : List UInt8} (h : Has w g t) (hc : t.length ≤ c) (j : Nat) : Sl w (.slice (some ⟨g, j, none⟩) (t.length - j) (c - j)) (t.drop j) := by
  have := sl_drop (w := w) (g := g) (o := 0) (c := c) (bs := t) rfl hc (fun i hi => by rw [Nat.zero_add]; exact h i hi) j
  rwa [Nat.zero_add] at this

theorem tm_nil (B : Nat) (v : Value) (w : World) (hown : w.ownsRow B 5 1 v 0 []) :
    Calls Try.prog 9 #[v] w fun e w' => e = .returned (.string ⟨#[]⟩) ∧ w' = w := by
  have hc := sl_conv (sl_own (bs := []) hown)
  rcases hown.2 with ⟨rfl, _⟩ | ⟨g, cap, cur, rfl, _⟩
  all_goals
    clear hown
    go_enter Try.func9, Try.ntmps9
    go_wp2
    go_ret
    exact ⟨rfl, rfl⟩

set_option maxHeartbeats 1000000 in
set_option maxRecDepth 100000 in
theorem tm_some (g cap L : Nat) (xs t : List UInt8) (w : World) (hL : L + 1 = xs.length) (ht : t = trim xs) (b : UInt8) (hb : w.cell? ⟨g, L, none⟩ = some (cb b)) (htl : t.length = if b = 10 then L else L + 1) (hcap : L + 1 ≤ cap) (hm : L ≤ 4194304) (hh : Has w g t) :
    Calls Try.prog 9 #[.slice (some ⟨g, 0, none⟩) (L + 1) cap] w fun e w' => e = .returned (.string ⟨(out xs).toArray⟩) ∧ w' = w := by
  have hcb : cb b = .int .u8 (b.toNat : Int) := rfl
  rw [hcb] at hb
  have i1 : (L : Int) + 1 ≤ (cap : Int) := by omega
  have i2 : (L : Int) ≤ 4194304 := by omega
  have HH := hidden hh
  clear hh hcb
  by_cases hsm : xs.length ≤ 2048
  · have ho := hidden (out_small hsm)
    rw [ht.symm] at ho
    have hconv := sl_conv (sl_has HH.out (c := cap) (by rw [htl]; split <;> omega) 0)
    rw [List.drop_zero, Nat.sub_zero, Nat.sub_zero] at hconv
    have i3 : (L : Int) + 1 ≤ 2048 := by omega
    clear hsm hL ht
    by_cases hb10 : b = 10
    · rw [if_pos hb10] at htl
      rw [htl] at hconv
      have hd : ((b.toNat : Int) == 10) = true := by rw [hb10]; rfl
      clear hb10 htl
      go_enter Try.func9, Try.ntmps9
      go_wp2
      go_ret
      exact ⟨by rw [ho.out]; rfl, rfl⟩
    · rw [if_neg hb10] at htl
      rw [htl] at hconv
      have hd : ((b.toNat : Int) == 10) = false := by
        rw [beq_eq_false_iff_ne]; intro e; exact hb10 (UInt8.toNat_inj.1 (by have : b.toNat = 10 := by omega
                                                                             simpa using this))
      clear hb10 htl
      go_enter Try.func9, Try.ntmps9
      go_wp2
      go_ret
      exact ⟨by rw [ho.out]; rfl, rfl⟩
  · obtain ⟨lo, hloL⟩ : ∃ lo, L + 1 = lo + 2048 := ⟨L + 1 - 2048, by omega⟩
    have hle : (L : Int) + 1 - 2048 = (lo : Int) := by omega
    have hbig : (2048 : Int) < (L : Int) + 1 := by omega
    have hlL : lo ≤ L := by omega
    have HLL := hidden hloL
    have ho := out_big (xs := xs) (by omega)
    rw [← ht, show xs.length - 2048 = lo by omega] at ho
    have HO := hidden ho
    clear ho hsm hL ht hloL
    have hcl : t.length ≤ cap := by rw [htl]; split <;> omega
    have hlo : lo ≤ t.length := by rw [htl]; split <;> omega
    have hlast : ∀ k (hk : k < t.length), ((t[k].toNat : Int) == 10) = true → k + 1 < cap := by
      intro k hk hk10
      by_cases hb10 : b = 10
      · rw [if_pos hb10] at htl; omega
      · rw [if_neg hb10] at htl
        by_cases hkl : k = L
        · subst hkl
          have := HH.out _ hk
          rw [hb] at this
          simp only [cb, Option.some.injEq, Value.int.injEq, true_and] at this
          exact absurd (UInt8.toNat_inj.1 (by rw [byte_eq hk10] at this; omega)) hb10
        · omega
    by_cases hb10 : b = 10
    · rw [if_pos hb10] at htl
      have HTL := hidden htl
      have hd : ((b.toNat : Int) == 10) = true := by rw [hb10]; rfl
      clear hb10 htl
      go_enter Try.func9, Try.ntmps9
      go_wp2
      go_loop [5] (fun i => ∃ k : Nat, lo ≤ k ∧ k ≤ L ∧ i = .int .i64 k ∧ Hid ((10 : UInt8) ∉ (t.take k).drop lo)) (fun i => L - (intOf i).toNat)
      case atStart => exact ⟨lo, Nat.le_refl _, by omega, rfl, hidden (by rw [List.drop_of_length_le (List.length_take_le _ _)]; simp)⟩
      case round =>
        obtain ⟨k, hk1, hk2, rfl, hno⟩ := hrel
        by_cases hlt : k < L
        · have hkt : k < t.length := by rw [HTL.out]; exact hlt
          have hck := HH.out k hkt
          unfold cb at hck
          have hkl : (k : Int) < (L : Int) := by omega
          have hconv := sl_conv (sl_has HH.out (c := cap) hcl (k + 1))
          rw [HTL.out] at hconv
          cases ht10 : ((t[k].toNat : Int) == 10)
          · go_wp2
            go_round
            case rel => exact ⟨k + 1, by omega, by omega, by go_num, stepped hk1 hkt ht10 hno.out⟩
            case measure => simp [intOf]; omega
          · have hkc : (k : Int) + 1 < (cap : Int) := by have := hlast k hkt ht10; omega
            have hf := hidden (found hk1 hkt ht10 hno.out)
            go_wp2
            go_ret
            exact ⟨by rw [HO.out, hf.out]; rfl, rfl⟩
        · have hke : (10 : UInt8) ∉ t.drop lo := by
            have := hno.out
            rwa [List.take_of_length_le (by rw [HTL.out]; omega)] at this
          have hf := hidden (after_none hke)
          have hconv := sl_conv (sl_has HH.out (c := cap) hcl lo)
          rw [HTL.out] at hconv
          have hlc : (lo : Int) < (cap : Int) := by omega
          clear hke
          go_wp2
          go_ret
          exact ⟨by rw [HO.out, hf.out]; rfl, rfl⟩
    · rw [if_neg hb10] at htl
      have HTL := hidden htl
      have hd : ((b.toNat : Int) == 10) = false := by
        rw [beq_eq_false_iff_ne]; intro e; exact hb10 (UInt8.toNat_inj.1 (by have : b.toNat = 10 := by omega
                                                                             simpa using this))
      clear hb10 htl
      go_enter Try.func9, Try.ntmps9
      go_wp2
      go_loop [5] (fun i => ∃ k : Nat, lo ≤ k ∧ k ≤ L + 1 ∧ i = .int .i64 k ∧ Hid ((10 : UInt8) ∉ (t.take k).drop lo)) (fun i => L + 1 - (intOf i).toNat)
      case atStart => exact ⟨lo, Nat.le_refl _, by omega, rfl, hidden (by rw [List.drop_of_length_le (List.length_take_le _ _)]; simp)⟩
      case round =>
        obtain ⟨k, hk1, hk2, rfl, hno⟩ := hrel
        by_cases hlt : k < L + 1
        · have hkt : k < t.length := by rw [HTL.out]; exact hlt
          have hck := HH.out k hkt
          unfold cb at hck
          have hkl : (k : Int) < (L + 1 : Int) := by omega
          have hconv := sl_conv (sl_has HH.out (c := cap) hcl (k + 1))
          rw [HTL.out, Nat.add_sub_add_right] at hconv
          cases ht10 : ((t[k].toNat : Int) == 10)
          · go_wp2
            go_round
            case rel => exact ⟨k + 1, by omega, by omega, by go_num, stepped hk1 hkt ht10 hno.out⟩
            case measure => simp [intOf]; omega
          · have hkc : (k : Int) + 1 < (cap : Int) := by have := hlast k hkt ht10; omega
            have hf := hidden (found hk1 hkt ht10 hno.out)
            go_wp2
            go_ret
            exact ⟨by rw [HO.out, hf.out]; rfl, rfl⟩
        · have hke : (10 : UInt8) ∉ t.drop lo := by
            have := hno.out
            rwa [List.take_of_length_le (by rw [HTL.out]; omega)] at this
          have hf := hidden (after_none hke)
          have hconv := sl_conv (sl_has HH.out (c := cap) hcl lo)
          rw [HTL.out] at hconv
          have hlc : (lo : Int) < (cap : Int) := by omega
          clear hke
          go_wp2
          go_ret
          exact ⟨by rw [HO.out, hf.out]; rfl, rfl⟩

/-- zzTailModel answers what Stderr answers. -/
theorem tm_any (B : Nat) (v : Value) (xs : List UInt8) (w : World) (hown : w.ownsRow B 5 1 v xs.length (xs.map cb)) (hm : xs.length ≤ 4194304) :
    Calls Try.prog 9 #[v] w fun e w' => e = .returned (.string ⟨(out xs).toArray⟩) ∧ w' = w := by
  rcases List.eq_nil_or_concat xs with rfl | ⟨l, b, rfl⟩
  · exact tm_nil B v w hown
  · rw [List.concat_eq_append] at *
    have hl : (l ++ [b]).length = l.length + 1 := by simp
    obtain ⟨g, cap, rfl, _, _⟩ := hown.form (by omega)
    have hcell : ∀ i (h : i < (l ++ [b]).length), w.cell? ⟨g, i, none⟩ = some (cb (l ++ [b])[i]) := fun i hi => by rw [hown.cellAt i (by omega), List.getElem?_map, List.getElem?_eq_getElem hi]; rfl
    have hcap := own_cap' hown
    rw [hl] at hm hcap ⊢
    refine tm_some g cap l.length (l ++ [b]) (trim (l ++ [b])) w hl.symm rfl b ?_ ?_ hcap (by omega) ?_
    · have := hcell l.length (by omega)
      simpa using this
    · rw [trim_snoc]; split <;> simp
    · intro i hi
      rw [trim_snoc] at hi
      have hi2 : i < (l ++ [b]).length := by have := trim_len (l ++ [b]); rw [trim_snoc] at this; omega
      rw [hcell i hi2]
      congr 2
      have e := trim_snoc l b
      split at e
      · simp only [e]; exact List.getElem_append_left (by rw [if_pos (by assumption)] at hi; exact hi)
      · simp only [e]

end Go.Proofs.Qxb6612801a.Tail
