/-
  LAWS FOR THE WALK of FnStderrSplitWritesAgree. By an AI agent.
-/
import Derived.Test.Qxb6612801aWrite
import Derived.Test.Qxb6612801aModel
import Derived.Test.Qxb6612801aSuf
import Derived.Deep.DeepCutAuto
namespace Go.Proofs.Qxb6612801a.LawS
open Go.RowKit Go.MuLone Tail

/-! ### THE PLAIN LAW -/
theorem after_suffix (s : List UInt8) : ∃ p, s = p ++ after s := by
  unfold after
  split
  · exact ⟨_, (List.take_append_drop _ s).symm⟩
  · exact ⟨[], rfl⟩
theorem out_suffix (xs : List UInt8) : ∃ p, trim xs = p ++ out xs := by
  by_cases h : xs.length ≤ 2048
  · rw [out_small h]; exact ⟨[], rfl⟩
  · rw [out_big (by omega)]
    obtain ⟨p, hp⟩ := after_suffix ((trim xs).drop (xs.length - 2048))
    refine ⟨(trim xs).take (xs.length - 2048) ++ p, ?_⟩
    rw [List.append_assoc, ← hp, List.take_append_drop]
theorem after_len (s : List UInt8) : (after s).length ≤ s.length := by
  obtain ⟨p, hp⟩ := after_suffix s
  conv => rhs; rw [hp]
  rw [List.length_append]; omega
theorem out_len (xs : List UInt8) : (out xs).length ≤ 2048 := by
  have h1 := trim_len (lastN xs)
  have h2 := lastN_len xs
  have h3 := after_len (trim (lastN xs))
  unfold out; split <;> omega

/-! ### LAWS FOR THE WALK -/
theorem row_block {B g n cap : Nat} {xs : List Value} {w : World} (h : w.ownsRow B 5 1 (.slice (some ⟨g, 0, none⟩) n cap) n xs) : ∃ cur : List Value, w.heap[g]? = some (.cells cur.toArray 5 (0, 0)) ∧ cur.length = cap := by
  rcases h.2 with ⟨h', _⟩ | ⟨g', cap', cur, h', _, hg, _, _, hs, _⟩
  · simp at h'
  · simp only [Value.slice.injEq, Option.some.injEq, Addr.mk.injEq, and_true, true_and] at h'
    obtain ⟨rfl, rfl⟩ := h'
    exact ⟨cur.toList, by simpa using hg, by simpa using hs⟩

/-- A value that is a slice of the bytes bs, in memory below pb. -/
theorem src_of_block {g n : Nat} {cur : List Value} {bs : List UInt8} {w : World} (hn : bs.length = n) (hcur : cur.length = n) (h : w.heap[g]? = some (.cells (splice cur 0 (bs.map cb)).toArray 5 (0, 0))) : Src w.heap.size w (.slice (some ⟨g, 0, none⟩) n n) bs := by
  have hs : splice cur 0 (bs.map cb) = bs.map cb := by
    unfold splice; rw [List.take_zero, List.nil_append, Nat.zero_add, List.length_map, List.drop_of_length_le (by omega), List.append_nil]
  rw [hs] at h
  refine Or.inr ⟨_, n, by rw [hn], fun _ => ?_, fun j u hj => ?_⟩
  · rcases Nat.lt_or_ge g w.heap.size with hlt | hge
    · exact hlt
    · rw [Array.getElem?_eq_none hge] at h; cases h
  · exact World.news_of_block h j u (by simpa using hj)

/-- 'append(v, x...)', x a slice of bytes told by Src. -/
theorem app_src {ops : Array Oper} {rest : List Oper} {o : Oper} {a : Act} {Q : Exit → Act → World → Prop} {w : World} (hgd : o.guard = none) (s x : Operand)
    (ho : o.op = .call { callee := .builtin .append, args := #[s, x], argTypes := #[24, 24] }) {B pb : Nat} {v xv : Value} {xs bs : List UInt8} (hown : w.ownsRow B 5 1 v xs.length (xs.map cb)) (hs : a.eval s = v)
    (hsrc : Src pb w xv bs) (hx : a.eval x = xv) (hb : xs.length + bs.length ≤ 8388608) (hB : B ≤ w.heap.size)
    (h : ∀ v' w', w'.ownsRow B 5 1 v' (xs ++ bs).length ((xs ++ bs).map cb) → Below B w w' → wpList Try.prog ops Q rest (a.put o.dst v') w') : wpList Try.prog ops Q (o :: rest) a w := by
  obtain ⟨i0, hi, hz0, hz1, hz2⟩ := info_parts info5
  rcases hsrc with ⟨rfl, rfl⟩ | ⟨ad, c, rfl, had, hc⟩
  · refine wpList_append_own_none hgd s x 24 ho B 5 i0 1 Try.underlying24 hi _ _ _ hs hown hx ?_
    exact h v w (by rw [List.append_nil]; exact hown) (Below.refl _ _)
  · refine wpList_append_own _ hgd s x 24 ho B 5 i0 (.int .u8 0) 1 1 Try.underlying24 hi hz0 hz1 hz2 rfl (by decide) v _ _ hs hown ad bs.length c (bs.map cb) hx (by simp) hc (one_cb bs) (by unfold maxLen; omega) (by omega) hB ?_
    intro v1 w1 hown1 hgrow1 _
    exact h v1 w1 (by rw [List.length_append, List.map_append]; exact hown1) ((Below.refl _ _).grown hgrow1 hB (fun k hk => (hown.lt k hk).1))
/-- 'copy(zzc, x)', zzc just made, x a slice of bytes told by Src. -/
theorem copy_src {ops : Array Oper} {rest : List Oper} {o : Oper} {a : Act} {Q : Exit → Act → World → Prop} {w : World} (hgd : o.guard = none) (d s : Operand)
    (ho : o.op = .call { callee := .builtin .copy, args := #[d, s], argTypes := #[24, 24] }) {B pb g n : Nat} {xv : Value} {bs : List UInt8} {ys : List Value} (hown : w.ownsRow B 5 1 (.slice (some ⟨g, 0, none⟩) n n) n ys) (hd : a.eval d = .slice (some ⟨g, 0, none⟩) n n)
    (hsrc : Src pb w xv bs) (hs : a.eval s = xv) (hn : bs.length = n)
    (h : ∀ w', Src w'.heap.size w' (.slice (some ⟨g, 0, none⟩) n n) bs → Below B w w' → wpList Try.prog ops Q rest (a.put o.dst (goInt n)) w') : wpList Try.prog ops Q (o :: rest) a w := by
  obtain ⟨cur, hg, hcur⟩ := row_block hown
  have hBg := (hown.lt g rfl).1
  obtain ⟨ov, c, hxv⟩ : ∃ ov c, xv = .slice ov n c := by
    rcases hsrc with ⟨rfl, rfl⟩ | ⟨ad, c, rfl, _⟩
    · exact ⟨none, 0, by rw [← hn]; rfl⟩
    · exact ⟨_, c, by rw [hn]⟩
  refine wpList_copy_splice hgd d s 24 24 ho 5 Try.underlying24 size5 (some ⟨g, 0, none⟩) ov n n n c hd (hs.trans hxv) g 0 cur 5 hg (bs.map cb) (by rw [List.length_map, hn]; simp [Nat.min]) (fun hp => ⟨rfl, ?_⟩) (by rw [List.length_map]; omega) (one_cb bs) B w (Below.refl _ _) hBg ?_
  · rw [List.length_map] at hp
    rcases hsrc with ⟨rfl, rfl⟩ | ⟨ad, c', h', _, hc⟩
    · simp at hp
    · rw [hxv] at h'
      injection h' with e1 _ _
      exact ⟨ad, e1, hc⟩
  · intro w2 h2 hb2
    rw [List.length_map, hn]
    exact h w2 (src_of_block hn hcur h2.out) hb2
theorem src_later {pb : Nat} {w w' : World} {v : Value} {bs : List UInt8} (h : Src pb w v bs) (hb : Below pb w w') : Src pb w' v bs := by
  rcases h with h | ⟨ad, c, rfl, had, hc⟩
  · exact Or.inl h
  · refine Or.inr ⟨ad, c, rfl, had, fun j u hj => ?_⟩
    have hpos : 0 < bs.length := by have := (List.getElem?_eq_some_iff.1 hj).1; simp at this; omega
    rw [hb.cell (by rw [show (ad.add j).block = ad.block by unfold Addr.add; split <;> rfl]; exact had hpos)]
    exact hc j u hj
theorem src_mono {pb pb' : Nat} {w : World} {v : Value} {bs : List UInt8} (h : Src pb w v bs) (hp : pb ≤ pb') : Src pb' w v bs := by
  rcases h with h | ⟨ad, c, rfl, had, hc⟩
  · exact Or.inl h
  · exact Or.inr ⟨ad, c, rfl, fun h => by have := had h; omega, hc⟩
theorem src_slice {pb : Nat} {w : World} {v : Value} {bs : List UInt8} (h : Src pb w v bs) : ∃ o c, v = .slice o bs.length c := by
  rcases h with ⟨rfl, rfl⟩ | ⟨ad, c, rfl, _⟩
  · exact ⟨none, 0, rfl⟩
  · exact ⟨_, c, rfl⟩
theorem below_made {w w1 : World} (h : w.grownBy w1 none) : Below w.heap.size w w1 := (Below.refl _ _).grown h (Nat.le_refl _) (by intro k hk; cases hk)
def IsBool (e : Ending) : Prop := ∃ b, e = .returned (.bool b)

theorem bytes_any (a0 a1 : Option Addr) (len0 cap0 len1 cap1 : Nat) (w : World) (hl0 : len0 ≤ maxLen) (hl1 : len1 ≤ maxLen) :
    Calls Try.prog 10 #[.slice a0 len0 cap0, .slice a1 len1 cap1] w fun e w' => IsBool e ∧ w = w' := by
  have i0 : (len0 : Int) ≤ 9223372036854775807 := by unfold maxLen at hl0; omega
  have i1 : (len1 : Int) ≤ 9223372036854775807 := by unfold maxLen at hl1; omega
  clear hl0 hl1
  go_enter Try.func10, Try.ntmps10
  go_wp2
  all_goals go_ret
  all_goals exact ⟨⟨_, rfl⟩, rfl⟩


/-! ### WHAT STAYS -/
theorem sl_src {w : World} {v : Value} {bs : List UInt8} (h : Sl w v bs) : Src w.heap.size w v bs := by
  rcases h with h | ⟨g, o, c, rfl, hc, hcell⟩
  · exact Or.inl h
  · refine Or.inr ⟨_, c, rfl, fun hp => block_lt_of_cell (hcell 0 hp), fun j u hj => ?_⟩
    have hjl := (List.getElem?_eq_some_iff.1 hj).1
    rw [List.length_map] at hjl
    rw [Go.WideShapes.add_plain, hcell j hjl, ← hj]
    simp [hjl]
theorem sl_later {w w' : World} {v : Value} {bs : List UInt8} (h : Sl w v bs) (hb : ∀ j, j < w.heap.size → w'.heap[j]? = w.heap[j]?) : Sl w' v bs := by
  rcases h with h | ⟨g, o, c, rfl, hc, hcell⟩
  · exact Or.inl h
  · refine Or.inr ⟨g, o, c, rfl, hc, fun i hi => ?_⟩
    rw [World.cell?_of_block (w := w) (hb g (block_lt_of_cell (hcell i hi)))]
    exact hcell i hi
theorem own_src {B n : Nat} {v : Value} {bs : List UInt8} {w : World} (h : w.ownsRow B 5 1 v n (bs.map cb)) (hn : bs.length = n) : Sl w v bs := by
  subst hn; exact sl_own h
theorem st_keep {pb : Nat} {xs : List UInt8} {w w' : World} (h : St pb xs w) (hsz : w.heap.size ≤ w'.heap.size) (hb : ∀ j, pb ≤ j → j < w.heap.size → w'.heap[j]? = w.heap[j]?) : St pb xs w' := by
  obtain ⟨v, h7, h8, h10, h11, f8, f10, f11, hown, hpb⟩ := h
  have e := hb pb (Nat.le_refl _) hpb
  have hc : ∀ k, w'.cell? ⟨pb, k, none⟩ = w.cell? ⟨pb, k, none⟩ := fun k => World.cell?_of_block (w := w) e
  have hf : ∀ k, w'.frozen? ⟨pb, k, none⟩ = w.frozen? ⟨pb, k, none⟩ := fun k => World.frozen?_of_block (w := w) e
  refine ⟨v, by rw [hc]; exact h7, by rw [hc]; exact h8, by rw [hc]; exact h10, by rw [hc]; exact h11, by rw [hf]; exact f8, by rw [hf]; exact f10, by rw [hf]; exact f11, ⟨hown.1, ?_⟩, by omega⟩
  rcases hown.2 with h2 | ⟨g, cap, cur, rfl, h3, h4, h5⟩
  · exact Or.inl h2
  · have hlt := hown.lt g rfl
    exact Or.inr ⟨g, cap, cur, rfl, h3, by rw [hb g (by omega) hlt.2]; exact h4, h5⟩
theorem st_lt {pb : Nat} {xs : List UInt8} {w : World} (h : St pb xs w) : pb < w.heap.size := by
  obtain ⟨_, _, _, _, _, _, _, _, _, h⟩ := h; exact h
/-- The row of all bytes, where there is one: its last byte. -/
theorem last_of {B n c : Nat} {o : Option Addr} {X : List UInt8} {w : World} (h : w.ownsRow B 5 1 (.slice o n c) n (X.map cb)) (hn : X.length = n) (hp : 0 < n) :
    ∃ g L l b, o = some ⟨g, 0, none⟩ ∧ n = L + 1 ∧ X = l ++ [b] ∧ l.length = L ∧ L + 1 ≤ c ∧ w.cell? ⟨g, L, none⟩ = some (cb b) ∧ ∀ i (hi : i < X.length), w.cell? ⟨g, i, none⟩ = some (cb X[i]) := by
  rcases List.eq_nil_or_concat X with rfl | ⟨l, b, rfl⟩
  · simp at hn; omega
  · rw [List.concat_eq_append] at *
    have hl : (l ++ [b]).length = l.length + 1 := by simp
    obtain ⟨g, cap, hv, _, _⟩ := h.form (by omega)
    injection hv with e1 _ e3
    subst e1 e3
    have hcell : ∀ i (hi : i < (l ++ [b]).length), w.cell? ⟨g, i, none⟩ = some (cb (l ++ [b])[i]) := fun i hi => by rw [h.cellAt i (by omega), List.getElem?_map, List.getElem?_eq_getElem hi]; rfl
    refine ⟨g, l.length, l, b, rfl, by omega, rfl, rfl, by have := own_cap h; omega, ?_, hcell⟩
    have := hcell l.length (by omega)
    simpa using this
/-- all[:len(all)-1], the last byte a newline. -/
theorem sl_init {g L c : Nat} {l : List UInt8} {w : World} (hl : l.length = L) (hc : L + 1 ≤ c) (h : ∀ i (hi : i < (l ++ [10]).length), w.cell? ⟨g, i, none⟩ = some (cb (l ++ [10])[i])) : Sl w (.slice (some ⟨g, 0, none⟩) L c) (trim (l ++ [10])) := by
  rw [trim_snoc, if_pos rfl]
  subst hl
  refine Or.inr ⟨g, 0, c, rfl, by omega, fun i hi => ?_⟩
  rw [Nat.zero_add, h i (by simp; omega), List.getElem_append_left hi]
/-- No trailing newline: nothing goes. -/
theorem trim_same {X : List UInt8} (h : decide (X.getLast? = some 10) = false) : trim X = X := by
  unfold trim; rw [if_neg (of_decide_eq_false h)]
theorem last_ten {X : List UInt8} (h : decide (X.getLast? = some 10) = true) : 0 < X.length := by
  have := of_decide_eq_true h
  cases X with
  | nil => simp at this
  | cons a t => simp
theorem last_bool (l : List UInt8) (b : UInt8) : ((b.toNat : Int) == 10) = decide ((l ++ [b]).getLast? = some 10) := by
  rw [List.getLast?_append]
  by_cases h : b = 10
  · subst h; simp
  · have : ¬ ((b.toNat : Int) = 10) := fun e => h (byte_eq (by simpa using e))
    simp [this, h]
theorem snoc_ten {X l : List UInt8} {b : UInt8} (e : X = l ++ [b]) (h : decide (X.getLast? = some 10) = true) : b = 10 := by
  subst e
  have := of_decide_eq_true h
  simpa using this

end Go.Proofs.Qxb6612801a.LawS
