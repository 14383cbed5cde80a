/-
  PLAIN LEMMAS on counting bytes: how many of the 256 bytes a text holds. No Go in sight. By an AI agent.
-/
import Derived.Test.Qxb6609016aPlain
namespace Go.Proofs.Qxb6609016a.Plain

/-- How many of the 256 bytes stand in l. -/
def D (l : List UInt8) : Nat := (List.range 256).countP (fun x => l.contains (UInt8.ofNat x))
/-- Of the first n bytes, how many l holds as an antisting. -/
def cT (f : ByteArray) (n : Nat) : Nat := (List.range n).countP (fun x => hold f (UInt8.ofNat x))

theorem countP_or (p : Nat → Bool) (a : Nat) (ha : p a = false) : ∀ n, (List.range n).countP (fun x => p x || x == a) = (List.range n).countP p + (if a < n then 1 else 0)
  | 0 => by simp
  | n + 1 => by
    rw [List.range_succ, List.countP_append, List.countP_append, countP_or p a ha n]
    by_cases h : n = a
    · subst h; simp [ha]
    · have h1 : (n == a) = false := by rw [beq_eq_false_iff_ne]; exact h
      have h2 : (if a < n + 1 then 1 else 0) = (if a < n then 1 else 0) := by
        by_cases h3 : a < n
        · rw [if_pos h3, if_pos (by omega)]
        · rw [if_neg h3, if_neg (by omega)]
      rw [h2]
      simp only [List.countP_singleton, h1, Bool.or_false]
      omega

theorem contains_snoc (l : List UInt8) (b : UInt8) (x : Nat) (hx : x < 256) : (l ++ [b]).contains (UInt8.ofNat x) = (l.contains (UInt8.ofNat x) || x == b.toNat) := by
  have : (x == b.toNat) = (UInt8.ofNat x == b) := by
    rw [Bool.eq_iff_iff, beq_iff_eq, beq_iff_eq]
    constructor
    · rintro rfl; simp
    · rintro rfl; simp; omega
  rw [this, List.contains_eq_mem, List.contains_eq_mem, Bool.eq_iff_iff]
  simp

theorem countP_congr256 (p q : Nat → Bool) (n : Nat) (h : ∀ x, x < n → p x = q x) : (List.range n).countP p = (List.range n).countP q := by
  apply List.countP_congr
  intro x hx
  rw [h x (by simpa using hx)]

theorem D_new (l : List UInt8) (b : UInt8) (h : l.contains b = false) : D (l ++ [b]) = D l + 1 := by
  unfold D
  rw [countP_congr256 _ (fun x => l.contains (UInt8.ofNat x) || x == b.toNat) 256 (fun x hx => contains_snoc l b x hx)]
  rw [countP_or (fun x => l.contains (UInt8.ofNat x)) b.toNat (by simpa using h) 256, if_pos (by have := b.toNat_lt; omega)]
theorem D_old (l : List UInt8) (b : UInt8) (h : l.contains b = true) : D (l ++ [b]) = D l := by
  unfold D
  refine countP_congr256 _ _ 256 fun x hx => ?_
  rw [contains_snoc l b x hx]
  cases hc : (x == b.toNat)
  · simp
  · have : UInt8.ofNat x = b := by rw [beq_iff_eq.1 hc]; simp
    rw [this, h]; rfl
theorem D_nil : D [] = 0 := by simp [D]
theorem D_le (l : List UInt8) : D l ≤ 256 := by
  have := List.countP_le_length (l := List.range 256) (p := fun x => l.contains (UInt8.ofNat x))
  simpa [D] using this
theorem cT_all (f : ByteArray) : cT f 256 = D (f.data.toList.drop 2) := rfl
theorem cT_le (f : ByteArray) (n : Nat) : cT f n ≤ n := by
  have := List.countP_le_length (l := List.range n) (p := fun x => hold f (UInt8.ofNat x))
  simpa [cT] using this
theorem cT_zero (f : ByteArray) : cT f 0 = 0 := rfl
theorem cT_yes (f : ByteArray) (n : Nat) (h : hold f (UInt8.ofNat n) = true) : cT f (n + 1) = cT f n + 1 := by
  unfold cT; rw [List.range_succ, List.countP_append]; simp [h]
theorem cT_no (f : ByteArray) (n : Nat) (h : hold f (UInt8.ofNat n) = false) : cT f (n + 1) = cT f n := by
  unfold cT; rw [List.range_succ, List.countP_append]; simp [h]

/-- The label of sting x with g's antistings. -/
def mx (g : ByteArray) (x : UInt8) : ByteArray := ⟨(x :: g.data.toList.drop 1).toArray⟩
theorem mx_stg (g : ByteArray) (x : UInt8) : stg (mx g x) = x := rfl
theorem mx_hold (g : ByteArray) (x y : UInt8) : hold (mx g x) y = hold g y := by
  unfold hold mx
  obtain ⟨⟨l⟩⟩ := g
  cases l <;> rfl
theorem mx_size (g : ByteArray) (x : UInt8) (h : 2 ≤ g.size) : 2 ≤ (mx g x).size := by
  have : g.data.toList.length = g.size := (Lib.size_eq g).symm
  rw [Lib.size_eq]; simp [mx, this]; omega
theorem less_up (f g : ByteArray) (x : UInt8) : less f (mx g x) = (hold g (stg f) && !hold f x) := by
  unfold less; rw [mx_hold, mx_stg]
theorem less_down (f g : ByteArray) (x : UInt8) : less (mx g x) f = (hold f x && !hold g (stg f)) := by
  unfold less; rw [mx_hold, mx_stg]

end Go.Proofs.Qxb6609016a.Plain
