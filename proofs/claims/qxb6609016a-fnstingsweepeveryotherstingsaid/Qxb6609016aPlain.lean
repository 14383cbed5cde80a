/-
  PLAIN LEMMAS on labels' forms (bytes of a text): the first byte, whether a text holds a byte. No Go in sight. By an AI agent.
-/
import Derived.Lib.Strings
import Derived.Lib.Bytealg
import Derived.Lib.IndexLaws
import Derived.Lib.IndexBytes
namespace Go.Proofs.Qxb6609016a.Plain
open Go.Lib

/-- The sting: the first byte, or 0. -/
def stg (s : ByteArray) : UInt8 := s.data.toList.headD 0
/-- Does the text hold the byte? -/
def has (s : ByteArray) (x : UInt8) : Bool := s.data.toList.contains x
/-- Is x among the antistings? -/
def hold (s : ByteArray) (x : UInt8) : Bool := (s.data.toList.drop 2).contains x
/-- Does s order before t? -/
def less (s t : ByteArray) : Bool := hold t (stg s) && !hold s (stg t)

theorem ext {a b : ByteArray} (h : a.data.toList = b.data.toList) : a = b := by
  obtain ⟨⟨a⟩⟩ := a; obtain ⟨⟨b⟩⟩ := b; simp at h; rw [h]

theorem stg_empty {s : ByteArray} (h : s.size = 0) : stg s = 0 := by
  have : s.data.toList = [] := List.length_eq_zero_iff.1 (by rw [← Lib.size_eq]; exact h)
  simp [stg, this]
theorem stg_some {s : ByteArray} (h : 0 < s.size) : stg s = s[0] := by
  obtain ⟨⟨l⟩⟩ := s
  cases l with
  | nil => simp [ByteArray.size] at h
  | cons a l => rfl

theorem has_drop (s : ByteArray) (x : UInt8) : has (s.extract 2 s.size) x = hold s x := by
  unfold has hold; rw [Lib.extract_to_end]

theorem has_indexByte (s : ByteArray) (x : UInt8) : has s x = decide (0 ≤ Lib.indexByte s.data.toList x) := by
  unfold has
  generalize s.data.toList = l
  induction l with
  | nil => rfl
  | cons b l ih =>
    have hge := Lib.indexByte_ge l x
    rw [List.contains_cons, ih, Lib.indexByte]
    by_cases hb : b = x
    · subst hb; simp
    · have h1 : (b == x) = false := by rw [beq_eq_false_iff_ne]; exact hb
      have h2 : (x == b) = false := by rw [beq_eq_false_iff_ne]; exact fun e => hb e.symm
      rw [h1, h2]
      by_cases hm : Lib.indexByte l x = -1
      · simp [hm]
      · have h3 : (Lib.indexByte l x == -1) = false := by rw [beq_eq_false_iff_ne]; exact hm
        simp only [h3]
        simp
        constructor <;> intro <;> omega

theorem hold_short {s : ByteArray} {x : UInt8} (h : s.size ≤ 2) : hold s x = false := by
  unfold hold
  rw [List.drop_of_length_le (by rw [← Lib.size_eq]; exact h)]; rfl

theorem byte_nat (u : UInt8) : ((u.toNat : Int)).toNat.toUInt8 = u := by simp

end Go.Proofs.Qxb6609016a.Plain
