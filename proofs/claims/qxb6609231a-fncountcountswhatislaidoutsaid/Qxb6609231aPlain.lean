/-
  PLAIN DEFINITIONS AND LEMMAS on the elements that are laid out: their bytes, their widths. No Go in sight. By an AI agent.
-/
import Derived.Lib.Strings
import Derived.Lib.Bytealg
import Derived.Lib.IndexLaws
namespace Go.Proofs.Qxb6609231a.Plain
open Go.Lib

/-- The type byte that s picks. -/
def kind (s : UInt8) : UInt8 :=
  if s.toNat % 8 = 0 then 1 else if s.toNat % 8 = 1 then 16 else if s.toNat % 8 = 2 then 8 else if s.toNat % 8 = 3 then 10
  else if s.toNat % 8 = 4 then 2 else if s.toNat % 8 = 5 then 3 else if s.toNat % 8 = 6 then 5 else 11
/-- The value's bytes. -/
def val (s : UInt8) : List UInt8 :=
  if s.toNat % 8 = 0 then List.replicate 8 s else if s.toNat % 8 = 1 then List.replicate 4 s else if s.toNat % 8 = 2 then [s &&& 1] else if s.toNat % 8 = 3 then []
  else if s.toNat % 8 = 4 then [2, 0, 0, 0, 120, 0] else if s.toNat % 8 = 5 then [5, 0, 0, 0, 0] else if s.toNat % 8 = 6 then [0, 0, 0, 0, s] else [97, 0, 105, 0]
/-- One element's bytes. -/
def enc (key : ByteArray) (s : UInt8) : List UInt8 := kind s :: (key.data.toList ++ 0 :: val s)

theorem val_le (s : UInt8) : (val s).length ≤ 8 := by
  unfold val; repeat' split
  all_goals simp
theorem enc_len (key : ByteArray) (s : UInt8) : (enc key s).length = key.size + 2 + (val s).length := by
  simp [enc]; omega
theorem enc_le (key : ByteArray) (s : UInt8) : (enc key s).length ≤ key.size + 10 := by
  rw [enc_len]; have := val_le s; omega
theorem mod8 (s : UInt8) : s.toNat % 8 = 0 ∨ s.toNat % 8 = 1 ∨ s.toNat % 8 = 2 ∨ s.toNat % 8 = 3 ∨ s.toNat % 8 = 4 ∨ s.toNat % 8 = 5 ∨ s.toNat % 8 = 6 ∨ s.toNat % 8 = 7 := by omega

end Go.Proofs.Qxb6609231a.Plain
