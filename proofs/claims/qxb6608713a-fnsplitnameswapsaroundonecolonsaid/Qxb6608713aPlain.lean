/-
  PLAIN LEMMAS on texts cut at their first ':' (byte 58): no Go in sight. By an AI agent.
-/
import Derived.Lib.Strings
import Derived.Lib.Bytealg
import Derived.Lib.IndexLaws
import Derived.Lib.IndexBytes
namespace Go.Proofs.Qxb6608713a.Plain
open Go.Lib

/-- The place of the first ':', or -1. -/
def ix (s : ByteArray) : Int := Lib.indexByte s.data.toList 58
/-- Is there a ':'? -/
def hasC (s : ByteArray) : Bool := s.data.toList.contains 58
/-- The text ":". -/
abbrev col : ByteArray := { data := #[58] }

theorem ext {a b : ByteArray} (h : a.data.toList = b.data.toList) : a = b := by
  obtain ⟨⟨a⟩⟩ := a; obtain ⟨⟨b⟩⟩ := b; simp at h; rw [h]

theorem data_app (a b : ByteArray) : (a ++ b).data.toList = a.data.toList ++ b.data.toList := by
  simp [ByteArray.data_append]

theorem ib_mid : ∀ (p r : List UInt8), (58 : UInt8) ∉ p → Lib.indexByte (p ++ 58 :: r) 58 = p.length
  | [], r, _ => by simp [Lib.indexByte]
  | b :: p, r, h => by
    have hb : (b == (58 : UInt8)) = false := by
      rw [beq_eq_false_iff_ne]; intro e; exact h (by simp [e])
    have ih := ib_mid p r (fun e => h (by simp [e]))
    simp only [List.cons_append, Lib.indexByte, hb, ih]
    have : ((p.length : Int) == -1) = false := by rw [beq_eq_false_iff_ne]; omega
    simp [this]

theorem ib_none : ∀ (l : List UInt8), (58 : UInt8) ∉ l → Lib.indexByte l 58 = -1
  | [], _ => rfl
  | b :: l, h => by
    have hb : (b == (58 : UInt8)) = false := by
      rw [beq_eq_false_iff_ne]; intro e; exact h (by simp [e])
    have ih := ib_none l (fun e => h (by simp [e]))
    simp [Lib.indexByte, hb, ih]

theorem split_mem : ∀ (l : List UInt8), (58 : UInt8) ∈ l → ∃ p r, l = p ++ 58 :: r ∧ (58 : UInt8) ∉ p
  | [], h => by simp at h
  | b :: l, h => by
    by_cases hb : b = 58
    · exact ⟨[], l, by simp [hb], by simp⟩
    · have hl : (58 : UInt8) ∈ l := by
        rcases List.mem_cons.1 h with e | e
        · exact absurd e.symm hb
        · exact e
      obtain ⟨p, r, e, hp⟩ := split_mem l hl
      refine ⟨b :: p, r, by simp [e], ?_⟩
      intro hm
      rcases List.mem_cons.1 hm with e | e
      · exact hb e.symm
      · exact hp e

theorem hasC_mem (s : ByteArray) : hasC s = true ↔ (58 : UInt8) ∈ s.data.toList := by
  simp [hasC]
theorem hasC_not (s : ByteArray) : hasC s = false ↔ (58 : UInt8) ∉ s.data.toList := by
  rw [← hasC_mem]; simp

/-- A text with no ':': the search misses; with one: it is p ":" r, p without one, and the search answers p's length. -/
theorem ix_miss {s : ByteArray} (h : hasC s = false) : ix s = -1 := ib_none _ ((hasC_not s).1 h)
theorem ix_mid {p r : ByteArray} (h : hasC p = false) : ix (p ++ col ++ r) = p.size := by
  have := ib_mid p.data.toList r.data.toList ((hasC_not p).1 h)
  unfold ix
  rw [data_app, data_app, Lib.size_eq, List.append_assoc]
  exact this
theorem cut_of {s : ByteArray} (h : hasC s = true) : ∃ p r : ByteArray, s = p ++ col ++ r ∧ hasC p = false := by
  obtain ⟨p, r, e, hp⟩ := split_mem _ ((hasC_mem s).1 h)
  refine ⟨⟨p.toArray⟩, ⟨r.toArray⟩, ext ?_, (hasC_not _).2 (by simpa using hp)⟩
  rw [data_app, data_app, e]; simp

theorem ix_hasC (s : ByteArray) : hasC s = decide (0 ≤ ix s) := by
  cases h : hasC s
  · rw [ix_miss h]; rfl
  · obtain ⟨p, r, rfl, hp⟩ := cut_of h
    rw [ix_mid hp]; simp

theorem size_app (a b : ByteArray) : (a ++ b).size = a.size + b.size := ByteArray.size_append
theorem pre_mid (p r : ByteArray) : (p ++ col ++ r).extract 0 p.size = p := by
  apply ext
  rw [Lib.extract_data, data_app, data_app, Lib.size_eq, List.append_assoc]
  simp
theorem post_mid (p r : ByteArray) : (p ++ col ++ r).extract (p.size + 1) (p ++ col ++ r).size = r := by
  apply ext
  rw [Lib.extract_to_end, data_app, data_app, Lib.size_eq p, List.append_assoc]
  generalize p.data.toList = l
  simp

/-- splitName's answer: the two parts where there is just one ':' and neither is empty; else nothing and the whole. -/
def isCut (p r : ByteArray) : Bool := !p.data.toList.isEmpty && !r.data.toList.isEmpty && !hasC r
def sp (s : ByteArray) : ByteArray :=
  let p := s.extract 0 (ix s).toNat; let r := s.extract ((ix s).toNat + 1) s.size
  if hasC s && isCut p r then p else ByteArray.empty
def lo (s : ByteArray) : ByteArray :=
  let p := s.extract 0 (ix s).toNat; let r := s.extract ((ix s).toNat + 1) s.size
  if hasC s && isCut p r then r else s

theorem sp_miss {s : ByteArray} (h : hasC s = false) : sp s = ByteArray.empty := by simp [sp, h]
theorem lo_miss {s : ByteArray} (h : hasC s = false) : lo s = s := by simp [lo, h]
theorem hasC_mid (p r : ByteArray) : hasC (p ++ col ++ r) = true := by
  rw [hasC_mem, data_app, data_app]; simp
theorem sp_mid {p r : ByteArray} (h : hasC p = false) : sp (p ++ col ++ r) = if isCut p r then p else ByteArray.empty := by
  unfold sp
  rw [ix_mid h, hasC_mid]
  simp only [Int.toNat_natCast, pre_mid, post_mid, Bool.true_and]
theorem lo_mid {p r : ByteArray} (h : hasC p = false) : lo (p ++ col ++ r) = if isCut p r then r else p ++ col ++ r := by
  unfold lo
  rw [ix_mid h, hasC_mid]
  simp only [Int.toNat_natCast, pre_mid, post_mid, Bool.true_and]

end Go.Proofs.Qxb6608713a.Plain
