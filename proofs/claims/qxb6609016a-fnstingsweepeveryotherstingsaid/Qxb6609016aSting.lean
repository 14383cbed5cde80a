/-
  THE WALKS that both laws of this seat share: firstByte, holdsByte, ZZlabel, ZZsting, sting, holds, Less, the bounds on lengths. By an AI agent.
-/
import Derived.Test.Qxb6609016aRows
import Derived.Test.Qxb6609016aPlain
import Derived.WalkKit
import Derived.ProofKit
import Derived.WalkSpells
import Derived.WalkLawsBesides
import Derived.Lib.Walk
import Derived.Deep.QuietTactic
import Derived.BigQuiet
import Derived.Deep.Draws
import Derived.Deep.RegionHeld3
import Derived.Deep.DrawnRows
namespace Go.Proofs.Qxb6609016a.Sting
open Go.RowKit Plain

theorem ret_int {k : IntKind} {a b : Int} (h : a = b) : Ending.returned (.int k a) = .returned (.int k b) := by rw [h]
theorem ret_bool {a b : Bool} (h : a = b) : Ending.returned (.bool a) = .returned (.bool b) := by rw [h]

theorem indexByte_any (s : ByteArray) (x : UInt8) (w : World) :
    Calls Try.prog 24 #[.string s, .int .u8 x.toNat] w fun e w' => e = .returned (.int .i64 (Lib.indexByte s.data.toList x)) ∧ w' = w := by
  go_enter Try.func24, Try.ntmps24
  go_wp2
  rw [run_callFunc_extern Try.func25 (by kernel_rfl) (by kernel_rfl) (by kernel_rfl) (e := Extern.BytealgIndexByte.indexByte) (by kernel_rfl), Lib.run_indexByteString]
  simp only [Result.andThen]
  rw [Oper.upon_value]
  go_wp2
  go_ret
  exact ⟨rfl, rfl⟩

theorem sindexByte_any (s : ByteArray) (x : UInt8) (w : World) :
    Calls Try.prog 23 #[.string s, .int .u8 x.toNat] w fun e w' => e = .returned (.int .i64 (Lib.indexByte s.data.toList x)) ∧ w' = w := by
  go_enter Try.func23, Try.ntmps23
  go_wp2_with (go_at_call 24; refine (indexByte_any s x _).mono ?_; rintro e w' ⟨rfl, rfl⟩)
  go_ret
  exact ⟨rfl, rfl⟩

theorem firstByte_any (s : ByteArray) (w : World) :
    Calls Try.prog 13 #[.string s] w fun e w' => e = .returned (.int .u8 (stg s).toNat) ∧ w' = w := by
  by_cases h : s.size = 0
  · rw [stg_empty h]
    have hd : ((s.size : Int) == 0) = true := by simp [h]
    go_enter Try.func13, Try.ntmps13
    go_wp2
    go_ret
    exact ⟨rfl, rfl⟩
  · have h0 : 0 < s.size := by omega
    rw [stg_some h0]
    have hd : ((s.size : Int) == 0) = false := by simp [h]
    have hi : (0 : Int) < s.size := by omega
    clear h
    go_enter Try.func13, Try.ntmps13
    go_wp2
    go_ret
    exact ⟨rfl, rfl⟩

theorem label_any (s : ByteArray) (w : World) :
    Calls Try.prog 14 #[.string s] w fun e w' => e = .returned (.agg #[.string s]) ∧ w' = w.alloc (.cells #[.string s] 35) := by
  go_enter Try.func14, Try.ntmps14
  go_wp2
  exact bodyPost_ret (v := .agg #[.string s]) (by simp [results, Try.results14, go_sem]) rfl ⟨rfl, rfl⟩

theorem sting_any (s : ByteArray) (w : World) :
    Calls Try.prog 21 #[.agg #[.string s]] w fun e w' => e = .returned (.int .u8 (stg s).toNat) ∧ w' = w.alloc (.cells #[.string s] 35) := by
  by_cases h : s.size = 0
  · rw [stg_empty h]
    have hd : s.toList.isEmpty = true := by rw [ByteArray.toList_eq, List.isEmpty_iff_length_eq_zero, ← Lib.size_eq]; exact h
    go_enter Try.func21, Try.ntmps21
    go_wp2
    go_ret
    exact ⟨rfl, rfl⟩
  · have h0 : 0 < s.size := by omega
    rw [stg_some h0]
    have hd : s.toList.isEmpty = false := by rw [ByteArray.toList_eq, ← Bool.not_eq_true, List.isEmpty_iff_length_eq_zero, ← Lib.size_eq]; exact h
    have hi : (0 : Int) < s.size := by omega
    clear h
    go_enter Try.func21, Try.ntmps21
    go_wp2
    go_ret
    exact ⟨rfl, rfl⟩

theorem zzsting_any (s : ByteArray) (w : World) :
    Calls Try.prog 17 #[.agg #[.string s]] w fun e w' => e = .returned (.int .u8 (stg s).toNat) ∧ w' = (w.alloc (.cells #[.string s] 35)).alloc (.cells #[.string s] 35) := by
  go_enter Try.func17, Try.ntmps17
  go_wp2_with (go_at_call 21; refine (sting_any s _).mono ?_; rintro e w' ⟨rfl, rfl⟩)
  go_ret
  exact ⟨rfl, rfl⟩

theorem holds_any (s : ByteArray) (x : UInt8) (w : World) (hs : s.size = 0 ∨ 2 ≤ s.size) :
    Calls Try.prog 20 #[.agg #[.string s], .int .u8 x.toNat] w fun e w' => e = .returned (.bool (hold s x)) ∧ w' = w.alloc (.cells #[.string s] 35) := by
  rcases hs with h | h
  · rw [hold_short (by omega)]
    have hd : s.toList.isEmpty = true := by rw [ByteArray.toList_eq, List.isEmpty_iff_length_eq_zero, ← Lib.size_eq]; exact h
    go_enter Try.func20, Try.ntmps20
    go_wp2
    go_ret
    exact ⟨rfl, rfl⟩
  · rw [← has_drop, has_indexByte]
    have hd : s.toList.isEmpty = false := by rw [ByteArray.toList_eq, ← Bool.not_eq_true, List.isEmpty_iff_length_eq_zero, ← Lib.size_eq]; omega
    have hi : (2 : Int) ≤ s.size := by omega
    clear h
    go_enter Try.func20, Try.ntmps20
    go_wp2_with (go_at_call 23; refine (sindexByte_any _ x _).mono ?_; rintro e w' ⟨rfl, rfl⟩)
    go_ret
    exact ⟨ret_bool (by rw [Lib.extract_data]), rfl⟩

theorem less_yes (s t : ByteArray) (w : World) (hs : s.size = 0 ∨ 2 ≤ s.size) (ht : t.size = 0 ∨ 2 ≤ t.size) (hh : hold t (stg s) = true) :
    Calls Try.prog 16 #[.agg #[.string s], .agg #[.string t]] w fun e w' => e = .returned (.bool (!hold s (stg t))) ∧ Below w.heap.size w w' := by
  cases hq : hold s (stg t)
  all_goals
      go_enter Try.func16, Try.ntmps16
      go_wp2
      go_region_held3 (fun w' => w'.cell? ⟨w.heap.size, 0, none⟩ = some (.string s) ∧ w'.cell? ⟨w.heap.size + 1, 0, none⟩ = some (.string t)) (simp [go_sem, World.cell?_alloc_past])
        (first | (go_at_call 21; refine (sting_any _ _).mono ?_; rintro e w' ⟨rfl, rfl⟩) | (go_at_call 20; refine (holds_any _ _ _ (by assumption)).mono ?_; rintro e w' ⟨rfl, rfl⟩))
      all_goals go_wp2
      all_goals go_ret
      all_goals exact ⟨rfl, by repeat (first | exact Below.refl _ _ | apply Below.drew | refine Below.alloc ?_ (by simp <;> omega) _)⟩

attribute [local go_sem ↓] Go.wp_at_zero Go.wp_at_succ
set_option maxHeartbeats 1000000 in
theorem less_no (s t : ByteArray) (w : World) (ht : t.size = 0 ∨ 2 ≤ t.size) (hh : hold t (stg s) = false) :
    Calls Try.prog 16 #[.agg #[.string s], .agg #[.string t]] w fun e w' => e = .returned (.bool false) ∧ Below w.heap.size w w' := by
  go_enter Try.func16, Try.ntmps16
  go_wp2
  go_region_with (first | (go_at_call 21; refine (sting_any _ _).mono ?_; rintro e w' ⟨rfl, rfl⟩) | (go_at_call 20; refine (holds_any _ _ _ (by assumption)).mono ?_; rintro e w' ⟨rfl, rfl⟩))
  all_goals go_wp2
  all_goals go_ret
  all_goals exact ⟨rfl, by repeat (first | exact Below.refl _ _ | apply Below.drew | refine Below.alloc ?_ (by simp <;> omega) _)⟩

theorem less_any (s t : ByteArray) (w : World) (hs : s.size = 0 ∨ 2 ≤ s.size) (ht : t.size = 0 ∨ 2 ≤ t.size) :
    Calls Try.prog 16 #[.agg #[.string s], .agg #[.string t]] w fun e w' => e = .returned (.bool (less s t)) ∧ Below w.heap.size w w' := by
  unfold less
  cases hh : hold t (stg s)
  · exact less_no s t w ht hh
  · exact less_yes s t w hs ht hh

theorem byte_eq {c x : UInt8} (h : ((c.toNat : Int) == (x.toNat : Int)) = true) : c = x := by
  have h' : (c.toNat : Int) = x.toNat := by simpa using h
  exact UInt8.toNat_inj.1 (by omega)
theorem byte_ne {c x : UInt8} (h : ((c.toNat : Int) == (x.toNat : Int)) = false) : c ≠ x := by
  rintro rfl; simp at h
theorem take_snoc (s : ByteArray) (k : Nat) (h : k < s.size) : s.data.toList.take (k + 1) = s.data.toList.take k ++ [s[k]] := by
  rw [List.take_succ_eq_append_getElem (by simpa using h)]; rfl
theorem has_hit {s : ByteArray} {x : UInt8} {k : Nat} (hlt : k < s.size) (h : ((s[k].toNat : Int) == (x.toNat : Int)) = true) : has s x = true := by
  have hm : x ∈ s.data.toList := by
    rw [← byte_eq h]
    exact List.mem_of_mem_take (i := k + 1) (by rw [take_snoc s k hlt]; simp)
  simpa [has] using hm
theorem has_step {s : ByteArray} {x : UInt8} {k : Nat} (hlt : k < s.size) (h : ((s[k].toNat : Int) == (x.toNat : Int)) = false) (hh : (s.data.toList.take k).contains x = false) :
    (s.data.toList.take (k + 1)).contains x = false := by
  have hne := byte_ne h
  rw [take_snoc s k hlt]
  simp only [List.contains_eq_mem, List.mem_append, List.mem_singleton, decide_eq_false_iff_not] at *
  rintro (h1 | h1)
  · exact hh h1
  · exact hne h1.symm
theorem has_end {s : ByteArray} {x : UInt8} {k : Nat} (hlt : ¬ k < s.size) (hh : (s.data.toList.take k).contains x = false) : has s x = false := by
  rw [List.take_of_length_le (by rw [← Lib.size_eq]; omega)] at hh
  exact hh

theorem holdsByte_any (s : ByteArray) (x : UInt8) (w : World) (hs : s.size ≤ maxLen) :
    Calls Try.prog 15 #[.string s, .int .u8 x.toNat] w fun e w' => e = .returned (.bool (has s x)) ∧ w' = w := by
  unfold maxLen at hs
  go_enter Try.func15, Try.ntmps15
  go_wp2
  go_loop [5] (fun i => ∃ k : Nat, k ≤ s.size ∧ i = .int .i64 k ∧ Hid ((s.data.toList.take k).contains x = false)) (fun i => s.size - (intOf i).toNat)
  case atStart => exact ⟨0, Nat.zero_le _, rfl, rfl⟩
  case round =>
    obtain ⟨k, hk, rfl, hh⟩ := hrel
    by_cases hlt : k < s.size
    · go_wp2
      · go_ret
        exact ⟨ret_bool (has_hit hlt (by assumption)).symm, rfl⟩
      · go_round
        case rel => exact ⟨k + 1, by omega, by go_num, has_step hlt (by assumption) hh.out⟩
        case measure => simp [intOf]; omega
    · go_wp2
      go_ret
      exact ⟨ret_bool (has_end hlt hh.out).symm, rfl⟩

/-- The bounds on lengths. -/
theorem bytesA_any (a b : ByteArray) (w : World) (ha : a.size ≤ maxLen) (hb : b.size ≤ maxLen) :
    Calls Try.prog 12 #[.string a, .string b] w fun e w' => e = .returned (.bool (decide (a.size + b.size ≤ 1048576))) ∧ w' = w := by
  unfold maxLen at ha hb
  have hA : (a.size : Int) ≤ 9223372036854775807 := by omega
  have hB : (b.size : Int) ≤ 9223372036854775807 := by omega
  clear ha hb
  by_cases h1 : (1048576 : Int) < a.size
  · go_enter Try.func12, Try.ntmps12
    go_wp2
    go_ret
    exact ⟨ret_bool (by simp; omega), rfl⟩
  · by_cases h2 : (1048576 : Int) < b.size
    · go_enter Try.func12, Try.ntmps12
      go_wp2
      go_ret
      exact ⟨ret_bool (by simp; omega), rfl⟩
    · by_cases h3 : (1048576 : Int) < a.size + b.size
      all_goals
        go_enter Try.func12, Try.ntmps12
        go_wp2
        go_ret
        exact ⟨ret_bool (by simp; omega), rfl⟩
theorem bytesB_any (a b : ByteArray) (w : World) (ha : a.size ≤ maxLen) (hb : b.size ≤ maxLen) :
    Calls Try.prog 18 #[.string a, .string b] w fun e w' => e = .returned (.bool (decide (a.size + b.size ≤ 1048576))) ∧ w' = w := by
  unfold maxLen at ha hb
  have hA : (a.size : Int) ≤ 9223372036854775807 := by omega
  have hB : (b.size : Int) ≤ 9223372036854775807 := by omega
  clear ha hb
  by_cases h1 : (1048576 : Int) < a.size
  · go_enter Try.func18, Try.ntmps18
    go_wp2
    go_ret
    exact ⟨ret_bool (by simp; omega), rfl⟩
  · by_cases h2 : (1048576 : Int) < b.size
    · go_enter Try.func18, Try.ntmps18
      go_wp2
      go_ret
      exact ⟨ret_bool (by simp; omega), rfl⟩
    · by_cases h3 : (1048576 : Int) < a.size + b.size
      all_goals
        go_enter Try.func18, Try.ntmps18
        go_wp2
        go_ret
        exact ⟨ret_bool (by simp; omega), rfl⟩

end Go.Proofs.Qxb6609016a.Sting
