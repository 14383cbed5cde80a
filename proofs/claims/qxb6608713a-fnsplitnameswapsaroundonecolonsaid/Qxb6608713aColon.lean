/-
  THE WALKS that both laws of this seat share: the search for ':' (strings.Cut, strings.Contains at the one-byte text ":"), splitName, zzHasColon. By an AI agent.
-/
import Derived.Test.Qxb6608713aRows
import Derived.Test.Qxb6608713aPlain
import Derived.WalkKit
import Derived.ProofKit
import Derived.WalkSpells
import Derived.WalkLawsBesides
import Derived.Lib.Walk
import Derived.Deep.QuietTactic
import Derived.BigQuiet
import Derived.Deep.Draws
namespace Go.Proofs.Qxb6608713a.Colon
open Go.RowKit Plain

theorem setCell_drewN (w : World) (n : Nat) (a : Addr) (v : Value) : (w.drewN n).setCell a v = (w.setCell a v).drewN n := rfl
theorem alloc_drewN (w : World) (n : Nat) (o : Obj) : (w.drewN n).alloc o = (w.alloc o).drewN n := rfl
attribute [local go_sem] setCell_drewN alloc_drewN

set_option maxHeartbeats 400000 in
theorem indexByte_any (s : ByteArray) (w : World) :
    Calls Try.prog 25 #[.string s, .int .u8 58] w fun e w' => e = .returned (.int .i64 (ix s)) ∧ w' = w := by
  unfold ix
  go_enter Try.func25, Try.ntmps25
  go_wp2
  rw [run_callFunc_extern Try.func29 (by kernel_rfl) (by kernel_rfl) (by kernel_rfl) (e := Extern.BytealgIndexByte.indexByte) (by kernel_rfl), Lib.run_indexByteString]
  simp only [Result.andThen]
  rw [Oper.upon_value]
  go_wp2
  go_ret
  exact ⟨rfl, rfl⟩

theorem ret_int {k : IntKind} {a b : Int} (h : a = b) : Ending.returned (.int k a) = .returned (.int k b) := by rw [h]
theorem ix_self {s : ByteArray} (h : ([58] == s.toList) = true) : ix s = 0 := by
  have h1 : [58] = s.data.toList := by simpa [ByteArray.toList_eq] using h
  unfold ix; rw [← h1]; rfl

set_option maxHeartbeats 400000 in
theorem index_any (s : ByteArray) (w : World) :
    Calls Try.prog 24 #[.string s, .string { data := #[58] }] w fun e w' => e = .returned (.int .i64 (ix s)) ∧ w' = w := by
  have h0 : ({ data := #[58] } : ByteArray)[0].toNat = 58 := rfl
  go_enter Try.func24, Try.ntmps24
  go_wp2_with (go_at_call 25; refine (indexByte_any s _).mono ?_; rintro e w' ⟨rfl, rfl⟩)
  · go_ret
    exact ⟨ret_int (ix_self (by assumption)).symm, rfl⟩
  · go_ret
    exact ⟨rfl, rfl⟩

set_option maxHeartbeats 400000 in
theorem sindex_any (s : ByteArray) (w : World) :
    Calls Try.prog 23 #[.string s, .string { data := #[58] }] w fun e w' => e = .returned (.int .i64 (ix s)) ∧ w' = w := by
  go_enter Try.func23, Try.ntmps23
  go_wp2_with (go_at_call 24; refine (index_any s _).mono ?_; rintro e w' ⟨rfl, rfl⟩)
  go_ret
  exact ⟨rfl, rfl⟩

set_option maxHeartbeats 400000 in
theorem contains_any (s : ByteArray) (w : World) :
    Calls Try.prog 21 #[.string s, .string { data := #[58] }] w fun e w' => e = .returned (.bool (hasC s)) ∧ w' = w := by
  rw [ix_hasC]
  go_enter Try.func21, Try.ntmps21
  go_wp2_with (go_at_call 23; refine (sindex_any s _).mono ?_; rintro e w' ⟨rfl, rfl⟩)
  go_ret
  exact ⟨rfl, rfl⟩

theorem ret_bool {a b : Bool} (h : a = b) : Ending.returned (.bool a) = .returned (.bool b) := by rw [h]
theorem take_snoc (s : ByteArray) (k : Nat) (h : k < s.size) : s.data.toList.take (k + 1) = s.data.toList.take k ++ [s[k]] := by
  rw [List.take_succ_eq_append_getElem (by simpa using h)]; rfl
theorem byte_eq {c : UInt8} (h : ((c.toNat : Int) == 58) = true) : c = 58 := by
  have : c.toNat = 58 := by have h' : (c.toNat : Int) = 58 := by simpa using h
                            omega
  exact UInt8.toNat_inj.1 this
theorem byte_ne {c : UInt8} (h : ((c.toNat : Int) == 58) = false) : c ≠ 58 := by
  rintro rfl; simp at h
theorem hc_hit {s : ByteArray} {k : Nat} (hlt : k < s.size) (h : ((s[k].toNat : Int) == 58) = true) : hasC s = true := by
  rw [hasC_mem, ← byte_eq h]
  exact List.mem_of_mem_take (i := k + 1) (by rw [take_snoc s k hlt]; simp)
theorem hc_step {s : ByteArray} {k : Nat} (hlt : k < s.size) (h : ((s[k].toNat : Int) == 58) = false) (hh : (s.data.toList.take k).contains 58 = false) :
    (s.data.toList.take (k + 1)).contains 58 = false := by
  have hne := byte_ne h
  rw [take_snoc s k hlt]
  simp only [List.contains_eq_mem, List.mem_append, List.mem_singleton, decide_eq_false_iff_not] at *
  rintro (h1 | h1)
  · exact hh h1
  · exact hne h1.symm
theorem hc_end {s : ByteArray} {k : Nat} (hlt : ¬ k < s.size) (hh : (s.data.toList.take k).contains 58 = false) : hasC s = false := by
  rw [List.take_of_length_le (by rw [← Lib.size_eq]; omega)] at hh
  exact hh

set_option maxHeartbeats 400000 in
theorem hasColon_any (s : ByteArray) (w : World) (hs : s.size ≤ maxLen) :
    Calls Try.prog 14 #[.string s] w fun e w' => e = .returned (.bool (hasC s)) ∧ w' = w := by
  unfold maxLen at hs
  go_enter Try.func14, Try.ntmps14
  go_wp2
  go_loop [3] (fun i => ∃ k : Nat, k ≤ s.size ∧ i = .int .i64 k ∧ Hid ((s.data.toList.take k).contains 58 = false)) (fun i => s.size - (intOf i).toNat)
  case atStart => exact ⟨0, Nat.zero_le _, rfl, rfl⟩
  case round =>
    obtain ⟨k, hk, rfl, hh⟩ := hrel
    by_cases hlt : k < s.size
    · go_wp2
      · go_ret
        exact ⟨ret_bool (hc_hit hlt (by assumption)).symm, rfl⟩
      · go_round
        case rel => exact ⟨k + 1, by omega, by go_num, hc_step hlt (by assumption) hh.out⟩
        case measure => simp [intOf]; omega
    · go_wp2
      go_ret
      exact ⟨ret_bool (hc_end hlt hh.out).symm, rfl⟩

theorem ret_three {a a' b b' : ByteArray} {c : Bool} (h : a = a') (k : b = b') : Ending.returned (.tuple #[.string a, .string b, .bool c]) = .returned (.tuple #[.string a', .string b', .bool c]) := by rw [h, k]

theorem cut_miss (s : ByteArray) (w : World) (h : hasC s = false) :
    Calls Try.prog 22 #[.string s, .string { data := #[58] }] w fun e w' => e = .returned (.tuple #[.string s, .string ByteArray.empty, .bool false]) ∧ w' = w := by
  have hi : ¬ (0 ≤ ix s) := by rw [ix_miss h]; decide
  go_enter Try.func22, Try.ntmps22
  go_wp2_with (go_at_call 24; refine (index_any s _).mono ?_; rintro e w' ⟨rfl, rfl⟩)
  go_ret3
  exact ⟨rfl, rfl⟩

theorem cut_hit (p r : ByteArray) (w : World) (h : hasC p = false) (hs : (p ++ col ++ r).size ≤ maxLen) :
    Calls Try.prog 22 #[.string (p ++ col ++ r), .string { data := #[58] }] w fun e w' => e = .returned (.tuple #[.string p, .string r, .bool true]) ∧ ∃ n, w' = w.drewN n := by
  have e1 := pre_mid p r
  have e2 := post_mid p r
  have hi := ix_mid (r := r) h
  have hz : (p ++ col ++ r).size = p.size + 1 + r.size := by rw [size_app, size_app]; rfl
  generalize p ++ col ++ r = s at *
  have hp : (p.size : Int) + 1 ≤ s.size := by omega
  have hl : (s.size : Int) ≤ 9223372036854775807 := by unfold maxLen at hs; omega
  clear hz hs
  have E1 : Hid (s.extract 0 p.size = p) := e1
  have E2 : Hid (s.extract (p.size + 1) s.size = r) := e2
  clear e1 e2
  go_enter Try.func22, Try.ntmps22
  go_wp2_with (go_at_call 24; refine (index_any s _).mono ?_; rintro e w' ⟨rfl, rfl⟩; rw [hi])
  go_quiet (fail)
  go_wp2
  go_ret3
  exact ⟨ret_three E1.out E2.out, _, rfl⟩

theorem scut_miss (s : ByteArray) (w : World) (h : hasC s = false) :
    Calls Try.prog 20 #[.string s, .string { data := #[58] }] w fun e w' => e = .returned (.tuple #[.string s, .string ByteArray.empty, .bool false]) ∧ w' = w := by
  go_enter Try.func20, Try.ntmps20
  go_wp2_with (go_at_call 22; refine (cut_miss s _ h).mono ?_; rintro e w' ⟨rfl, rfl⟩)
  go_ret3
  exact ⟨rfl, rfl⟩

theorem scut_hit (p r : ByteArray) (w : World) (h : hasC p = false) (hs : (p ++ col ++ r).size ≤ maxLen) :
    Calls Try.prog 20 #[.string (p ++ col ++ r), .string { data := #[58] }] w fun e w' => e = .returned (.tuple #[.string p, .string r, .bool true]) ∧ ∃ n, w' = w.drewN n := by
  have hc := fun w => cut_hit p r w h hs
  generalize p ++ col ++ r = s at *
  go_enter Try.func20, Try.ntmps20
  go_wp2_with (go_at_call 22; refine (hc _).mono ?_; rintro e w' ⟨rfl, n, rfl⟩)
  go_ret3
  exact ⟨rfl, _, rfl⟩

/-- splitName, a text without ':'. -/
theorem split_miss (s : ByteArray) (w : World) (h : hasC s = false) :
    Calls Try.prog 19 #[.string s] w fun e w' => e = .returned (.agg #[.string ByteArray.empty, .string s]) ∧ ∃ c n, w' = (w.alloc (.cells c 31)).drewN n := by
  go_enter Try.func19, Try.ntmps19
  go_wp2_with (go_at_call 20; refine (scut_miss s _ h).mono ?_; rintro e w' ⟨rfl, rfl⟩)
  exact bodyPost_ret (v := .agg #[.string ByteArray.empty, .string s]) (by simp [results, Try.results19, go_sem]; rfl) rfl ⟨rfl, _, 0, rfl⟩

theorem split_yes (p r : ByteArray) (w : World) (h : hasC p = false) (hs : (p ++ col ++ r).size ≤ maxLen) (h1 : p.toList.isEmpty = false) (h2 : r.toList.isEmpty = false) (h3 : hasC r = false) :
    Calls Try.prog 19 #[.string (p ++ col ++ r)] w fun e w' => e = .returned (.agg #[.string p, .string r]) ∧ ∃ c n, w' = (w.alloc (.cells c 31)).drewN n := by
  have hc := fun w => scut_hit p r w h hs
  generalize p ++ col ++ r = s at *
  go_enter Try.func19, Try.ntmps19
  go_wp2_with (first | (go_at_call 20; refine (hc _).mono ?_; rintro e w' ⟨rfl, n, rfl⟩) | (go_at_call 21; refine (contains_any _ _).mono ?_; rintro e w' ⟨rfl, rfl⟩))
  exact bodyPost_ret (v := .agg #[.string p, .string r]) (by simp [results, Try.results19, go_sem]) rfl ⟨rfl, _, n, rfl⟩

theorem split_no (p r : ByteArray) (w : World) (h : hasC p = false) (hs : (p ++ col ++ r).size ≤ maxLen) (h1 : p.toList.isEmpty = true ∨ r.toList.isEmpty = true ∨ hasC r = true) :
    Calls Try.prog 19 #[.string (p ++ col ++ r)] w fun e w' => e = .returned (.agg #[.string ByteArray.empty, .string (p ++ col ++ r)]) ∧ ∃ c n, w' = (w.alloc (.cells c 31)).drewN n := by
  have hc := fun w => scut_hit p r w h hs
  generalize p ++ col ++ r = s at *
  cases hp : p.toList.isEmpty
  · cases hr : r.toList.isEmpty
    · have h3 : hasC r = true := by simpa [hp, hr] using h1
      clear h1
      go_enter Try.func19, Try.ntmps19
      go_wp2_with (first | (go_at_call 20; refine (hc _).mono ?_; rintro e w' ⟨rfl, n, rfl⟩) | (go_at_call 21; refine (contains_any _ _).mono ?_; rintro e w' ⟨rfl, rfl⟩))
      exact bodyPost_ret (v := .agg #[.string ByteArray.empty, .string s]) (by simp [results, Try.results19, go_sem]; rfl) rfl ⟨rfl, _, n, rfl⟩
    · clear h1
      go_enter Try.func19, Try.ntmps19
      go_wp2_with (first | (go_at_call 20; refine (hc _).mono ?_; rintro e w' ⟨rfl, n, rfl⟩) | (go_at_call 21; refine (contains_any _ _).mono ?_; rintro e w' ⟨rfl, rfl⟩))
      exact bodyPost_ret (v := .agg #[.string ByteArray.empty, .string s]) (by simp [results, Try.results19, go_sem]; rfl) rfl ⟨rfl, _, n, rfl⟩
  · clear h1
    go_enter Try.func19, Try.ntmps19
    go_wp2_with (first | (go_at_call 20; refine (hc _).mono ?_; rintro e w' ⟨rfl, n, rfl⟩) | (go_at_call 21; refine (contains_any _ _).mono ?_; rintro e w' ⟨rfl, rfl⟩))
    exact bodyPost_ret (v := .agg #[.string ByteArray.empty, .string s]) (by simp [results, Try.results19, go_sem]; rfl) rfl ⟨rfl, _, n, rfl⟩

theorem isEmpty_data (s : ByteArray) : s.toList.isEmpty = s.data.toList.isEmpty := by rw [ByteArray.toList_eq]

/-- splitName, whatever the text. -/
theorem split_any (s : ByteArray) (w : World) (hs : s.size ≤ maxLen) :
    Calls Try.prog 19 #[.string s] w fun e w' => e = .returned (.agg #[.string (sp s), .string (lo s)]) ∧ ∃ c n, w' = (w.alloc (.cells c 31)).drewN n := by
  cases hc : hasC s
  · rw [sp_miss hc, lo_miss hc]; exact split_miss s w hc
  · obtain ⟨p, r, rfl, hp⟩ := cut_of hc
    rw [sp_mid hp, lo_mid hp]
    cases hcut : isCut p r
    · refine split_no p r w hp hs ?_
      rw [isEmpty_data, isEmpty_data]
      revert hcut; unfold isCut
      cases p.data.toList.isEmpty <;> cases r.data.toList.isEmpty <;> cases hasC r <;> simp
    · simp only [isCut, Bool.and_eq_true, Bool.not_eq_true'] at hcut
      exact split_yes p r w hp hs (by rw [isEmpty_data]; exact hcut.1.1) (by rw [isEmpty_data]; exact hcut.1.2) hcut.2

/-- ZZsplitName: the same, one block more. -/
theorem zz_any (s : ByteArray) (w : World) (hs : s.size ≤ maxLen) :
    Calls Try.prog 15 #[.string s] w fun e w' => e = .returned (.agg #[.string (sp s), .string (lo s)]) ∧ ∃ c d n, w' = ((w.alloc (.cells c 31)).alloc (.cells d 31)).drewN n := by
  go_enter Try.func15, Try.ntmps15
  go_wp2_with (go_at_call 19; refine (split_any s _ hs).mono ?_; rintro e w' ⟨rfl, c, n, rfl⟩)
  exact bodyPost_ret (v := .agg #[.string (sp s), .string (lo s)]) (by simp [results, Try.results15, go_sem]) rfl ⟨rfl, _, _, n, rfl⟩

/-- The bound on lengths. -/
theorem bytes2_any (a b : ByteArray) (w : World) (ha : a.size ≤ maxLen) (hb : b.size ≤ maxLen) :
    Calls Try.prog 13 #[.string a, .string b] w fun e w' => e = .returned (.bool (decide (a.size + b.size ≤ 1048576))) ∧ w' = w := by
  unfold maxLen at ha hb
  have hA : (a.size : Int) ≤ 9223372036854775807 := by omega
  have hB : (b.size : Int) ≤ 9223372036854775807 := by omega
  clear ha hb
  by_cases h1 : (1048576 : Int) < a.size
  · go_enter Try.func13, Try.ntmps13
    go_wp2
    go_ret
    exact ⟨ret_bool (by simp; omega), rfl⟩
  · by_cases h2 : (1048576 : Int) < b.size
    · go_enter Try.func13, Try.ntmps13
      go_wp2
      go_ret
      exact ⟨ret_bool (by simp; omega), rfl⟩
    · by_cases h3 : (1048576 : Int) < a.size + b.size
      all_goals
        go_enter Try.func13, Try.ntmps13
        go_wp2
        go_ret
        exact ⟨ret_bool (by simp; omega), rfl⟩
theorem bytes1_any (a : ByteArray) (w : World) (ha : a.size ≤ maxLen) :
    Calls Try.prog 16 #[.string a] w fun e w' => e = .returned (.bool (decide (a.size ≤ 1048576))) ∧ w' = w := by
  unfold maxLen at ha
  have hA : (a.size : Int) ≤ 9223372036854775807 := by omega
  clear ha
  by_cases h1 : (1048576 : Int) < a.size
  all_goals
    go_enter Try.func16, Try.ntmps16
    go_wp2
    go_ret
    exact ⟨ret_bool (by simp; omega), rfl⟩

end Go.Proofs.Qxb6608713a.Colon
