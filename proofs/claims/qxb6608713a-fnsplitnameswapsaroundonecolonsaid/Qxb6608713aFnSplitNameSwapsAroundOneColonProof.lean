/-
  A PROOF OF 'Rows.FnSplitNameSwapsAroundOneColonSaid' ('zzlaws_internal_xmlread_b1.FnSplitNameSwapsAroundOneColon'). The frame is the guide's shell (proof-skeleton.mjs); the walk and its plain law are ours. By an AI agent.
-/
import Derived.Test.Qxb6608713aColon
import Derived.WalkKit
import Derived.ProofKit
import Derived.OpenShut
import Derived.ShutString
namespace Go.Proofs.Qxb6608713a.fnSplitNameSwapsAroundOneColon
open Go.ChangeShapes Go.WideShapes Go.ChangeAt Go.RowKit
open Go.ChangeMaps (open_string shut_string)
set_option linter.unusedVariables false      -- a walk need not use every 'w<i>' (that an integer argument fits its kind)

theorem own : ownKnob Try.prog.godebug = none := by kernel_rfl

open Plain Colon
attribute [local go_sem] setCell_drewN alloc_drewN

/-! ### THE PLAIN LAW -/
theorem cut_yes {p r : ByteArray} (h1 : p.data.toList.isEmpty = false) (h2 : r.data.toList.isEmpty = false) (h3 : hasC r = false) : isCut p r = true := by
  simp [isCut, h1, h2, h3]
theorem app_assoc (a b c : ByteArray) : a ++ b ++ c = a ++ (b ++ c) := by
  apply ext; simp
/-- No ':' in either, neither empty. -/
theorem both_yes {p r : ByteArray} (hp : hasC p = false) (hr : hasC r = false) (h1 : p.toList.isEmpty = false) (h2 : r.toList.isEmpty = false) :
    sp (p ++ col ++ r) = p ∧ lo (p ++ col ++ r) = r := by
  rw [isEmpty_data] at h1 h2
  rw [sp_mid hp, lo_mid hp, cut_yes h1 h2 hr]; simp
/-- The part behind the first ':' is empty or bears another, or the part ahead is empty. -/
theorem both_no {p r : ByteArray} (hp : hasC p = false) (h : isCut p r = false) : sp (p ++ col ++ r) = ByteArray.empty ∧ lo (p ++ col ++ r) = p ++ col ++ r := by
  rw [sp_mid hp, lo_mid hp, h]; simp
theorem no_ahead {p r : ByteArray} (hp : hasC p = false) (h : r.toList.isEmpty = true ∨ hasC r = true) : sp (p ++ col ++ r) = ByteArray.empty ∧ lo (p ++ col ++ r) = p ++ col ++ r := by
  refine both_no hp ?_
  rw [isEmpty_data] at h
  rcases h with h | h <;> simp [isCut, h]
theorem no_behind {p r : ByteArray} (hp : hasC p = false) (h : r.toList.isEmpty = true ∨ hasC r = true) : sp (r ++ col ++ p) = ByteArray.empty ∧ lo (r ++ col ++ p) = r ++ col ++ p := by
  cases hr : hasC r
  · have h' : r.toList.isEmpty = true := by simpa [hr] using h
    refine both_no hr ?_
    rw [isEmpty_data] at h'
    simp [isCut, h']
  · obtain ⟨a, b, rfl, ha⟩ := cut_of hr
    have e : a ++ col ++ b ++ col ++ p = a ++ col ++ (b ++ col ++ p) := by simp only [app_assoc]
    rw [e]
    refine both_no ha ?_
    simp [isCut, hasC_mid]

/-! ### STEP 1: THE WALK -/
theorem grown_drewN {W w : World} (h : Grown W w) (n : Nat) : Grown W (w.drewN n) := h
theorem short_mid {a b : ByteArray} (h : a.size + b.size ≤ 1048576) : (a ++ col ++ b).size ≤ maxLen := by
  have e : (a ++ col ++ b).size = a.size + 1 + b.size := by rw [size_app, size_app]; rfl
  rw [e]; unfold maxLen; omega

theorem walk_yes (a0 : ByteArray) (a1 : ByteArray) (w : World)
   (h0 : a0.size + a1.size ≤ 1048576) (h1 : (a0.size : Int) ≤ 524288) (h2 : (a1.size : Int) ≤ 524288) (h3 : a0.toList.isEmpty = false) (h4 : hasC a0 = false)
   (h5 : a1.toList.isEmpty = false) (h6 : hasC a1 = false) :
    Calls Try.prog 5 #[.string a0, .string a1] w fun e w' => e = .returned (.bool true) ∧ Grown w w' := by
  have m0 : a0.size ≤ maxLen := by unfold maxLen; omega
  have m1 : a1.size ≤ maxLen := by unfold maxLen; omega
  have hd : decide (a0.size + a1.size ≤ 1048576) = true := by simpa using h0
  obtain ⟨e1, e2⟩ := both_yes h4 h6 h3 h5
  obtain ⟨e3, e4⟩ := both_yes h6 h4 h5 h3
  have cX := fun w => zz_any _ w (short_mid h0)
  have cY := fun w => zz_any _ w (short_mid (a := a1) (b := a0) (by omega))
  rw [e1, e2] at cX
  rw [e3, e4] at cY
  clear e1 e2 e3 e4
  go_enter Try.func5, Try.ntmps5
  go_wp2_with (first | (go_at_call 13; refine (bytes2_any _ _ _ m0 m1).mono ?_; rintro e w' ⟨rfl, rfl⟩) | (go_at_call 14; refine (hasColon_any _ _ (by assumption)).mono ?_; rintro e w' ⟨rfl, rfl⟩))
  refine (cX _).mono ?_
  rintro e w' ⟨rfl, c1, d1, n1, rfl⟩
  go_wp2_with fail
  refine (cY _).mono ?_
  rintro e w' ⟨rfl, c2, d2, n2, rfl⟩
  go_wp2_with (go_at_call 14; refine (hasColon_any _ _ (by assumption)).mono ?_; rintro e w' ⟨rfl, rfl⟩)
  go_ret
  exact ⟨rfl, by repeat (first | exact Grown.refl _ | apply grown_drewN | apply Grown.alloc)⟩

theorem walk_no (a0 : ByteArray) (a1 : ByteArray) (w : World)
   (h0 : a0.size + a1.size ≤ 1048576) (h1 : (a0.size : Int) ≤ 524288) (h2 : (a1.size : Int) ≤ 524288) (h3 : a0.toList.isEmpty = false) (h4 : hasC a0 = false)
   (h5 : a1.toList.isEmpty = true ∨ a1.toList.isEmpty = false ∧ hasC a1 = true) :
    Calls Try.prog 5 #[.string a0, .string a1] w fun e w' => e = .returned (.bool true) ∧ Grown w w' := by
  have m0 : a0.size ≤ maxLen := by unfold maxLen; omega
  have m1 : a1.size ≤ maxLen := by unfold maxLen; omega
  have hd : decide (a0.size + a1.size ≤ 1048576) = true := by simpa using h0
  have h56 : a1.toList.isEmpty = true ∨ hasC a1 = true := by
    rcases h5 with h | ⟨_, h⟩
    · exact Or.inl h
    · exact Or.inr h
  obtain ⟨e1, e2⟩ := no_ahead h4 h56
  obtain ⟨e3, e4⟩ := no_behind h4 h56
  clear h56
  have cX := fun w => zz_any _ w (short_mid h0)
  have cY := fun w => zz_any _ w (short_mid (a := a1) (b := a0) (by omega))
  rw [e1, e2] at cX
  rw [e3, e4] at cY
  clear e1 e2 e3 e4
  rcases h5 with h5 | ⟨h5, h6⟩
  all_goals
    go_enter Try.func5, Try.ntmps5
    go_wp2_with (first | (go_at_call 13; refine (bytes2_any _ _ _ m0 m1).mono ?_; rintro e w' ⟨rfl, rfl⟩) | (go_at_call 14; refine (hasColon_any _ _ (by assumption)).mono ?_; rintro e w' ⟨rfl, rfl⟩))
    refine (cX _).mono ?_
    rintro e w' ⟨rfl, c1, d1, n1, rfl⟩
    go_wp2_with fail
    refine (cY _).mono ?_
    rintro e w' ⟨rfl, c2, d2, n2, rfl⟩
    go_wp2_with (go_at_call 14; refine (hasColon_any _ _ (by assumption)).mono ?_; rintro e w' ⟨rfl, rfl⟩)
    go_ret
    exact ⟨rfl, by repeat (first | exact Grown.refl _ | apply grown_drewN | apply Grown.alloc)⟩

/-- The ways that answer true at once. -/
theorem walk_early (a0 : ByteArray) (a1 : ByteArray) (w : World) (w0 : a0.size ≤ maxLen) (w1 : a1.size ≤ maxLen)
    (h : ¬ a0.size + a1.size ≤ 1048576 ∨ (a0.size + a1.size ≤ 1048576 ∧ ((524288 : Int) < a0.size ∨ (a0.size : Int) ≤ 524288 ∧ ((524288 : Int) < a1.size ∨ ((a1.size : Int) ≤ 524288 ∧ (a0.toList.isEmpty = true ∨ (a0.toList.isEmpty = false ∧ hasC a0 = true))))))) :
    Calls Try.prog 5 #[.string a0, .string a1] w fun e w' => e = .returned (.bool true) ∧ Grown w w' := by
  rcases h with h | ⟨h0, h | ⟨h1, h | ⟨h2, h | ⟨h3, h4⟩⟩⟩⟩
  · have hd : decide (a0.size + a1.size ≤ 1048576) = false := by simpa using h
    clear h
    go_enter Try.func5, Try.ntmps5
    go_wp2_with (first | (go_at_call 13; refine (bytes2_any _ _ _ w0 w1).mono ?_; rintro e w' ⟨rfl, rfl⟩))
    go_ret
    exact ⟨rfl, Grown.refl _⟩
  all_goals
    have hd : decide (a0.size + a1.size ≤ 1048576) = true := by simpa using h0
    go_enter Try.func5, Try.ntmps5
    go_wp2_with (first | (go_at_call 13; refine (bytes2_any _ _ _ w0 w1).mono ?_; rintro e w' ⟨rfl, rfl⟩) | (go_at_call 14; refine (hasColon_any _ _ (by assumption)).mono ?_; rintro e w' ⟨rfl, rfl⟩))
    go_ret
    exact ⟨rfl, Grown.refl _⟩

theorem walk (a0 : ByteArray) (a1 : ByteArray) (w0 : a0.size ≤ maxLen) (w1 : a1.size ≤ maxLen) (w : World) :
    Calls Try.prog 5 #[.string a0, .string a1] w fun e w' => e = .returned (.bool true) ∧ Grown w w' := by
  by_cases h0 : a0.size + a1.size ≤ 1048576
  · by_cases h1 : (524288 : Int) < a0.size
    · exact walk_early a0 a1 w w0 w1 (Or.inr ⟨h0, Or.inl h1⟩)
    · by_cases h2 : (524288 : Int) < a1.size
      · exact walk_early a0 a1 w w0 w1 (Or.inr ⟨h0, Or.inr ⟨by omega, Or.inl h2⟩⟩)
      · cases h3 : a0.toList.isEmpty
        · cases h4 : hasC a0
          · cases h5 : a1.toList.isEmpty
            · cases h6 : hasC a1
              · exact walk_yes a0 a1 w h0 (by omega) (by omega) h3 h4 h5 h6
              · exact walk_no a0 a1 w h0 (by omega) (by omega) h3 h4 (Or.inr ⟨h5, h6⟩)
            · exact walk_no a0 a1 w h0 (by omega) (by omega) h3 h4 (Or.inl h5)
          · exact walk_early a0 a1 w w0 w1 (Or.inr ⟨h0, Or.inr ⟨by omega, Or.inr ⟨by omega, Or.inr ⟨h3, h4⟩⟩⟩⟩)
        · exact walk_early a0 a1 w w0 w1 (Or.inr ⟨h0, Or.inr ⟨by omega, Or.inr ⟨by omega, Or.inl h3⟩⟩⟩)
  · exact walk_early a0 a1 w w0 w1 (Or.inl h0)

/-! ### THE ROW's STEP: WRITTEN OUT: LEAVE IT -/
set_option maxRecDepth 100000 in
theorem lifted (os : Os) (started : os.Started) (H : Type) (enc : TypeId × Value → H) :
    ReturnsInHanded {} Try.checked os 5 .any (Rows.fnSplitNameSwapsAroundOneColonSpec.pre6 enc Try.prog Try.f5 Rows.fnSplitNameSwapsAroundOneColonRow.domain false) (Rows.fnSplitNameSwapsAroundOneColonSpec.post enc Try.prog Try.f5 false true false false) := by
  refine returnsInHanded_of_change (C := Try.checked) own started (by kernel_rfl) Try.func5
    (ChangeSpec.witness6 (enc := enc) (C := Try.checked) false ⟨#[], #[.string ByteArray.empty, .string ByteArray.empty], []⟩ 8 (by kernel_rfl) (by kernel_rfl) (by kernel_rfl) (by kernel_rfl)) ?_
  intro W base args ds gs before hval0 hW hcnd _
  have hval : ∀ (j : Nat) t v, Try.f5.params[j]? = some t → args[j]? = some v → Value.okWide Try.prog W .any base t v := hval0
  have hW' := hW
  obtain ⟨p, q, hA0, hV, rfl, hfz, hnd⟩ := hW
  have hA : DataW.TrodAll enc Try.prog W 0 (fun _ => true) true Try.f5.params.toList args.toList ds p := hA0
  rw [Try.params5] at hA hval
  obtain ⟨v0, vs0, d0, ds0, p0, q0, hargs, rfl, rfl, h0, r0⟩ := trodAll_cons hA
  obtain ⟨v1, vs1, d1, ds1, p1, q1, rfl, rfl, rfl, h1, r1⟩ := trodAll_cons r0
  obtain ⟨rfl, rfl, rfl⟩ := trodAll_nil r1
  obtain rfl : args = #[v0, v1] := by cases args; simp_all
  obtain ⟨rfl, rfl⟩ := trodVars_none hV
  obtain ⟨a0, rfl, rfl, rfl, w0⟩ := open_string Try.underlying9 (hval 0 9 v0 rfl rfl) h0
  obtain ⟨a1, rfl, rfl, rfl, w1⟩ := open_string Try.underlying9 (hval 1 9 v1 rfl rfl) h1
  clear hA0 hval0
  simp only [List.append_nil] at hW'
  refine (walk a0 a1 w0 w1 W).mono fun e W' ⟨he, hg⟩ => ?_
  subst he
  exact ⟨_, rfl, post_of_same (pa := []) (pv := []) hW' (fun _ _ _ => (trodAll_cons_mk (shut_bool Try.underlying4 _) trodAll_mk0)) (fun sp _ => (trodAll_cons_mk (shut_string Try.underlying9 w0) (trodAll_cons_mk (shut_string Try.underlying9 w1) trodAll_mk0))) (fun _ _ => rfl) rfl
    (hg.frame _) hg.2.1 (ok_one (by kernel_rfl) rfl (okWide_bool_mk Try.underlying4 _))⟩

theorem over : Rows.fnSplitNameSwapsAroundOneColonRow.holds Try.pinned (OpenSpec.ofChange Rows.fnSplitNameSwapsAroundOneColonSpec) :=
  OpenClaim.holds_of_wide 5 Try.f5 rfl rfl rfl rfl rfl rfl rfl ⟨rfl, rfl, rfl, rfl, rfl⟩ rfl rfl rfl rfl rfl (by kernel_rfl) Try.func5 (by kernel_rfl)
    (of_decide_eq_true (by kernel_rfl)) (by unfold Func.isWrapper; first | (rw [if_pos (by decide +kernel)]; kernel_rfl) | (rw [if_neg (by decide +kernel)]; exact ⟨rfl, rfl⟩))
    (fun os started H enc _ => lifted os started H enc)

/-- ████ THE STATEMENT ████ -/
theorem proved : Rows.FnSplitNameSwapsAroundOneColonSaid :=
  over
#print axioms proved
end Go.Proofs.Qxb6608713a.fnSplitNameSwapsAroundOneColon
