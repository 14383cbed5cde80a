/-
  A PROOF OF 'Rows.FnSplitNamePartsRejoinAndStaySplitSaid' ('zzlaws_internal_xmlread_b1.FnSplitNamePartsRejoinAndStaySplit'). The frame is the guide's shell (proof-skeleton.mjs); the walk and its plain law are ours. By an AI agent.
-/
import Derived.Test.Qxb6608713aColon
import Derived.WalkKit
import Derived.ProofKit
import Derived.OpenShut
import Derived.ShutString
namespace Go.Proofs.Qxb6608713a.fnSplitNamePartsRejoinAndStaySplit
open Go.ChangeShapes Go.WideShapes Go.ChangeAt Go.RowKit
open Go.ChangeMaps (open_string shut_string)
set_option linter.unusedVariables false      -- a walk need not use every 'w<i>' (that an integer argument fits its kind)

theorem own : ownKnob Try.prog.godebug = none := by kernel_rfl

open Plain Colon
attribute [local go_sem] setCell_drewN alloc_drewN

/-! ### THE PLAIN LAW: whole, or two parts that are neither empty nor bear a ':' -/
theorem two_ways (s : ByteArray) : (sp s = ByteArray.empty ∧ lo s = s) ∨
    ∃ p r : ByteArray, s = p ++ col ++ r ∧ sp s = p ∧ lo s = r ∧ hasC p = false ∧ hasC r = false ∧ p.toList.isEmpty = false ∧ r.toList.isEmpty = false := by
  cases hc : hasC s
  · exact Or.inl ⟨sp_miss hc, lo_miss hc⟩
  · obtain ⟨p, r, rfl, hp⟩ := cut_of hc
    rw [sp_mid hp, lo_mid hp]
    cases hcut : isCut p r
    · exact Or.inl ⟨rfl, rfl⟩
    · simp only [isCut, Bool.and_eq_true, Bool.not_eq_true'] at hcut
      exact Or.inr ⟨p, r, rfl, rfl, rfl, hp, hcut.2, by rw [isEmpty_data]; exact hcut.1.1, by rw [isEmpty_data]; exact hcut.1.2⟩

/-! ### STEP 1: THE WALK -/
theorem grown_drewN {W w : World} (h : Grown W w) (n : Nat) : Grown W (w.drewN n) := h

theorem walk_whole (a0 : ByteArray) (w : World) (h0 : (a0.size : Int) ≤ 1048576) (e1 : sp a0 = ByteArray.empty) (e2 : lo a0 = a0) :
    Calls Try.prog 6 #[.string a0] w fun e w' => e = .returned (.bool true) ∧ Grown w w' := by
  have m0 : a0.size ≤ maxLen := by unfold maxLen; omega
  have hd : decide (a0.size ≤ 1048576) = true := by simp; omega
  have cX := fun w => zz_any _ w m0
  rw [e1, e2] at cX
  clear e1 e2
  go_enter Try.func6, Try.ntmps6
  go_wp2_with (first | (go_at_call 16; refine (bytes1_any _ _ m0).mono ?_; rintro e w' ⟨rfl, rfl⟩))
  refine (cX _).mono ?_
  rintro e w' ⟨rfl, c1, d1, n1, rfl⟩
  go_wp2_with fail
  go_ret
  exact ⟨rfl, by repeat (first | exact Grown.refl _ | apply grown_drewN | apply Grown.alloc)⟩

theorem walk_cut (p r : ByteArray) (w : World) (h0 : ((p ++ col ++ r).size : Int) ≤ 1048576) (e1 : sp (p ++ col ++ r) = p) (e2 : lo (p ++ col ++ r) = r)
    (hp : hasC p = false) (hr : hasC r = false) (zp : p.toList.isEmpty = false) (zr : r.toList.isEmpty = false) :
    Calls Try.prog 6 #[.string (p ++ col ++ r)] w fun e w' => e = .returned (.bool true) ∧ Grown w w' := by
  have m0 : (p ++ col ++ r).size ≤ maxLen := by unfold maxLen; omega
  have ez : (p ++ col ++ r).size = p.size + 1 + r.size := by rw [size_app, size_app]; rfl
  have m1 : p.size ≤ maxLen := by omega
  have m2 : r.size ≤ maxLen := by omega
  have hd : decide (p.size + 1 + r.size ≤ 1048576) = true := by rw [decide_eq_true_iff]; omega
  have hq : (p.size : Int) + 1 + r.size ≤ 1048576 := by omega
  have cX := fun w => zz_any _ w m0
  have cP := fun w => zz_any p w m1
  have cR := fun w => zz_any r w m2
  rw [e1, e2] at cX
  rw [sp_miss hp, lo_miss hp] at cP
  rw [sp_miss hr, lo_miss hr] at cR
  clear e1 e2 ez h0
  go_enter Try.func6, Try.ntmps6
  go_wp2_with fail
  refine (bytes1_any _ _ m0).mono ?_
  rintro e w' ⟨rfl, rfl⟩
  go_wp2_with fail
  refine (cX _).mono ?_
  rintro e w' ⟨rfl, c1, d1, n1, rfl⟩
  go_wp2_with (go_at_call 14; refine (hasColon_any _ _ (by assumption)).mono ?_; rintro e w' ⟨rfl, rfl⟩)
  refine (cP _).mono ?_
  rintro e w' ⟨rfl, c2, d2, n2, rfl⟩
  go_wp2_with fail
  refine (cR _).mono ?_
  rintro e w' ⟨rfl, c3, d3, n3, rfl⟩
  go_wp2_with fail
  go_ret
  exact ⟨rfl, by repeat (first | exact Grown.refl _ | apply grown_drewN | apply Grown.alloc)⟩

theorem walk_early (a0 : ByteArray) (w : World) (w0 : a0.size ≤ maxLen) (h : ¬ (a0.size : Int) ≤ 1048576) :
    Calls Try.prog 6 #[.string a0] w fun e w' => e = .returned (.bool true) ∧ Grown w w' := by
  have hd : decide (a0.size ≤ 1048576) = false := by simp; omega
  go_enter Try.func6, Try.ntmps6
  go_wp2_with (first | (go_at_call 16; refine (bytes1_any _ _ w0).mono ?_; rintro e w' ⟨rfl, rfl⟩))
  go_ret
  exact ⟨rfl, Grown.refl _⟩

theorem walk (a0 : ByteArray) (w0 : a0.size ≤ maxLen) (w : World) :
    Calls Try.prog 6 #[.string a0] w fun e w' => e = .returned (.bool true) ∧ Grown w w' := by
  by_cases h0 : (a0.size : Int) ≤ 1048576
  · rcases two_ways a0 with ⟨e1, e2⟩ | ⟨p, r, rfl, e1, e2, hp, hr, zp, zr⟩
    · exact walk_whole a0 w h0 e1 e2
    · exact walk_cut p r w h0 e1 e2 hp hr zp zr
  · exact walk_early a0 w w0 h0

/-! ### THE ROW's STEP: WRITTEN OUT: LEAVE IT -/
set_option maxRecDepth 100000 in
theorem lifted (os : Os) (started : os.Started) (H : Type) (enc : TypeId × Value → H) :
    ReturnsInHanded {} Try.checked os 6 .any (Rows.fnSplitNamePartsRejoinAndStaySplitSpec.pre6 enc Try.prog Try.f6 Rows.fnSplitNamePartsRejoinAndStaySplitRow.domain false) (Rows.fnSplitNamePartsRejoinAndStaySplitSpec.post enc Try.prog Try.f6 false true false false) := by
  refine returnsInHanded_of_change (C := Try.checked) own started (by kernel_rfl) Try.func6
    (ChangeSpec.witness6 (enc := enc) (C := Try.checked) false ⟨#[], #[.string ByteArray.empty], []⟩ 8 (by kernel_rfl) (by kernel_rfl) (by kernel_rfl) (by kernel_rfl)) ?_
  intro W base args ds gs before hval0 hW hcnd _
  have hval : ∀ (j : Nat) t v, Try.f6.params[j]? = some t → args[j]? = some v → Value.okWide Try.prog W .any base t v := hval0
  have hW' := hW
  obtain ⟨p, q, hA0, hV, rfl, hfz, hnd⟩ := hW
  have hA : DataW.TrodAll enc Try.prog W 0 (fun _ => true) true Try.f6.params.toList args.toList ds p := hA0
  rw [Try.params6] at hA hval
  obtain ⟨v0, vs0, d0, ds0, p0, q0, hargs, rfl, rfl, h0, r0⟩ := trodAll_cons hA
  obtain ⟨rfl, rfl, rfl⟩ := trodAll_nil r0
  obtain rfl : args = #[v0] := by cases args; simp_all
  obtain ⟨rfl, rfl⟩ := trodVars_none hV
  obtain ⟨a0, rfl, rfl, rfl, w0⟩ := open_string Try.underlying9 (hval 0 9 v0 rfl rfl) h0
  clear hA0 hval0
  simp only [List.append_nil] at hW'
  refine (walk a0 w0 W).mono fun e W' ⟨he, hg⟩ => ?_
  subst he
  exact ⟨_, rfl, post_of_same (pa := []) (pv := []) hW' (fun _ _ _ => (trodAll_cons_mk (shut_bool Try.underlying4 _) trodAll_mk0)) (fun sp _ => (trodAll_cons_mk (shut_string Try.underlying9 w0) trodAll_mk0)) (fun _ _ => rfl) rfl
    (hg.frame _) hg.2.1 (ok_one (by kernel_rfl) rfl (okWide_bool_mk Try.underlying4 _))⟩

theorem over : Rows.fnSplitNamePartsRejoinAndStaySplitRow.holds Try.pinned (OpenSpec.ofChange Rows.fnSplitNamePartsRejoinAndStaySplitSpec) :=
  OpenClaim.holds_of_wide 6 Try.f6 rfl rfl rfl rfl rfl rfl rfl ⟨rfl, rfl, rfl, rfl, rfl⟩ rfl rfl rfl rfl rfl (by kernel_rfl) Try.func6 (by kernel_rfl)
    (of_decide_eq_true (by kernel_rfl)) (by unfold Func.isWrapper; first | (rw [if_pos (by decide +kernel)]; kernel_rfl) | (rw [if_neg (by decide +kernel)]; exact ⟨rfl, rfl⟩))
    (fun os started H enc _ => lifted os started H enc)

/-- ████ THE STATEMENT ████ -/
theorem proved : Rows.FnSplitNamePartsRejoinAndStaySplitSaid :=
  over
#print axioms proved
end Go.Proofs.Qxb6608713a.fnSplitNamePartsRejoinAndStaySplit
