/-
  A PROOF OF 'Rows.FnCountCountsWhatIsLaidOutSaid' ('zzlaws_bson_b1.FnCountCountsWhatIsLaidOut'). The frame is the guide's shell for slices (proof-skeleton.mjs), turned to a slice of strings and one of bytes; the walk and its plain law are ours. By an AI agent.
-/
import Derived.Test.Qxb6609231aLaw
import Derived.OpenShut
import Derived.SliceStrings
import Derived.Carry
namespace Go.Proofs.Qxb6609231a.fnCountCountsWhatIsLaidOut
open Go.ChangeShapes Go.WideShapes Go.ChangeAt Go.RowKit
open Plain Lay Count Law
set_option linter.unusedVariables false

theorem own : ownKnob Try.prog.godebug = none := by kernel_rfl
theorem laidOut : laidOutB Try.prog = true := by kernel_rfl

theorem keys_none (w : World) (a : Option Addr) : Keys w a 0 [] := ⟨rfl, fun i => by simp [maxLen], fun h => absurd h (Nat.lt_irrefl _)⟩
theorem sel_none (w : World) (a : Option Addr) : Sel w a 0 [] := ⟨rfl, fun h => absurd h (Nat.lt_irrefl _)⟩
theorem keys_of {w : World} {x : Addr} {len cap : Nat} {ss : List ByteArray} (hl : len ≤ cap) (hz : ss.length = cap) (hc : ∀ i, i < ss.length → w.cell? (x.add i) = some (.string (ss.getD i ByteArray.empty))) (hw : ∀ s ∈ ss, s.size ≤ maxLen) : Keys w (some x) len (ss.take len) := by
  refine ⟨by rw [List.length_take]; omega, fun i => ?_, fun hp => ?_⟩
  · rw [List.getD_eq_getElem?_getD]
    cases h : (ss.take len)[i]? with
    | none => simp [maxLen]
    | some s => exact hw s (List.mem_of_mem_take (List.mem_of_getElem? h))
  · obtain ⟨b, off, spot⟩ := x
    have h0 := hc 0 (by omega)
    have hspot : spot = none := by simpa [Addr.add] using World.cell?_spot h0
    subst hspot
    refine ⟨b, off, rfl, block_lt_of_cell (a := (⟨b, off, none⟩ : Addr).add 0) h0, fun i hi => ?_⟩
    have := hc i (by omega)
    rw [Go.WideShapes.add_plain] at this
    rw [this, List.getD_eq_getElem?_getD, List.getD_eq_getElem?_getD, List.getElem?_take_of_lt hi]
theorem sel_of {w : World} {x : Addr} {len cap : Nat} {zs : List Int} (hl : len ≤ cap) (hz : zs.length = cap) (hc : ∀ i, i < zs.length → w.cell? (x.add i) = some (.int .u8 (zs.getD i 0))) (hw : ∀ n ∈ zs, (Lit.int .u8 n).wf = true) : Sel w (some x) len ((zs.take len).map fun n => UInt8.ofNat n.toNat) := by
  refine ⟨by rw [List.length_map, List.length_take]; omega, fun hp => ?_⟩
  obtain ⟨b, off, spot⟩ := x
  have h0 := hc 0 (by omega)
  have hspot : spot = none := by simpa [Addr.add] using World.cell?_spot h0
  subst hspot
  refine ⟨b, off, rfl, block_lt_of_cell (a := (⟨b, off, none⟩ : Addr).add 0) h0, fun i hi => ?_⟩
  have := hc i (by omega)
  rw [Go.WideShapes.add_plain] at this
  have hin : i < zs.length := by omega
  have hb := bounds_u8 (hw zs[i] (List.getElem_mem _))
  rw [this, List.getD_eq_getElem?_getD, List.getD_eq_getElem?_getD, List.getElem?_map, List.getElem?_take_of_lt hi, List.getElem?_eq_getElem hin]
  simp only [Option.getD_some, Option.map_some]
  rw [UInt8.toNat_ofNat_of_lt' (by simp; omega)]
  congr 2; omega

/-! ### THE ROW's STEP: WRITTEN OUT: LEAVE IT -/
set_option maxRecDepth 100000 in
theorem lifted (os : Os) (started : os.Started) (H : Type) (enc : TypeId × Value → H) :
    ReturnsInHanded {} Try.checked os 3 .any (Rows.fnCountCountsWhatIsLaidOutSpec.pre6 enc Try.prog Try.f3 Rows.fnCountCountsWhatIsLaidOutRow.domain false) (Rows.fnCountCountsWhatIsLaidOutSpec.post enc Try.prog Try.f3 false true false false) := by
  refine returnsInHanded_of_change (C := Try.checked) own started (by kernel_rfl) Try.func3
    (ChangeSpec.witness6 (enc := enc) (C := Try.checked) false ⟨#[], #[.slice none 0 0, .slice none 0 0], []⟩ 8 (by kernel_rfl) (by kernel_rfl) (by kernel_rfl) (by kernel_rfl)) ?_
  intro W base args ds gs before hval0 hW hcnd _
  have hval : ∀ (j : Nat) t v, Try.f3.params[j]? = some t → args[j]? = some v → Value.okWide Try.prog W .any base t v := hval0
  have hW' := hW
  obtain ⟨p, q, hA0, hV, rfl, hfz, hnd⟩ := hW
  have hA : DataW.TrodAll enc Try.prog W 0 (fun _ => true) true Try.f3.params.toList args.toList ds p := hA0
  rw [Try.params3] at hA hval
  obtain ⟨v0, vs0, d0, ds0, p0, q0, hargs, rfl, rfl, h0, r0⟩ := trodAll_cons hA
  obtain ⟨v1, vs1, d1, ds1, p1, q1, rfl, rfl, rfl, h1, r1⟩ := trodAll_cons r0
  obtain ⟨rfl, rfl, rfl⟩ := trodAll_nil r1
  obtain rfl : args = #[v0, v1] := by cases args; simp_all
  obtain ⟨rfl, rfl⟩ := trodVars_none hV
  obtain ⟨a0, len0, cap0, rfl⟩ := okWide_slice Try.underlying22 (hval 0 22 v0 rfl rfl)
  have k0 := h0
  have lt0 : ∀ x ∈ p0, x.block < W.heap.size := by obtain ⟨m, hm⟩ := k0; exact DataW.trod_lt m _ _ _ hm
  obtain ⟨ss, hk, hl0⟩ : ∃ ss, Keys W a0 len0 ss ∧ len0 ≤ maxLen := by
    obtain ⟨fuel, hf⟩ := h0
    rcases open_strings Try.underlying22 Try.underlying9 (by kernel_rfl) hf with ⟨hcs, _⟩ | ⟨x, l, c, ss, hcs, _, hl, hm, hz, _, hcell, hws⟩
    · simp [Value.cells] at hcs
      obtain ⟨rfl, rfl, rfl⟩ := hcs
      exact ⟨[], keys_none W none, Nat.zero_le _⟩
    · simp [Value.cells] at hcs
      obtain ⟨rfl, rfl, rfl⟩ := hcs
      exact ⟨_, keys_of hl (by simpa using hz) hcell hws, by omega⟩
  obtain ⟨a1, len1, cap1, rfl⟩ := okWide_slice Try.underlying23 (hval 1 23 v1 rfl rfl)
  have k1 := h1
  have lt1 : ∀ x ∈ p1, x.block < W.heap.size := by obtain ⟨m, hm⟩ := k1; exact DataW.trod_lt m _ _ _ hm
  obtain ⟨zs, hs, hl1⟩ : ∃ zs, Sel W a1 len1 zs ∧ len1 ≤ maxLen := by
    obtain ⟨fuel, hf⟩ := h1
    rcases open_ints Try.underlying23 Try.underlying5 (by kernel_rfl) hf with ⟨hcs, _⟩ | ⟨x, l, c, zs, hcs, _, hl, hm, hz, _, hcell, hwz⟩
    · simp [Value.cells] at hcs
      obtain ⟨rfl, rfl, rfl⟩ := hcs
      exact ⟨[], sel_none W none, Nat.zero_le _⟩
    · simp [Value.cells] at hcs
      obtain ⟨rfl, rfl, rfl⟩ := hcs
      exact ⟨_, sel_of hl (by simpa using hz) hcell hwz, by omega⟩
  clear hA0 hval0
  refine (walk a0 a1 len0 cap0 len1 cap1 ss zs W hk hs hl0 hl1).mono fun e W' ⟨he, bel⟩ => ?_
  subst he
  exact ⟨_, rfl, _, _, _, [], _, [], hW', trodAll_mk1 (shut_bool Try.underlying4 _), (trodAll_cons_mk (Below.trod laidOut (by kernel_rfl) (of_decide_eq_true (by kernel_rfl)) k0 bel lt0) (trodAll_cons_mk (Below.trod laidOut (by kernel_rfl) (of_decide_eq_true (by kernel_rfl)) k1 bel lt1) trodAll_mk0)), rfl, bel.frame _, fun h => by cases h⟩

theorem over : Rows.fnCountCountsWhatIsLaidOutRow.holds Try.pinned (OpenSpec.ofChange Rows.fnCountCountsWhatIsLaidOutSpec) :=
  OpenClaim.holds_of_wide 3 Try.f3 rfl rfl rfl rfl rfl rfl rfl ⟨rfl, rfl, rfl, rfl, rfl⟩ rfl rfl rfl rfl rfl (by kernel_rfl) Try.func3 (by kernel_rfl)
    (of_decide_eq_true (by kernel_rfl)) (by unfold Func.isWrapper; first | (rw [if_pos (by decide +kernel)]; kernel_rfl) | (rw [if_neg (by decide +kernel)]; exact ⟨rfl, rfl⟩))
    (fun os started H enc _ => lifted os started H enc)

/-- ████ THE STATEMENT ████ -/
theorem proved : Rows.FnCountCountsWhatIsLaidOutSaid := over
#print axioms proved
end Go.Proofs.Qxb6609231a.fnCountCountsWhatIsLaidOut
