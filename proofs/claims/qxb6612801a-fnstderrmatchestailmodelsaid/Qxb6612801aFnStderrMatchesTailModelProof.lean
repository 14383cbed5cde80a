/-
  A PROOF OF 'Rows.FnStderrMatchesTailModelSaid' ('zzlaws_internal_process_b1.FnStderrMatchesTailModel'). The frame is the guide's shell for slices (proof-skeleton.mjs), turned to a slice of slices of bytes; the walk and its plain law are ours. By an AI agent.
-/
import Derived.Test.Qxb6612801aLawM
import Derived.OpenShut
import Derived.ChangeOld
import Derived.Below
import Derived.Carry
namespace Go.Proofs.Qxb6612801a.fnStderrMatchesTailModel
open Go.ChangeShapes Go.WideShapes Go.ChangeAt Go.RowKit
open Tail LawM
set_option linter.unusedVariables false

theorem own : ownKnob Try.prog.godebug = none := by kernel_rfl
theorem laidOut : laidOutB Try.prog = true := by kernel_rfl

section
variable {H : Type} {enc : TypeId × Value → H} {w : World}

/-- One chunk, as it is read. -/
theorem src_of {n : Nat} {cs : List Value} {y : DataW H × List MemPlace} (h : DataW.trod enc Try.prog w 0 (fun _ => true) true n 24 cs = some y) : ∃ v bs, cs = [v] ∧ Src w.heap.size w v bs ∧ bs.length ≤ maxLen := by
  rcases open_ints Try.underlying24 Try.underlying5 (by kernel_rfl) h with ⟨rfl, _⟩ | ⟨x, l, c, zs, rfl, _, hl, hm, hz, _, hcell, hwz⟩
  · exact ⟨_, [], rfl, Or.inl ⟨rfl, rfl⟩, by simp [maxLen]⟩
  · have hz' : zs.length = c := by simpa using hz
    have hbl : ((zs.take l).map fun n => UInt8.ofNat n.toNat).length = l := by rw [List.length_map, List.length_take]; omega
    refine ⟨_, (zs.take l).map fun n => UInt8.ofNat n.toNat, rfl, Or.inr ⟨x, c, by rw [hbl], fun hp => ?_, fun j u hj => ?_⟩, by rw [hbl]; omega⟩
    · rw [hbl] at hp
      have h0 := hcell 0 (by omega)
      have := block_lt_of_cell h0
      rwa [show (x.add 0).block = x.block by unfold Addr.add; split <;> rfl] at this
    · have hjl := (List.getElem?_eq_some_iff.1 hj).1
      rw [List.length_map, hbl] at hjl
      have hjz : j < zs.length := by omega
      have hb := bounds_u8 (hwz zs[j] (List.getElem_mem _))
      rw [hcell j hjz, ← hj, List.getElem?_map, List.getElem?_map, List.getElem?_take_of_lt hjl, List.getElem?_eq_getElem hjz, List.getD_eq_getElem?_getD, List.getElem?_eq_getElem hjz]
      simp only [Option.getD_some, Option.map_some, cb]
      rw [UInt8.toNat_ofNat_of_lt' (by simp; omega)]
      congr 2; omega

theorem chunks_of {fuel len cap : Nat} {a : Option Addr} {x : DataW H × List MemPlace} (h : DataW.trod enc Try.prog w 0 (fun _ => true) true fuel 22 (Value.cells (.slice a len cap)).toList = some x) :
    ∃ vf bf, Chunks w a len vf bf ∧ len ≤ maxLen := by
  rcases DataW.trod_slice Try.underlying22 h with ⟨hcs, _⟩ | ⟨ad, l, c, elems, rest, n, _, hcs, _, hb, hl, hm, hlen, hel, _, _⟩
  · simp [Value.cells] at hcs
    obtain ⟨rfl, rfl, rfl⟩ := hcs
    exact ⟨fun _ => .slice none 0 0, fun _ => [], ⟨fun i hi => absurd hi (Nat.not_lt_zero _), fun i hi => absurd hi (Nat.not_lt_zero _), fun h => absurd h (Nat.lt_irrefl _)⟩, Nat.zero_le _⟩
  · simp [Value.cells] at hcs
    obtain ⟨rfl, rfl, rfl⟩ := hcs
    have hc1 : Try.prog.cellsOf 24 = 1 := by kernel_rfl
    rw [hc1] at hel
    have each : ∀ i, ∃ v : Value, ∃ bs : List UInt8, i < len → (w.cell? (ad.add i) = some v ∧ Src w.heap.size w v bs ∧ bs.length ≤ maxLen) := by
      intro i
      by_cases hi : i < len
      · have h1 := hel i hi
        rw [List.getElem?_eq_getElem (by omega), Nat.mul_one, Option.bind_eq_some_iff] at h1
        obtain ⟨cs', hcs', hy⟩ := h1
        obtain ⟨v, bs, rfl, hs, hbl⟩ := src_of hy
        exact ⟨v, bs, fun _ => ⟨cell_of_cells?_one hcs', hs, hbl⟩⟩
      · exact ⟨.slice none 0 0, [], fun h => absurd h hi⟩
    refine ⟨fun i => (each i).choose, fun i => (each i).choose_spec.choose, ⟨fun i hi => ((each i).choose_spec.choose_spec hi).2.1, fun i hi => ((each i).choose_spec.choose_spec hi).2.2, fun hp => ?_⟩, by omega⟩
    obtain ⟨b, off, spot⟩ := ad
    have h0 := ((each 0).choose_spec.choose_spec hp).1
    have hspot : spot = none := by simpa [Addr.add] using World.cell?_spot h0
    subst hspot
    refine ⟨b, off, rfl, block_lt_of_cell (a := (⟨b, off, none⟩ : Addr).add 0) h0, fun i hi => ?_⟩
    have := ((each i).choose_spec.choose_spec hi).1
    rw [← Go.WideShapes.add_plain]
    exact this
end

/-! ### THE ROW's STEP: WRITTEN OUT: LEAVE IT -/
set_option maxRecDepth 100000 in
theorem lifted (os : Os) (started : os.Started) (H : Type) (enc : TypeId × Value → H) :
    ReturnsInHanded {} Try.checked os 3 .any (Rows.fnStderrMatchesTailModelSpec.pre6 enc Try.prog Try.f3 Rows.fnStderrMatchesTailModelRow.domain false) (Rows.fnStderrMatchesTailModelSpec.post enc Try.prog Try.f3 false true false false) := by
  refine returnsInHanded_of_change (C := Try.checked) own started (by kernel_rfl) Try.func3
    (ChangeSpec.witness6 (enc := enc) (C := Try.checked) false ⟨#[], #[.slice none 0 0], []⟩ 8 (by kernel_rfl) (by kernel_rfl) (by kernel_rfl) (by kernel_rfl)) ?_
  intro W base args ds gs before hval0 hW hcnd _
  have hval : ∀ (j : Nat) t v, Try.f3.params[j]? = some t → args[j]? = some v → Value.okWide Try.prog W .any base t v := hval0
  have hW' := hW
  obtain ⟨p, q, hA0, hV, rfl, hfz, hnd⟩ := hW
  have hA : DataW.TrodAll enc Try.prog W 0 (fun _ => true) true Try.f3.params.toList args.toList ds p := hA0
  rw [Try.params3] at hA hval
  obtain ⟨v0, vs0, d0, ds0, p0, q0, hargs, rfl, rfl, h0, r0⟩ := trodAll_cons hA
  obtain ⟨rfl, rfl, rfl⟩ := trodAll_nil r0
  obtain rfl : args = #[v0] := by cases args; simp_all
  obtain ⟨rfl, rfl⟩ := trodVars_none hV
  obtain ⟨a0, len0, cap0, rfl⟩ := okWide_slice Try.underlying22 (hval 0 22 v0 rfl rfl)
  have k0 := h0
  have lt0 : ∀ x ∈ p0, x.block < W.heap.size := by obtain ⟨m, hm⟩ := k0; exact DataW.trod_lt m _ _ _ hm
  obtain ⟨vf, bf, hk, hl0⟩ : ∃ vf bf, Chunks W a0 len0 vf bf ∧ len0 ≤ maxLen := by
    obtain ⟨fuel, hf⟩ := h0
    exact chunks_of hf
  clear hA0 hval0
  refine (walk_main a0 len0 cap0 vf bf W hk hl0).mono fun e W' ⟨he, bel⟩ => ?_
  subst he
  exact ⟨_, rfl, _, _, _, [], _, [], hW', trodAll_mk1 (shut_bool Try.underlying4 _), (trodAll_cons_mk (Below.trod laidOut (by kernel_rfl) (of_decide_eq_true (by kernel_rfl)) k0 bel lt0) trodAll_mk0), rfl, bel.frame _, fun h => by cases h⟩

theorem over : Rows.fnStderrMatchesTailModelRow.holds Try.pinned (OpenSpec.ofChange Rows.fnStderrMatchesTailModelSpec) :=
  OpenClaim.holds_of_wide 3 Try.f3 rfl rfl rfl rfl rfl rfl rfl ⟨rfl, rfl, rfl, rfl, rfl⟩ rfl rfl rfl rfl rfl (by kernel_rfl) Try.func3 (by kernel_rfl)
    (of_decide_eq_true (by kernel_rfl)) (by unfold Func.isWrapper; first | (rw [if_pos (by decide +kernel)]; kernel_rfl) | (rw [if_neg (by decide +kernel)]; exact ⟨rfl, rfl⟩))
    (fun os started H enc _ => lifted os started H enc)

/-- ████ THE STATEMENT ████ -/
theorem proved : Rows.FnStderrMatchesTailModelSaid := over
#print axioms proved
end Go.Proofs.Qxb6612801a.fnStderrMatchesTailModel
