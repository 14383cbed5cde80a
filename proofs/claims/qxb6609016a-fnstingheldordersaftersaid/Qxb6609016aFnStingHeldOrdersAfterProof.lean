/-
  A PROOF OF 'Rows.FnStingHeldOrdersAfterSaid' ('zzlaws_internal_paxos_b1.FnStingHeldOrdersAfter'). The frame is the guide's shell (proof-skeleton.mjs), its last row turned to 'Below' (the call makes memory of its own and writes it); the walk and its plain law are ours. By an AI agent.
-/
import Derived.Test.Qxb6609016aSting
import Derived.Deep.AppendLies
import Derived.Deep.DeepCutAuto
import Derived.Laws.IdiomStrings
import Derived.Laws.OwnMore
import Derived.WalkKit
import Derived.ProofKit
import Derived.OpenShut
import Derived.ShutString
namespace Go.Proofs.Qxb6609016a.fnStingHeldOrdersAfter
open Go.ChangeShapes Go.WideShapes Go.ChangeAt Go.RowKit
open Go.ChangeMaps (open_string shut_string)
set_option linter.unusedVariables false      -- a walk need not use every 'w<i>' (that an integer argument fits its kind)

theorem own : ownKnob Try.prog.godebug = none := by kernel_rfl

open Plain Sting

/-- A byte's cell. -/
def cb (b : UInt8) : Value := .int .u8 (b.toNat : Int)
/-- The bytes laid when the loop stands at k. -/
def laid (f g : ByteArray) (k : Nat) : List UInt8 := g.data.toList.take 2 ++ stg f :: (g.data.toList.take k).drop 2

theorem info5 : (Try.prog.info? 5).map (fun i => (i.zero, i.size, i.bytes)) = some (some (.int .u8 0), 1, 1) := by kernel_rfl

theorem below_of_grown {w w1 : World} (h : w.grownBy w1 none) : Below w.heap.size w w1 := (Below.refl _ _).grown h (Nat.le_refl _) (by intro k hk; cases hk)
theorem news3 (w1 : World) (a b c : UInt8) : ∀ j u, [cb a, cb b, cb c][j]? = some u → ((w1.alloc (.cells #[.int .u8 a.toNat, .int .u8 b.toNat, .int .u8 c.toNat] 5)).drew).cell? ((⟨w1.heap.size, 0, none⟩ : Addr).add j) = some u :=
  fun j u h => World.news_of_block (w := (w1.alloc _).drew) (heap_alloc_new w1 _) j u h
theorem news1 (w1 : World) (a : UInt8) : ∀ j u, [cb a][j]? = some u → ((w1.alloc (.cells #[.int .u8 a.toNat] 5))).cell? ((⟨w1.heap.size, 0, none⟩ : Addr).add j) = some u :=
  fun j u h => World.news_of_block (w := (w1.alloc _)) (heap_alloc_new w1 _) j u h
theorem one_cb (l : List UInt8) : ∀ u ∈ l.map cb, u.oneCell' = true := by
  intro u hu; obtain ⟨b, _, rfl⟩ := List.mem_map.1 hu; rfl
theorem laid_two (f g : ByteArray) (h0 : 0 < g.size) (h1 : 1 < g.size) : laid f g 2 = [g[0], g[1], stg f] := by
  obtain ⟨⟨l⟩⟩ := g
  match l, h1 with
  | a :: b :: l, _ => rfl
theorem laid_step (f g : ByteArray) (k : Nat) (h2 : 2 ≤ k) (h : k < g.size) : laid f g (k + 1) = laid f g k ++ [g[k]] := by
  unfold laid
  rw [take_snoc g k h, List.drop_append_of_le_length (by rw [List.length_take, ← Lib.size_eq]; omega)]
  simp
theorem laid_end (f g : ByteArray) (k : Nat) (h : ¬ k < g.size) : laid f g k = g.data.toList.take 2 ++ stg f :: g.data.toList.drop 2 := by
  unfold laid
  rw [List.take_of_length_le (by rw [← Lib.size_eq]; omega : g.data.toList.length ≤ k)]

theorem conv_row {w : World} {B gb n cap : Nat} {l : List UInt8} (hown : w.ownsRow B 5 1 (.slice (some ⟨gb, 0, none⟩) n cap) n (l.map cb)) (hn : l.length = n) (o1 o2 : Obj) :
    (convert 33 9 (.slice (some ⟨gb, 0, none⟩) n cap)).run Try.prog ((w.alloc o1).alloc o2) = .ok (.string ⟨l.toArray⟩) ((w.alloc o1).alloc o2) := by
  subst hn
  refine run_convert_bytes_back _ 33 9 5 _ cap l Try.underlying33 Try.underlying5 Try.underlying9 fun j hj => ?_
  refine ((hown.alloc o1).alloc o2).cells rfl j _ ?_
  simp [hj, cb]
theorem laid_len (f g : ByteArray) (k : Nat) (h2 : 2 ≤ k) (h : k ≤ g.size) : (laid f g k).length = k + 1 := by
  unfold laid
  have : g.data.toList.length = g.size := (Lib.size_eq g).symm
  simp [this]; omega
/-- The label m. -/
def M (f g : ByteArray) : ByteArray := ⟨(g.data.toList.take 2 ++ stg f :: g.data.toList.drop 2).toArray⟩
theorem M_size (f g : ByteArray) (h : 2 ≤ g.size) : 2 ≤ (M f g).size := by
  have : g.data.toList.length = g.size := (Lib.size_eq g).symm
  rw [Lib.size_eq]; simp [M, this]; omega
theorem M_drop (f g : ByteArray) (h : 2 ≤ g.size) : (M f g).data.toList.drop 2 = stg f :: g.data.toList.drop 2 := by
  have hl : (g.data.toList.take 2).length = 2 := by rw [List.length_take, ← Lib.size_eq]; omega
  show List.drop 2 (g.data.toList.take 2 ++ stg f :: g.data.toList.drop 2) = _
  rw [List.drop_append, hl, List.drop_of_length_le (by omega)]; rfl
theorem M_hold (f g : ByteArray) (h : 2 ≤ g.size) : hold (M f g) (stg f) = true := by
  unfold hold; rw [M_drop f g h]; simp
theorem M_stg (f g : ByteArray) (h : 2 ≤ g.size) : stg (M f g) = stg g := by
  obtain ⟨⟨l⟩⟩ := g
  match l, h with
  | a :: b :: l, _ => rfl
theorem less1 (f g : ByteArray) (h : 2 ≤ g.size) : less f (M f g) = !hold f (stg g) := by
  unfold less; rw [M_hold f g h, M_stg f g h]; simp
theorem less2 (f g : ByteArray) (h : 2 ≤ g.size) : less (M f g) f = false := by
  unfold less; rw [M_hold f g h, M_stg f g h]; simp
theorem bcell {W w1 : World} (hb : Below W.heap.size W w1) : (∀ b o, b < W.heap.size → w1.cell? ⟨b, o, none⟩ = W.cell? ⟨b, o, none⟩) ∧ (∀ b o, b < W.heap.size → w1.frozen? ⟨b, o, none⟩ = W.frozen? ⟨b, o, none⟩) :=
  ⟨fun b o h => hb.cell (p := ⟨b, o, none⟩) h, fun b o h => hb.frozen (p := ⟨b, o, none⟩) h⟩

/-- Behind the first Less: the two labels' cells are as they were. -/
theorem cells_behind {wr w2 : World} {a b c d : Value} {nq : Nat} (h : Below (((((wr.alloc (.cells #[a] 35)).alloc (.cells #[b] 35)).alloc (.cells #[c] 35)).alloc (.cells #[d] 35)).drewN nq).heap.size (((((wr.alloc (.cells #[a] 35)).alloc (.cells #[b] 35)).alloc (.cells #[c] 35)).alloc (.cells #[d] 35)).drewN nq) w2) :
    wr.heap.size + 1 + 1 + 1 + 1 ≤ w2.heap.size ∧ w2.cell? ⟨wr.heap.size + 1, 0, none⟩ = some b ∧ w2.cell? ⟨wr.heap.size + 1 + 1 + 1, 0, none⟩ = some d ∧ Below wr.heap.size wr w2 := by
  refine ⟨by simpa using h.size, ?_, ?_, ?_⟩
  · rw [h.cell (by simp <;> omega)]; simp [go_sem, World.cell?_alloc_past]
  · rw [h.cell (by simp <;> omega)]; simp [go_sem]
  · have h1 : Below wr.heap.size wr (((((wr.alloc (.cells #[a] 35)).alloc (.cells #[b] 35)).alloc (.cells #[c] 35)).alloc (.cells #[d] 35)).drewN nq) :=
      below_drewN (((((Below.refl _ wr).alloc (Nat.le_refl _) _).alloc (by simp) _).alloc (by simp <;> omega) _).alloc (by simp <;> omega) _) nq
    exact h1.trans (h.mono (by simp <;> omega))

set_option maxHeartbeats 1000000 in
set_option maxRecDepth 100000 in
theorem walk_main (f g : ByteArray) (w : World) (hf : f.size = 0 ∨ 2 ≤ f.size) (hg : 2 ≤ g.size) (hf1 : f.size ≤ 65536) (hg1 : g.size ≤ 65536) :
    Calls Try.prog 5 #[.string f, .string g] w fun e w' => e = .returned (.bool true) ∧ Below w.heap.size w w' := by
  have m0 : f.size ≤ maxLen := by unfold maxLen; omega
  have m1 : g.size ≤ maxLen := by unfold maxLen; omega
  have hd : decide (f.size + g.size ≤ 1048576) = true := by rw [decide_eq_true_iff]; omega
  have hF1 : (f.size : Int) ≤ 65536 := by omega
  have hG1 : (g.size : Int) ≤ 65536 := by omega
  have hG2 : (2 : Int) ≤ g.size := by omega
  have hne : ((f.size : Int) == 1) = false := by simp; omega
  obtain ⟨i0, hi, hz0, hz1, hz2⟩ := info_parts info5
  go_enter Try.func5, Try.ntmps5
  go_wp2_with (first | (go_at_call 12; refine (bytesA_any _ _ _ m0 m1).mono ?_; rintro e w9 ⟨rfl, hw9⟩; obtain rfl := hw9.symm) | (go_at_call 13; refine (firstByte_any _ _).mono ?_; rintro e w9 ⟨rfl, hw9⟩; obtain rfl := hw9.symm) | (refine wpList_make_own _ rfl _ _ 33 rfl w.heap.size 5 i0 (.int .u8 0) 1 Try.underlying33 hi hz0 hz1 .i64 .i64 _ (g.size + 1) rfl rfl (by omega) (by rw [hz2]; omega) (by unfold maxLen; omega) (Nat.le_refl _) ?_; intro w1 hown1 hgrow1))
  have hG0 : (0 : Int) < g.size := by omega
  have hG3 : (1 : Int) < g.size := by omega
  have g0 : 0 < g.size := by omega
  have g1 : 1 < g.size := by omega
  have hL2 := laid_two f g g0 g1
  have HL2 : Hid (laid f g 2 = [g[0], g[1], stg f]) := hL2
  clear hL2
  go_cut [6] (fun v wc => wc.ownsRow w.heap.size 5 1 v 3 ((laid f g 2).map cb) ∧ Below w.heap.size w wc)
  case first =>
    go_region_held3 (fun _ => True) (trivial) ((refine step_append_lies _ (by rfl) _ _ 33 (by rfl) w.heap.size 5 i0 (.int .u8 0) 1 1 Try.underlying33 hi hz0 hz1 hz2 rfl (by omega) _ 0 [] (by rfl) (hown1.alloc _) ⟨w1.heap.size, 0, none⟩ 3 3 [cb g[0], cb g[1], cb (stg f)] (by rfl) rfl (news3 _ _ _ _) (one_cb [g[0], g[1], stg f]) (by omega) (by unfold maxLen; omega) (by omega) (by have := hgrow1.size; simp; omega) _ rfl ?_; intro gb cap w2 hown2 hgrow2 hat2 hlt2; clear hat2 hlt2))
    all_goals (go_wp2; go_meet; case rel => exact ⟨by rw [HL2.out]; exact hown2, ((below_of_grown hgrow1).alloc (by have := hgrow1.size; omega) _).drew.grown hgrow2 (by have := hgrow1.size; simp; omega) (by intro k hk; cases hk; exact Nat.le_refl _)⟩)
  case rest =>
    obtain ⟨hown, hbel⟩ := hcut
    clear hown1 hgrow1 HL2
    go_wp2
    go_loopw [6, 7] (fun v i wr => ∃ k : Nat, 2 ≤ k ∧ k ≤ g.size ∧ i = .int .i64 k ∧ wr.ownsRow w.heap.size 5 1 v (k + 1) ((laid f g k).map cb) ∧ Below w.heap.size w wr) (fun _ i _ => g.size - (intOf i).toNat)
    case atStart => exact ⟨2, Nat.le_refl _, hg, rfl, hown, hbel⟩
    case round =>
      obtain ⟨k, hk2, hk, rfl, hown, hbel⟩ := hrel
      by_cases hlt : k < g.size
      · go_wp2_with (at_builtin; refine wpList_append_own _ rfl _ _ 33 rfl w.heap.size 5 i0 (.int .u8 0) 1 1 Try.underlying33 hi hz0 hz1 hz2 rfl (by decide) _ (k + 1) _ rfl (hown.alloc _) ⟨wr.heap.size, 0, none⟩ 1 1 [cb g[k]] rfl rfl (news1 _ _) (one_cb [g[k]]) (by unfold maxLen; omega) (by omega) (by have := hbel.size; simp; omega) ?_; intro v' w1 hown' hgrow _)
        have hown2 : w1.ownsRow w.heap.size 5 1 v' (k + 1 + 1) ((laid f g (k + 1)).map cb) := by rw [laid_step f g k hk2 hlt, List.map_append]; exact hown'
        have hbel2 : Below w.heap.size w w1 := (hbel.alloc (by have := hbel.size; omega) _).grown hgrow (by have := hbel.size; simp; omega) (by intro j hj; exact (hown.lt j hj).1)
        go_roundw
        case rel => exact ⟨k + 1, by omega, by omega, by go_num, hown2, hbel2⟩
        case measure => simp [intOf]; omega
      · obtain ⟨gb, cap, hv, _, _⟩ := hown.form (by omega)
        subst hv
        have hconv := conv_row hown (laid_len f g k hk2 hk)
        have hM : (⟨(laid f g k).toArray⟩ : ByteArray) = M f g := by rw [laid_end f g k hlt]; rfl
        rw [hM] at hconv
        clear hM hown
        go_wp2_with (first | (go_at_call 14; refine (label_any _ _).mono ?_; rintro e w9 ⟨rfl, hw9⟩; obtain rfl := hw9.symm))
        have hl1 := less1 f g hg
        have hl2 := less2 f g hg
        have hsg := M_stg f g hg
        have hMs : (M f g).size = 0 ∨ 2 ≤ (M f g).size := Or.inr (M_size f g hg)
        have cL1 := fun w => less_any f (M f g) w hf hMs
        have cL2 := fun w => less_any (M f g) f w hMs hf
        have cS1 := fun w => zzsting_any (M f g) w
        rw [hl1] at cL1
        rw [hl2] at cL2
        rw [hsg] at cS1
        clear hl1 hl2 hsg
        have hx : has (f.extract 2 f.size) g[0] = hold f (stg g) := by rw [has_drop, stg_some g0]
        have mx : (f.extract 2 f.size).size ≤ maxLen := by rw [ByteArray.size_extract]; unfold maxLen; omega
        have cH := fun w => holdsByte_any (f.extract 2 f.size) g[0] w mx
        rw [hx] at cH
        have hq0 : f.size = 0 → hold f (stg g) = false := fun h => hold_short (by omega)
        clear hx
        rcases hf with hf | hf
        · have hq := hq0 hf
          have hz : decide ((2 : Int) ≤ f.size) = false := by rw [decide_eq_false_iff_not]; omega
          rw [hq] at cL1
          go_quiet (fail)
          go_wp2_with fail
          refine (cL1 _).mono ?_
          rintro e w2 ⟨rfl, hb2⟩
          obtain ⟨hz2, k8, k9, hbw⟩ := cells_behind hb2
          clear hb2
          go_wp2_with fail
          refine (cL2 _).mono ?_
          rintro e w3 ⟨rfl, hb3⟩
          have k10 : w3.cell? ⟨wr.heap.size + 1 + 1 + 1, 0, none⟩ = some (.string (M f g)) := by rw [hb3.cell (show wr.heap.size + 1 + 1 + 1 < w2.heap.size by omega)]; exact k9
          have hb4 : Below w.heap.size w w3 := (hbel.trans (hbw.mono hbel.size)).trans (hb3.mono (by have := hbel.size; omega))
          have hs4 : w.heap.size ≤ w3.heap.size := hb4.size
          clear hb3 hbw
          go_wp2_with fail
          refine (cS1 _).mono ?_
          rintro e w9 ⟨rfl, hw9⟩
          obtain rfl := hw9.symm
          go_wp2_with (first | (go_at_call 14; refine (label_any _ _).mono ?_; rintro e w9 ⟨rfl, hw9⟩; obtain rfl := hw9.symm))
          refine (zzsting_any g _).mono ?_
          rintro e w9 ⟨rfl, hw9⟩
          obtain rfl := hw9.symm
          go_wp2_with fail
          go_ret
          exact ⟨rfl, by repeat (first | exact hb4 | refine Below.alloc ?_ (by first | exact hs4 | (simp; omega)) _)⟩
        · have hz : (2 : Int) ≤ f.size := by omega
          cases hq : hold f (stg g)
          all_goals
            rw [hq] at cL1 cH
            go_quiet ((go_at_call 15; exact Calls.quiet_of_same (cH _)))
            go_wp2_with fail
            refine (cL1 _).mono ?_
            rintro e w2 ⟨rfl, hb2⟩
            obtain ⟨hz2, k8, k9, hbw⟩ := cells_behind hb2
            clear hb2
            go_wp2_with fail
            refine (cL2 _).mono ?_
            rintro e w3 ⟨rfl, hb3⟩
            have k10 : w3.cell? ⟨wr.heap.size + 1 + 1 + 1, 0, none⟩ = some (.string (M f g)) := by rw [hb3.cell (show wr.heap.size + 1 + 1 + 1 < w2.heap.size by omega)]; exact k9
            have hb4 : Below w.heap.size w w3 := (hbel.trans (hbw.mono hbel.size)).trans (hb3.mono (by have := hbel.size; omega))
            have hs4 : w.heap.size ≤ w3.heap.size := hb4.size
            clear hb3 hbw
            go_wp2_with fail
            refine (cS1 _).mono ?_
            rintro e w9 ⟨rfl, hw9⟩
            obtain rfl := hw9.symm
            go_wp2_with (first | (go_at_call 14; refine (label_any _ _).mono ?_; rintro e w9 ⟨rfl, hw9⟩; obtain rfl := hw9.symm))
            refine (zzsting_any g _).mono ?_
            rintro e w9 ⟨rfl, hw9⟩
            obtain rfl := hw9.symm
            go_wp2_with fail
            go_ret
            exact ⟨rfl, by repeat (first | exact hb4 | refine Below.alloc ?_ (by first | exact hs4 | (simp; omega)) _)⟩


/-- The ways that answer true at once. -/
theorem walk_early (f g : ByteArray) (w : World) (w0 : f.size ≤ maxLen) (w1 : g.size ≤ maxLen)
    (h : ¬ f.size + g.size ≤ 1048576 ∨ (f.size + g.size ≤ 1048576 ∧ ((65536 : Int) < f.size ∨ (f.size : Int) ≤ 65536 ∧ ((65536 : Int) < g.size ∨ ((g.size : Int) ≤ 65536 ∧ (((f.size : Int) == 1) = true ∨ (((f.size : Int) == 1) = false ∧ (g.size : Int) < 2))))))) :
    Calls Try.prog 5 #[.string f, .string g] w fun e w' => e = .returned (.bool true) ∧ Below w.heap.size w w' := by
  rcases h with h | ⟨h0, h | ⟨h1, h | ⟨h2, h | ⟨h3, h4⟩⟩⟩⟩
  · have hd : decide (f.size + g.size ≤ 1048576) = false := by simpa using h
    clear h
    go_enter Try.func5, Try.ntmps5
    go_wp2_with (go_at_call 12; refine (bytesA_any _ _ _ w0 w1).mono ?_; rintro e w' ⟨rfl, rfl⟩)
    go_ret
    exact ⟨rfl, Below.refl _ _⟩
  all_goals
    have hd : decide (f.size + g.size ≤ 1048576) = true := by simpa using h0
    go_enter Try.func5, Try.ntmps5
    go_wp2_with (go_at_call 12; refine (bytesA_any _ _ _ w0 w1).mono ?_; rintro e w' ⟨rfl, rfl⟩)
    go_ret
    exact ⟨rfl, Below.refl _ _⟩

theorem walk (f : ByteArray) (g : ByteArray) (w0 : f.size ≤ maxLen) (w1 : g.size ≤ maxLen) (w : World) :
    Calls Try.prog 5 #[.string f, .string g] w fun e w' => e = .returned (.bool true) ∧ Below w.heap.size w w' := by
  by_cases h0 : f.size + g.size ≤ 1048576
  · by_cases h1 : (65536 : Int) < f.size
    · exact walk_early f g w w0 w1 (Or.inr ⟨h0, Or.inl h1⟩)
    · by_cases h2 : (65536 : Int) < g.size
      · exact walk_early f g w w0 w1 (Or.inr ⟨h0, Or.inr ⟨by omega, Or.inl h2⟩⟩)
      · by_cases h3 : f.size = 1
        · exact walk_early f g w w0 w1 (Or.inr ⟨h0, Or.inr ⟨by omega, Or.inr ⟨by omega, Or.inl (by simp [h3])⟩⟩⟩)
        · by_cases h4 : (g.size : Int) < 2
          · exact walk_early f g w w0 w1 (Or.inr ⟨h0, Or.inr ⟨by omega, Or.inr ⟨by omega, Or.inr ⟨by simp; omega, h4⟩⟩⟩⟩)
          · exact walk_main f g w (by omega) (by omega) (by omega) (by omega)
  · exact walk_early f g w w0 w1 (Or.inl h0)

/-! ### THE ROW's STEP: WRITTEN OUT: LEAVE IT -/
set_option maxRecDepth 100000 in
theorem lifted (os : Os) (started : os.Started) (H : Type) (enc : TypeId × Value → H) :
    ReturnsInHanded {} Try.checked os 5 .any (Rows.fnStingHeldOrdersAfterSpec.pre6 enc Try.prog Try.f5 Rows.fnStingHeldOrdersAfterRow.domain false) (Rows.fnStingHeldOrdersAfterSpec.post enc Try.prog Try.f5 false true false false) := by
  refine returnsInHanded_of_change (C := Try.checked) own started (by kernel_rfl) Try.func5
    (ChangeSpec.witness6 (enc := enc) (C := Try.checked) false ⟨#[], #[.string ByteArray.empty, .string ByteArray.empty], []⟩ 8 (by kernel_rfl) (by kernel_rfl) (by kernel_rfl) (by kernel_rfl)) ?_
  intro W base args ds gs before hval0 hW hcnd _
  have hval : ∀ (j : Nat) t v, Try.f5.params[j]? = some t → args[j]? = some v → Value.okWide Try.prog W .any base t v := hval0
  have hW' := hW
  obtain ⟨p, q, hA0, hV, rfl, hfz, hnd⟩ := hW
  have hA : DataW.TrodAll enc Try.prog W 0 (fun _ => true) true Try.f5.params.toList args.toList ds p := hA0
  rw [Try.params5] at hA hval
  obtain ⟨v0, vs0, d0, ds0, p0, q0, hargs, rfl, rfl, h0, r0⟩ := trodAll_cons hA
  obtain ⟨v1, vs1, d1, ds1, p1, q1, rfl, rfl, rfl, h1, r1⟩ := trodAll_cons r0
  obtain ⟨rfl, rfl, rfl⟩ := trodAll_nil r1
  obtain rfl : args = #[v0, v1] := by cases args; simp_all
  obtain ⟨rfl, rfl⟩ := trodVars_none hV
  obtain ⟨a0, rfl, rfl, rfl, w0⟩ := open_string Try.underlying9 (hval 0 9 v0 rfl rfl) h0
  obtain ⟨a1, rfl, rfl, rfl, w1⟩ := open_string Try.underlying9 (hval 1 9 v1 rfl rfl) h1
  clear hA0 hval0
  simp only [List.append_nil] at hW'
  refine (walk a0 a1 w0 w1 W).mono fun e W' ⟨he, bel⟩ => ?_
  subst he
  exact ⟨_, rfl, _, _, _, [], [], [], hW', trodAll_mk1 (shut_bool Try.underlying4 _), (trodAll_cons_mk (shut_string Try.underlying9 w0) (trodAll_cons_mk (shut_string Try.underlying9 w1) trodAll_mk0)), rfl, bel.frame _, fun h => by cases h⟩

theorem over : Rows.fnStingHeldOrdersAfterRow.holds Try.pinned (OpenSpec.ofChange Rows.fnStingHeldOrdersAfterSpec) :=
  OpenClaim.holds_of_wide 5 Try.f5 rfl rfl rfl rfl rfl rfl rfl ⟨rfl, rfl, rfl, rfl, rfl⟩ rfl rfl rfl rfl rfl (by kernel_rfl) Try.func5 (by kernel_rfl)
    (of_decide_eq_true (by kernel_rfl)) (by unfold Func.isWrapper; first | (rw [if_pos (by decide +kernel)]; kernel_rfl) | (rw [if_neg (by decide +kernel)]; exact ⟨rfl, rfl⟩))
    (fun os started H enc _ => lifted os started H enc)

/-- ████ THE STATEMENT ████ -/
theorem proved : Rows.FnStingHeldOrdersAfterSaid :=
  over
#print axioms proved
end Go.Proofs.Qxb6609016a.fnStingHeldOrdersAfter
