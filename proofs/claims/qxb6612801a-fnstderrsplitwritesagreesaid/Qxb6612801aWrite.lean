/-
  THE WALK of (*tail).Write. By an AI agent.
-/
import Derived.Test.Qxb6612801aTail
import Derived.Deep.DeepCutAuto
import Derived.Deep.DrawnRows
import Derived.Deep.RegionWith
namespace Go.Proofs.Qxb6612801a.Tail
open Go.RowKit Go.MuLone

theorem own_slice {B n : Nat} {v : Value} {xs : List Value} {w : World} (h : w.ownsRow B 5 1 v n xs) : ∃ o cap, v = .slice o n cap ∧ n ≤ cap := by
  rcases h.2 with ⟨rfl, rfl⟩ | ⟨g, cap, cur, rfl, _, _, hc, _⟩
  · exact ⟨none, 0, rfl, Nat.le_refl _⟩
  · exact ⟨_, cap, rfl, hc⟩
theorem own_cap {B g n cap : Nat} {xs : List Value} {w : World} (h : w.ownsRow B 5 1 (.slice (some ⟨g, 0, none⟩) n cap) n xs) : n ≤ cap := by
  rcases h.2 with ⟨h', _⟩ | ⟨g', cap', cur, h', _, _, hc, _⟩
  · simp at h'
  · simp only [Value.slice.injEq, Option.some.injEq, Addr.mk.injEq, and_true, true_and] at h'
    omega
/-- Behind the append: the tail's own cells are as they were, the lock held. -/
theorem behind {pb : Nat} {v : Value} {x7 x10 x11 : Value} {w w1 : World} (hg : (w.setCell ⟨pb, 8, none⟩ (.int .i32 1)).grownBy w1 v.ownBlock) (hn : v.ownBlock ≠ some pb) (hpb : pb < w.heap.size)
    (c7 : w.cell? ⟨pb, 7, none⟩ = some x7) (c8 : w.cell? ⟨pb, 8, none⟩ = some (.int .i32 0)) (c10 : w.cell? ⟨pb, 10, none⟩ = some x10) (c11 : w.cell? ⟨pb, 11, none⟩ = some x11)
    (f8 : w.frozen? ⟨pb, 8, none⟩ = false) (f10 : w.frozen? ⟨pb, 10, none⟩ = false) (f11 : w.frozen? ⟨pb, 11, none⟩ = false) :
    w1.cell? ⟨pb, 7, none⟩ = some x7 ∧ w1.cell? ⟨pb, 8, none⟩ = some (.int .i32 1) ∧ w1.cell? ⟨pb, 10, none⟩ = some x10 ∧ w1.cell? ⟨pb, 11, none⟩ = some x11 ∧
    w1.frozen? ⟨pb, 8, none⟩ = false ∧ w1.frozen? ⟨pb, 10, none⟩ = false ∧ w1.frozen? ⟨pb, 11, none⟩ = false ∧ pb < w1.heap.size := by
  have hc : ∀ j, w1.cell? ⟨pb, j, none⟩ = (w.setCell ⟨pb, 8, none⟩ (.int .i32 1)).cell? ⟨pb, j, none⟩ := fun j => hg.cell_far ⟨pb, j, none⟩ (by simpa using hpb) (fun e => hn e.symm)
  have hf : ∀ j, w1.frozen? ⟨pb, j, none⟩ = (w.setCell ⟨pb, 8, none⟩ (.int .i32 1)).frozen? ⟨pb, j, none⟩ := fun j => hg.frozen_far ⟨pb, j, none⟩ (by simpa using hpb) (fun e => hn e.symm)
  refine ⟨?_, ?_, ?_, ?_, ?_, ?_, ?_, by have := hg.size; simp at this; omega⟩
  · rw [hc, World.cell?_setCell_other _ _ _ _ (by simp)]; exact c7
  · rw [hc]; exact World.cell?_setCell_same _ _ _ c8
  · rw [hc, World.cell?_setCell_other _ _ _ _ (by simp)]; exact c10
  · rw [hc, World.cell?_setCell_other _ _ _ _ (by simp)]; exact c11
  · rw [hf]; simpa [go_sem] using f8
  · rw [hf]; simpa [go_sem] using f10
  · rw [hf]; simpa [go_sem] using f11

/-- The state behind Write, the row and the flag given. -/
theorem st_mk {pb nq n : Nat} {zs : List UInt8} {v1 : Value} {w w1 : World} {b : Bool} (hw1 : Below pb w w1) (k7 : w1.cell? ⟨pb, 7, none⟩ = some (.int .i64 2048)) (k8 : w1.cell? ⟨pb, 8, none⟩ = some (.int .i32 1)) (k10 : w1.cell? ⟨pb, 10, none⟩ = some v1) (k11 : w1.cell? ⟨pb, 11, none⟩ = some (.bool b))
    (q8 : w1.frozen? ⟨pb, 8, none⟩ = false) (q10 : w1.frozen? ⟨pb, 10, none⟩ = false) (q11 : w1.frozen? ⟨pb, 11, none⟩ = false) (hp : pb < w1.heap.size)
    (hn : n = (lastN zs).length) (ho : w1.ownsRow (pb + 1) 5 1 v1 n ((lastN zs).map cb)) (hb : b = decide (2048 < zs.length)) :
    St pb zs ((w1.drewN nq).setCell ⟨pb, 8, none⟩ (.int .i32 0)) ∧ Below pb w ((w1.drewN nq).setCell ⟨pb, 8, none⟩ (.int .i32 0)) := by
  have e : (w1.drewN nq).setCell ⟨pb, 8, none⟩ (.int .i32 0) = (w1.setCell ⟨pb, 8, none⟩ (.int .i32 0)).drewN nq := rfl
  rw [e]
  refine ⟨⟨v1, ?_, ?_, ?_, ?_, ?_, ?_, ?_, ?_, ?_⟩, below_drewN (hw1.setCell (Nat.le_refl _) _) nq⟩
  · rw [World.cell?_drewN, World.cell?_setCell_other _ _ _ _ (by simp)]; exact k7
  · rw [World.cell?_drewN]; exact World.cell?_setCell_same _ _ _ k8
  · rw [World.cell?_drewN, World.cell?_setCell_other _ _ _ _ (by simp)]; exact k10
  · rw [World.cell?_drewN, World.cell?_setCell_other _ _ _ _ (by simp), k11, hb]
  · simpa [go_sem] using q8
  · simpa [go_sem] using q10
  · simpa [go_sem] using q11
  · rw [← hn]; exact own_set (j := 8) (u := .int .i32 0) ho
  · simpa using hp
theorem below_app {pb : Nat} {v : Value} {w w1 : World} (hpb : pb < w.heap.size) (hr : ∀ k, v.ownBlock = some k → pb + 1 ≤ k) (hg : (w.setCell ⟨pb, 8, none⟩ (.int .i32 1)).grownBy w1 v.ownBlock) : Below pb w w1 :=
  ((Below.refl pb w).setCell (p := ⟨pb, 8, none⟩) (Nat.le_refl pb) _).grown hg (by simp; omega) fun k hk => by have := hr k hk; omega

attribute [local go_sem ↓] Go.wp_at_zero Go.wp_at_succ
set_option maxHeartbeats 4000000 in
set_option maxRecDepth 100000 in
theorem write_some (pb : Nat) (xs bs : List UInt8) (ad : Addr) (c : Nat) (w : World) (hst : St pb xs w) (had : 0 < bs.length → ad.block < pb) (hsrc : ∀ j u, (bs.map cb)[j]? = some u → w.cell? (ad.add j) = some u) (hb : bs.length ≤ 4194304) :
    Calls Try.prog 12 #[.pointer (some ⟨pb, 7, none⟩), .slice (some ad) bs.length c] w fun e w' => e = .returned (.tuple #[.int .i64 bs.length, .nilIface]) ∧ St pb (xs ++ bs) w' ∧ Below pb w w' := by
  obtain ⟨v, c7, c8, c10, c11, f8, f10, f11, hown, hpb⟩ := hst
  have hll := lastN_len xs
  obtain ⟨i0, hi, hz0, hz1, hz2⟩ := info_parts info5
  have HO := hidden (own_set (j := 8) (u := .int .i32 1) hown)
  have HN := hidden (row_ne hown)
  have HR : Hid (∀ k, v.ownBlock = some k → pb + 1 ≤ k) := fun k hk => (hown.lt k hk).1
  have HS : Hid (∀ j u, (bs.map cb)[j]? = some u → (w.setCell ⟨pb, 8, none⟩ (.int .i32 1)).cell? (ad.add j) = some u) := by
    intro j u hj
    have hpos : 0 < bs.length := by have := (List.getElem?_eq_some_iff.1 hj).1; simp at this; omega
    have had' := had hpos
    have hblk : (ad.add j).block = ad.block := by unfold Addr.add; split <;> rfl
    rw [World.cell?_setCell_other _ _ _ _ (by intro e; have := congrArg Addr.block e; rw [hblk] at this; simp at this; omega)]
    exact hsrc j u hj
  clear hsrc hown
  by_cases hbig : 2048 < (lastN xs).length + bs.length
  · obtain ⟨over, hov⟩ : ∃ over, (lastN xs).length + bs.length = over + 2048 := ⟨(lastN xs).length + bs.length - 2048, by omega⟩
    have HV := hidden hov
    have hov0 : 0 < over := by omega
    have hovm : over ≤ 4194304 := by omega
    clear hov hbig
    go_enter_defers Try.func12, Try.ntmps12
    go_wp2_with (first | (go_at_call 14; refine (lock_free muLib ⟨pb, 8, none⟩ _ c8 f8).mono ?_; rintro e w9 ⟨rfl, hw9⟩; obtain rfl := hw9.symm) | (at_builtin; refine wpList_append_own _ rfl (.tmp 18) (.tmp 19) 24 rfl (pb + 1) 5 i0 (.int .u8 0) 1 1 Try.underlying24 hi hz0 hz1 hz2 rfl (by decide) v _ _ rfl HO.out ad bs.length c (bs.map cb) rfl (by simp) HS.out (one_cb bs) (by unfold maxLen; omega) (by omega) (by simp; omega) ?_; intro v1 w1 hown1 hgrow1 _; rw [HV.out] at hown1; obtain ⟨g, cap1, hv1, hg1, hg2⟩ := hown1.form (by omega); subst hv1; obtain ⟨k7, k8, k10, k11, q8, q10, q11, hp1⟩ := behind hgrow1 HN.out hpb c7 c8 c10 c11 f8 f10 f11; have hcap1 := own_cap hown1; have HO1 := hidden hown1; have HG1 := hidden hgrow1; clear hown1 hgrow1))
    go_quiet (fail)
    go_wp2
    have i1 : (0 : Int) ≤ (over : Int) := by omega
    have i2 : (over : Int) ≤ (over : Int) + 2048 := by omega
    have i3 : (over : Int) + 2048 ≤ (cap1 : Int) := by omega
    have i4 : (over : Int) < (cap1 : Int) := by omega
    have HC := hidden (World.cell?_setCell_same _ _ (.slice (some ⟨g, 0, none⟩) (over + 2048) cap1) k10)
    have hlen : (lastN xs ++ bs).length = over + 2048 := by rw [List.length_append]; exact HV.out
    have HLEN := hidden hlen
    have hrow2 := own_set (j := 10) (u := .slice (some ⟨g, 0, none⟩) (over + 2048) cap1) HO1.out
    rw [← List.map_append] at hrow2
    have HR2 := hidden hrow2
    obtain ⟨w2, hrun2, hown2, hgrow2⟩ := copy_over _ (pb + 1) g over 2048 cap1 (lastN xs ++ bs) HLEN.out hrow2
    have HO2 := hidden hown2
    have HG2 := hidden hgrow2
    have HC2 := hidden ((hgrow2.cell_far ⟨pb, 10, none⟩ (by simpa using hp1) (by simp; omega)).trans HC.out)
    have q2 : w2.frozen? ⟨pb, 10, none⟩ = false := (hgrow2.frozen_far ⟨pb, 10, none⟩ (by simpa using hp1) (by simp; omega)).trans (by simpa [go_sem] using q10)
    have q3 : w2.frozen? ⟨pb, 11, none⟩ = false := (hgrow2.frozen_far ⟨pb, 11, none⟩ (by simpa using hp1) (by simp; omega)).trans (by simpa [go_sem] using q11)
    have k3 : w2.cell? ⟨pb, 11, none⟩ = some (.bool (decide (2048 < xs.length))) := (hgrow2.cell_far ⟨pb, 11, none⟩ (by simpa using hp1) (by simp; omega)).trans (by rw [World.cell?_setCell_other _ _ _ _ (by simp)]; exact k11)
    clear hlen hrow2 hown2 hgrow2
    have i5 : (2048 : Int) ≤ (cap1 : Int) := by omega
    have hC := HC.out
    have hC2 := HC2.out
    go_cut [] from 35 to 53 (fun wc => ∃ nd, wc = (w2.setCell ⟨pb, 10, none⟩ (.slice (some ⟨g, 0, none⟩) 2048 cap1)).drewN nd)
    case first =>
      clear k7 k8 k10 k11 q8 q10 q11 c7 c8 c10 c11 f8 f10 f11 HO HN HR HS HO1 HG1 HO2 HG2 hll hb had
      refine wp_region_noPanic ?_
      go_region_with (fail)
      all_goals refine NoPanic.normal ?_
      all_goals (go_wp2_with fail; go_meet; case rel => exact ⟨_, rfl⟩)
    case rest =>
      obtain ⟨nd, rfl⟩ := hcut
      clear hrun2 hC hC2
      go_wp2
      have hfar := fun j => HG2.out.cell_far ⟨pb, j, none⟩ (by simpa using hp1) (by simp; omega)
      have hfro := fun j => HG2.out.frozen_far ⟨pb, j, none⟩ (by simpa using hp1) (by simp; omega)
      have m7 : w2.cell? ⟨pb, 7, none⟩ = some (.int .i64 2048) := by rw [hfar, World.cell?_setCell_other _ _ _ _ (by simp)]; exact k7
      have m8 : w2.cell? ⟨pb, 8, none⟩ = some (.int .i32 1) := by rw [hfar, World.cell?_setCell_other _ _ _ _ (by simp)]; exact k8
      have n8 : w2.frozen? ⟨pb, 8, none⟩ = false := by rw [hfro]; simpa [go_sem] using q8
      have hb2 : Below pb w w2 := ((below_app hpb HR.out HG1.out).setCell (p := ⟨pb, 10, none⟩) (Nat.le_refl pb) _).grown HG2.out (by simp; omega) (by intro k hk; cases hk; omega)
      have hdr : (lastN xs ++ bs).drop over = lastN (xs ++ bs) := by rw [lastN_app, HLEN.out, Nat.add_sub_cancel]
      refine leaves_cons (f := 15) (args := #[.pointer (some ⟨pb, 8, none⟩)]) (by simp) (by simp [go_sem]) ?_
      refine (unlock_deferred muLib ⟨pb, 8, none⟩ .returning _ ?_ ?_).mono ?_
      · simp [go_sem, m8]
      · simp [go_sem, n8]
      rintro e u' w'' ⟨rfl, rfl, rfl⟩
      refine ⟨_, results_tmp2 rfl _ _ _, rfl, ?_⟩
      have ho2 := HO2.out
      rw [hdr] at ho2
      refine st_mk (w1 := (w2.setCell ⟨pb, 10, none⟩ (.slice (some ⟨g, 0, none⟩) 2048 cap1)).setCell ⟨pb, 11, none⟩ (.bool true)) (nq := nd) (v1 := .slice (some ⟨g, 0, none⟩) 2048 cap1) (n := 2048) (b := true) ((hb2.setCell (p := ⟨pb, 10, none⟩) (Nat.le_refl pb) _).setCell (p := ⟨pb, 11, none⟩) (Nat.le_refl pb) _) ?_ ?_ ?_ ?_ (by simpa [go_sem] using n8) (by simpa [go_sem] using q2) (by simpa [go_sem] using q3) ?_ ?_ (own_set (own_set ho2)) (cut_big (by rw [HV.out]; omega)).symm
      · rw [World.cell?_setCell_other _ _ _ _ (by simp), World.cell?_setCell_other _ _ _ _ (by simp)]; exact m7
      · rw [World.cell?_setCell_other _ _ _ _ (by simp), World.cell?_setCell_other _ _ _ _ (by simp)]; exact m8
      · rw [World.cell?_setCell_other _ _ _ _ (by simp)]; exact World.cell?_setCell_same _ _ _ HC2.out
      · refine World.cell?_setCell_same _ _ _ (u := .bool (decide (2048 < xs.length))) ?_
        rw [World.cell?_setCell_other _ _ _ _ (by simp)]; exact k3
      · have := HG2.out.size; simp at this ⊢; omega
      · rw [← hdr, List.length_drop, HLEN.out]; omega
  · go_enter_defers Try.func12, Try.ntmps12
    go_wp2_with (first | (go_at_call 14; refine (lock_free muLib ⟨pb, 8, none⟩ _ c8 f8).mono ?_; rintro e w9 ⟨rfl, hw9⟩; obtain rfl := hw9.symm) | (at_builtin; refine wpList_append_own _ rfl (.tmp 18) (.tmp 19) 24 rfl (pb + 1) 5 i0 (.int .u8 0) 1 1 Try.underlying24 hi hz0 hz1 hz2 rfl (by decide) v _ _ rfl HO.out ad bs.length c (bs.map cb) rfl (by simp) HS.out (one_cb bs) (by unfold maxLen; omega) (by omega) (by simp; omega) ?_; intro v1 w1 hown1 hgrow1 _; obtain ⟨o1, cap1, hv1, hcap1⟩ := own_slice hown1; subst hv1; obtain ⟨k7, k8, k10, k11, q8, q10, q11, hp1⟩ := behind hgrow1 HN.out hpb c7 c8 c10 c11 f8 f10 f11; have HO1 := hidden hown1; have HG1 := hidden hgrow1; clear hown1 hgrow1))
    go_quiet (fail)
    go_wp2
    refine leaves_cons (f := 15) (args := #[.pointer (some ⟨pb, 8, none⟩)]) (by simp) (by simp [go_sem]) ?_
    refine (unlock_deferred muLib ⟨pb, 8, none⟩ .returning _ ?_ ?_).mono ?_
    · simp [go_sem, k8]
    · simp [go_sem, q8]
    rintro e u' w'' ⟨rfl, rfl, rfl⟩
    refine ⟨_, results_tmp2 rfl _ _ _, rfl, ?_⟩
    refine st_mk ((below_app hpb HR.out HG1.out).setCell (Nat.le_refl _) _) ?_ ?_ (World.cell?_setCell_same _ _ _ k10) ?_ (by simpa [go_sem] using q8) (by simpa [go_sem] using q10) (by simpa [go_sem] using q11) (by simpa using hp1) ?_ (own_set (by rw [lastN_small (by omega), List.map_append]; exact HO1.out)) (cut_small (by omega)).symm
    · rw [World.cell?_setCell_other _ _ _ _ (by simp)]; exact k7
    · rw [World.cell?_setCell_other _ _ _ _ (by simp)]; exact k8
    · rw [World.cell?_setCell_other _ _ _ _ (by simp)]; exact k11
    · rw [lastN_small (by omega), List.length_append]

set_option maxHeartbeats 1000000 in
set_option maxRecDepth 100000 in
theorem write_none (pb : Nat) (xs : List UInt8) (w : World) (hst : St pb xs w) :
    Calls Try.prog 12 #[.pointer (some ⟨pb, 7, none⟩), .slice none 0 0] w fun e w' => e = .returned (.tuple #[.int .i64 0, .nilIface]) ∧ St pb xs w' ∧ Below pb w w' := by
  obtain ⟨v, c7, c8, c10, c11, f8, f10, f11, hown, hpb⟩ := hst
  have hll := lastN_len xs
  obtain ⟨i0, hi, hz0, hz1, hz2⟩ := info_parts info5
  obtain ⟨o1, cap1, rfl, hcap⟩ := own_slice hown
  have HO := hidden (own_set (j := 8) (u := .int .i32 1) hown)
  have HW := hidden hown
  clear hown
  generalize hn : (lastN xs).length = n at *
  have HNN := hidden hn
  clear hn
  go_enter_defers Try.func12, Try.ntmps12
  go_wp2_with (first | (go_at_call 14; refine (lock_free muLib ⟨pb, 8, none⟩ _ c8 f8).mono ?_; rintro e w9 ⟨rfl, hw9⟩; obtain rfl := hw9.symm) | (at_builtin; refine wpList_append_own_none rfl (.tmp 18) (.tmp 19) 24 rfl (pb + 1) 5 i0 1 Try.underlying24 hi _ _ _ rfl HO.out rfl ?_))
  go_quiet (fail)
  go_wp2
  refine leaves_cons (f := 15) (args := #[.pointer (some ⟨pb, 8, none⟩)]) (by simp) (by simp [go_sem]) ?_
  have k8 : (w.setCell ⟨pb, 8, none⟩ (.int .i32 1)).cell? ⟨pb, 8, none⟩ = some (.int .i32 1) := World.cell?_setCell_same _ _ _ c8
  refine (unlock_deferred muLib ⟨pb, 8, none⟩ .returning _ ?_ ?_).mono ?_
  · simp [go_sem, k8]
  · simp [go_sem, f8]
  rintro e u' w'' ⟨rfl, rfl, rfl⟩
  refine ⟨_, results_tmp2 rfl _ _ _, rfl, ?_⟩
  refine st_mk (w1 := (w.setCell ⟨pb, 8, none⟩ (.int .i32 1)).setCell ⟨pb, 10, none⟩ (.slice o1 n cap1)) (n := n) (((Below.refl pb w).setCell (p := ⟨pb, 8, none⟩) (Nat.le_refl pb) _).setCell (p := ⟨pb, 10, none⟩) (Nat.le_refl pb) _) ?_ ?_ ?_ ?_ (by simpa [go_sem] using f8) (by simpa [go_sem] using f10) (by simpa [go_sem] using f11) (by simpa using hpb) HNN.out.symm (own_set HO.out) rfl
  · rw [World.cell?_setCell_other _ _ _ _ (by simp), World.cell?_setCell_other _ _ _ _ (by simp)]; exact c7
  · rw [World.cell?_setCell_other _ _ _ _ (by simp)]; exact k8
  · refine World.cell?_setCell_same _ _ _ (u := .slice o1 n cap1) ?_
    rw [World.cell?_setCell_other _ _ _ _ (by simp)]; exact c10
  · rw [World.cell?_setCell_other _ _ _ _ (by simp), World.cell?_setCell_other _ _ _ _ (by simp)]; exact c11

/-- Write, whatever is written. -/
theorem write_any (pb : Nat) (xs bs : List UInt8) (v : Value) (w : World) (hst : St pb xs w) (hsrc : Src pb w v bs) (hb : bs.length ≤ 4194304) :
    Calls Try.prog 12 #[.pointer (some ⟨pb, 7, none⟩), v] w fun e w' => e = .returned (.tuple #[.int .i64 bs.length, .nilIface]) ∧ St pb (xs ++ bs) w' ∧ Below pb w w' := by
  rcases hsrc with ⟨rfl, rfl⟩ | ⟨ad, c, rfl, had, hc⟩
  · rw [List.append_nil]; exact write_none pb xs w hst
  · exact write_some pb xs bs ad c w hst had hc hb

theorem zzwrite_any (pb : Nat) (xs bs : List UInt8) (v : Value) (w : World) (hst : St pb xs w) (hsrc : Src pb w v bs) (hb : bs.length ≤ 4194304) :
    Calls Try.prog 7 #[.pointer (some ⟨pb, 0, none⟩), v] w fun e w' => e = .returned (.tuple #[.int .i64 bs.length, .nilIface]) ∧ St pb (xs ++ bs) w' ∧ Below pb w w' := by
  have c := write_any pb xs bs v w hst hsrc hb
  have HB := hidden hb
  clear hst hsrc hb
  go_enter Try.func7, Try.ntmps7
  go_wp2_with fail
  refine c.mono ?_
  rintro e w2 ⟨rfl, h2, h3⟩
  go_wp2_with fail
  go_ret2
  exact ⟨rfl, h2, h3⟩

end Go.Proofs.Qxb6612801a.Tail
