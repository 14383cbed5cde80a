/-
  THE TAIL IN MEMORY; THE WALKS of ZZnewProcessForStderr and (*tail).Write. By an AI agent.
-/
import Derived.Test.Qxb6612801aRows
import Derived.Test.Qxb6612801aLocks
import Derived.Conc.MuLone
import Derived.WalkKit
import Derived.ProofKit
import Derived.WalkSpells
import Derived.WalkLawsBesides
import Derived.Deep.AppendLies
import Derived.Deep.QuietTactic
import Derived.BigQuiet
import Derived.Deep.RegionHeld3
import Derived.Laws.OwnMore
import Derived.Laws.CopyOwn
import Derived.Laws.AppendOwnNone
namespace Go.Proofs.Qxb6612801a.Tail
open Go.RowKit Go.MuLone

/-- A byte's cell. -/
def cb (b : UInt8) : Value := .int .u8 (b.toNat : Int)
theorem hidden {p : Prop} (h : p) : Hid p := h
theorem info5 : (Try.prog.info? 5).map (fun i => (i.zero, i.size, i.bytes)) = some (some (.int .u8 0), 1, 1) := by kernel_rfl
theorem size5 : (Try.prog.info? 5).map (·.size) = some 1 := by kernel_rfl
theorem one_cb (l : List UInt8) : ∀ u ∈ l.map cb, u.oneCell' = true := by
  intro u hu; obtain ⟨b, _, rfl⟩ := List.mem_map.1 hu; rfl

/-- The last 2048 bytes. -/
def lastN (xs : List UInt8) : List UInt8 := xs.drop (xs.length - 2048)
theorem lastN_len (xs : List UInt8) : (lastN xs).length ≤ 2048 := by unfold lastN; rw [List.length_drop]; omega
theorem lastN_len' (xs : List UInt8) : (lastN xs).length = if xs.length ≤ 2048 then xs.length else 2048 := by
  unfold lastN; rw [List.length_drop]; split <;> omega
theorem lastN_app (xs bs : List UInt8) : lastN (xs ++ bs) = (lastN xs ++ bs).drop ((lastN xs ++ bs).length - 2048) := by
  unfold lastN
  rw [← List.drop_append_of_le_length (by omega : xs.length - 2048 ≤ xs.length), List.drop_drop, List.length_drop]
  have e : (xs ++ bs).length = xs.length + bs.length := List.length_append
  rw [e, show xs.length + bs.length - 2048 = xs.length - 2048 + (xs.length + bs.length - (xs.length - 2048) - 2048) by omega]
theorem lastN_small {xs bs : List UInt8} (h : (lastN xs).length + bs.length ≤ 2048) : lastN (xs ++ bs) = lastN xs ++ bs := by
  rw [lastN_app, List.length_append, show (lastN xs).length + bs.length - 2048 = 0 by omega, List.drop_zero]
theorem cut_small {xs bs : List UInt8} (h : (lastN xs).length + bs.length ≤ 2048) : decide (2048 < (xs ++ bs).length) = decide (2048 < xs.length) := by
  rw [lastN_len'] at h
  rw [List.length_append]
  split at h
  · rw [decide_eq_false (by omega), decide_eq_false (by omega)]
  · rw [decide_eq_true (by omega), decide_eq_true (by omega)]
theorem cut_big {xs bs : List UInt8} (h : 2048 < (lastN xs).length + bs.length) : decide (2048 < (xs ++ bs).length) = true := by
  rw [lastN_len'] at h
  rw [List.length_append]
  split at h <;> exact decide_eq_true (by omega)

/-- The tail at block pb, when xs has been written to it. -/
def St (pb : Nat) (xs : List UInt8) (w : World) : Prop := ∃ v, w.cell? ⟨pb, 7, none⟩ = some (.int .i64 2048) ∧ w.cell? ⟨pb, 8, none⟩ = some (.int .i32 0) ∧ w.cell? ⟨pb, 10, none⟩ = some v ∧
  w.cell? ⟨pb, 11, none⟩ = some (.bool (decide (2048 < xs.length))) ∧ w.frozen? ⟨pb, 8, none⟩ = false ∧ w.frozen? ⟨pb, 10, none⟩ = false ∧ w.frozen? ⟨pb, 11, none⟩ = false ∧
  w.ownsRow (pb + 1) 5 1 v (lastN xs).length ((lastN xs).map cb) ∧ pb < w.heap.size

/-- What is written: nil, or bytes in memory older than the tail. -/
def Src (pb : Nat) (w : World) (v : Value) (bs : List UInt8) : Prop := (v = .slice none 0 0 ∧ bs = []) ∨ ∃ ad c, v = .slice (some ad) bs.length c ∧ (0 < bs.length → ad.block < pb) ∧ ∀ j u, (bs.map cb)[j]? = some u → w.cell? (ad.add j) = some u

theorem row_ne {pb n : Nat} {v : Value} {xs : List Value} {w : World} (h : w.ownsRow (pb + 1) 5 1 v n xs) : v.ownBlock ≠ some pb := fun e => by have := (h.lt pb e).1; omega
theorem own_set {pb j n : Nat} {v u : Value} {xs : List Value} {w : World} (h : w.ownsRow (pb + 1) 5 1 v n xs) : (w.setCell ⟨pb, j, none⟩ u).ownsRow (pb + 1) 5 1 v n xs :=
  h.kept (row := some pb) ⟨rfl, rfl, rfl, by simp, fun k _ hk => heap_setCell_other w ⟨pb, j, none⟩ k u (fun e => hk (by simp [e]))⟩ (Or.inr (row_ne h))

/-- 'copy(buf, buf[over:])' over the row that buf owns, run in a world of whatever count of draws. -/
theorem copy_over (W : World) (B g over m cap : Nat) (ys : List UInt8) (hn : ys.length = over + m) (hrow : W.ownsRow B 5 1 (.slice (some ⟨g, 0, none⟩) (over + m) cap) (over + m) (ys.map cb)) :
    ∃ w2 : World, (∀ nq c2 ty, (Builtin.copy_ #[24, 24] ty #[.slice (some ⟨g, 0, none⟩) (over + m) cap, .slice (some ⟨g, over, none⟩) m c2]).run Try.prog (W.drewN nq) = .ok (.int .i64 (m : Int)) (w2.drewN nq)) ∧
      w2.ownsRow B 5 1 (.slice (some ⟨g, 0, none⟩) m cap) m ((ys.drop over).map cb) ∧ W.grownBy w2 (some g) := by
  have hr2 := hrow.2
  rcases hr2 with ⟨h', _⟩ | ⟨g', cap', cur, h', hb, hg, hnc, hcm, hcs, htake⟩
  · simp at h'
  · simp only [Value.slice.injEq, Option.some.injEq, Addr.mk.injEq, and_true, true_and] at h'
    obtain ⟨rfl, rfl⟩ := h'
    have hl : ((ys.drop over).map cb).length = m := by rw [List.length_map, List.length_drop, hn]; omega
    have hsrc : ∀ j v, ((ys.drop over).map cb)[j]? = some v → W.cell? ((⟨g, over, none⟩ : Addr).add j) = some v := by
      intro j v hj
      have hjl := (List.getElem?_eq_some_iff.1 hj).1
      rw [hl] at hjl
      rw [Go.WideShapes.add_plain, hrow.cellAt (over + j) (by omega), ← hj, List.getElem?_map, List.getElem?_map, List.getElem?_drop]
    refine ⟨W.setRow g (cur.toList.take 0 ++ (ys.drop over).map cb ++ cur.toList.drop (0 + m)).toArray, fun nq c2 ty => ?_, ?_, ?_⟩
    · have hrun := run_copy_row (P := Try.prog) (W.drewN nq) 24 24 ty 5 g 0 (over + m) cap ⟨g, over, none⟩ m c2 cur 5 ((ys.drop over).map cb) Try.underlying24 size5 hg (by rw [hl]; exact (Nat.min_eq_left (by omega)).symm) hsrc (by rw [hl, hcs]; omega) (one_cb _)
      rw [hl] at hrun
      exact hrun
    · refine ⟨by rw [hl]; omega, .inr ⟨g, cap, _, rfl, hb, setRow_heap W g _ _ 5 _ hg, by omega, hcm, ?_, ?_⟩⟩
      · simp only [List.take_zero, List.nil_append, List.size_toArray, List.length_append, hl, List.length_drop, Array.length_toList]
        omega
      · simp only [List.take_zero, List.nil_append, Nat.mul_one]
        rw [List.take_append_of_le_length (by rw [hl]; exact Nat.le_refl _), List.take_of_length_le (by rw [hl]; exact Nat.le_refl _)]
    · exact ⟨rfl, rfl, rfl, by simp [World.setRow], fun k _ hk => setRow_other W g k _ (fun e => hk (by simp [e]))⟩

theorem new_any (w : World) : Calls Try.prog 6 #[] w fun e w' => e = .returned (.pointer (some ⟨w.heap.size, 0, none⟩)) ∧ St w.heap.size [] w' ∧ Below w.heap.size w w' := by
  go_enter Try.func6, Try.ntmps6
  go_wp2
  go_ret
  refine ⟨rfl, ⟨.slice none 0 0, ?_⟩, ?_⟩
  · refine ⟨by simp [go_sem], by simp [go_sem], by simp [go_sem], by simp [go_sem], by simp [go_sem], by simp [go_sem], by simp [go_sem], World.ownsRow_nil _ _ _ _, by simp⟩
  · exact (Below.refl _ _).alloc (Nat.le_refl _) _

end Go.Proofs.Qxb6612801a.Tail
