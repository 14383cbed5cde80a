/-
  THE WALKS of bytes.IndexByte, binary.LittleEndian.Uint32 and valueWidth at the bytes that are laid out. By an AI agent.
-/
import Derived.Test.Qxb6609231aRows
import Derived.Test.Qxb6609231aLay
import Derived.WalkKit
import Derived.ProofKit
import Derived.WalkSpells
import Derived.WalkLawsBesides
import Derived.Deep.QuietTactic
import Derived.BigQuiet
import Derived.Lib.BytesEntry
import Derived.Deep.RegionHeld3
import Derived.Deep.DrawnRows
namespace Go.Proofs.Qxb6609231a.Count
open Go.RowKit Plain Lay

/-- The bytes xs lie in block g from place 0 on. -/
def Lies (g : Nat) (xs : List UInt8) (w : World) : Prop := ∀ i (h : i < xs.length), w.cell? ⟨g, i, none⟩ = some (cb xs[i])

set_option maxHeartbeats 1000000 in
theorem uint32_any (g off cap : Nat) (n : Int) (hn : n = 0 ∨ n = 2 ∨ n = 5) (len : Nat) (w : World) (hl : 4 ≤ len)
    (h0 : w.cell? ⟨g, off, none⟩ = some (.int .u8 n)) (h1 : w.cell? ⟨g, off + 1, none⟩ = some (.int .u8 0)) (h2 : w.cell? ⟨g, off + 2, none⟩ = some (.int .u8 0)) (h3 : w.cell? ⟨g, off + 3, none⟩ = some (.int .u8 0)) :
    Calls Try.prog 13 #[.agg #[], .slice (some ⟨g, off, none⟩) len cap] w fun e w' => e = .returned (.int .u32 n) ∧ ∃ c n, w' = (w.alloc (.cells c 42)).drewN n := by
  have hl' : (4 : Int) ≤ len := by omega
  have hlt := block_lt_of_cell h0
  rcases hn with rfl | rfl | rfl
  all_goals
    go_enter Try.func13, Try.ntmps13
    go_wp2
    go_quiet (fail)
    go_wp2
    go_ret
    exact ⟨rfl, _, _, rfl⟩

theorem bytesOf_nat (l : List UInt8) : Lib.bytesOf (l.map fun b => (b.toNat : Int)) = l := by
  unfold Lib.bytesOf
  rw [List.map_map]
  conv => rhs; rw [← List.map_id l]
  apply List.map_congr_left
  intro b _
  simp

/-- bytes.IndexByte(.., 0) over bytes l in block g from o on. -/
theorem ib_any (g o n c : Nat) (l : List UInt8) (hl : l.length = n) (w : World) (hc : ∀ i (h : i < l.length), w.cell? ⟨g, o + i, none⟩ = some (cb l[i])) :
    Calls Try.prog 10 #[.slice (some ⟨g, o, none⟩) n c, .int .u8 0] w fun e w' => e = .returned (.int .i64 (Lib.indexByte l 0)) ∧ w' = w := by
  have hr := Lib.run_indexByteSlice (P := Try.prog) (w := w) g o n c (l.map fun b => (b.toNat : Int)) (by simpa using hl) (fun i hi => by rw [hc i (by omega)]; simp [cb, (by omega : i < l.length)]) 0
  rw [bytesOf_nat] at hr
  go_enter Try.func10, Try.ntmps10
  go_wp2
  rw [run_callFunc_extern Try.func12 (by kernel_rfl) (by kernel_rfl) (by kernel_rfl) (e := Extern.BytealgIndexByte.indexByte) (by kernel_rfl), hr]
  simp only [Result.andThen]
  rw [Oper.upon_value]
  go_wp2
  go_ret
  exact ⟨rfl, rfl⟩

theorem lies_drop {g off : Nat} {xs : List UInt8} {w : World} (h : Lies g xs w) : ∀ i (hi : i < (xs.drop off).length), w.cell? ⟨g, off + i, none⟩ = some (cb (xs.drop off)[i]) := by
  intro i hi
  rw [List.length_drop] at hi
  rw [h (off + i) (by omega)]
  simp
theorem lies_at {g off i : Nat} {xs ys : List UInt8} {b : UInt8} {w : World} (h : Lies g xs w) (hd : xs.drop off = ys) (hb : ys[i]? = some b) : w.cell? ⟨g, off + i, none⟩ = some (.int .u8 (b.toNat : Int)) := by
  subst hd
  obtain ⟨hi, e⟩ := List.getElem?_eq_some_iff.1 hb
  rw [lies_drop h i hi, e]; rfl

/-- The kinds whose width is told by the kind alone. -/
theorem width_plain (g off last cap : Nat) (k n : Int) (w : World) (hk : (k = 1 ∧ n = 8) ∨ (k = 16 ∧ n = 4) ∨ (k = 8 ∧ n = 1) ∨ (k = 10 ∧ n = 0)) :
    Calls Try.prog 11 #[.slice (some ⟨g, 0, none⟩) last cap, .int .u8 k, .int .i64 off] w fun e w' => e = .returned (.int .i64 n) ∧ Below w.heap.size w w' := by
  rcases hk with ⟨rfl, rfl⟩ | ⟨rfl, rfl⟩ | ⟨rfl, rfl⟩ | ⟨rfl, rfl⟩
  all_goals
    go_enter Try.func11, Try.ntmps11
    go_wp2
    go_ret
    exact ⟨rfl, Below.refl _ _⟩

set_option maxHeartbeats 1000000 in
theorem width_regex (g off cap : Nat) (xs C : List UInt8) (w : World) (h : Lies g xs w) (hd : xs.drop off = 97 :: 0 :: 105 :: 0 :: C) (hcap : xs.length ≤ cap) (hm : xs.length ≤ 4194304) :
    Calls Try.prog 11 #[.slice (some ⟨g, 0, none⟩) xs.length cap, .int .u8 11, .int .i64 off] w fun e w' => e = .returned (.int .i64 4) ∧ Below w.heap.size w w' := by
  have hlen : xs.length = off + 4 + C.length := by have := congrArg List.length hd; simp at this; omega
  have h1 : (off : Int) + 4 ≤ xs.length := by omega
  have h2 : (xs.length : Int) ≤ cap := by omega
  have h3 : (xs.length : Int) ≤ 4194304 := by omega
  have c1 := fun w (h : Lies g xs w) => ib_any g off (xs.length - off) (cap - off) (xs.drop off) (by simp) w (lies_drop h)
  have c2 := fun w (h : Lies g xs w) => ib_any g (off + 1 + 1) (xs.length - (off + 1 + 1)) (cap - (off + 1 + 1)) (xs.drop (off + 1 + 1)) (by simp) w (lies_drop h)
  have e1 : Lib.indexByte (xs.drop off) 0 = 1 := by rw [hd]; simp [Lib.indexByte]
  have e2 : Lib.indexByte (xs.drop (off + 1 + 1)) 0 = 1 := by rw [Nat.add_assoc, ← List.drop_drop, hd]; simp [Lib.indexByte]
  rw [e1] at c1
  rw [e2] at c2
  clear e1 e2
  have H := hidden h
  have HL := hidden hlen
  clear h hlen hd
  generalize hn : xs.length = last at *
  clear hn
  go_enter Try.func11, Try.ntmps11
  go_wp2_with fail
  refine (c1 _ H.out).mono ?_
  rintro e w9 ⟨rfl, hw9⟩
  obtain rfl := hw9.symm
  go_wp2_with fail
  refine (c2 _ H.out).mono ?_
  rintro e w9 ⟨rfl, hw9⟩
  obtain rfl := hw9.symm
  go_wp2_with fail
  go_ret
  exact ⟨rfl, Below.refl _ _⟩


theorem below_d (w : World) (o : Obj) (n m : Nat) : Below w.heap.size w (((w.drewN n).alloc o).drewN m) := below_drewN ((below_drewN (Below.refl _ w) n).alloc (Nat.le_refl _) o) m

set_option maxHeartbeats 1000000 in
theorem width_len (g off cap : Nat) (k m n : Int) (last : Nat) (w : World) (c0 : w.cell? ⟨g, off, none⟩ = some (.int .u8 m)) (c1 : w.cell? ⟨g, off + 1, none⟩ = some (.int .u8 0)) (c2 : w.cell? ⟨g, off + 2, none⟩ = some (.int .u8 0)) (c3 : w.cell? ⟨g, off + 3, none⟩ = some (.int .u8 0))
    (hd : off + 4 ≤ last) (hcap : last ≤ cap) (hm : last ≤ 4194304) (hk : (k = 2 ∧ m = 2 ∧ n = 6) ∨ (k = 3 ∧ m = 5 ∧ n = 5) ∨ (k = 5 ∧ m = 0 ∧ n = 5)) :
    Calls Try.prog 11 #[.slice (some ⟨g, 0, none⟩) last cap, .int .u8 k, .int .i64 off] w fun e w' => e = .returned (.int .i64 n) ∧ Below w.heap.size w w' := by
  have h1 : (off : Int) + 4 ≤ last := by omega
  have h2 : (last : Int) ≤ cap := by omega
  have h3 : (last : Int) ≤ 4194304 := by omega
  have hm3 : m = 0 ∨ m = 2 ∨ m = 5 := by omega
  have cU := fun nd => uint32_any g off (cap - off) m hm3 (last - off) (w.drewN nd) (by omega) c0 c1 c2 c3
  clear hm3 c0 c1 c2 c3
  rcases hk with ⟨rfl, rfl, rfl⟩ | ⟨rfl, rfl, rfl⟩ | ⟨rfl, rfl, rfl⟩
  all_goals
    go_enter Try.func11, Try.ntmps11
    go_wp2_with fail
    go_region_with ((go_at_call 13; refine (cU 1).mono ?_; rintro e w9 ⟨rfl, c, nd, rfl⟩))
    all_goals go_wp2
    all_goals go_ret
    all_goals exact ⟨rfl, below_d _ _ _ _⟩

theorem kind_of (s : UInt8) : (s.toNat % 8 = 0 → kind s = 1) ∧ (s.toNat % 8 = 1 → kind s = 16) ∧ (s.toNat % 8 = 2 → kind s = 8) ∧ (s.toNat % 8 = 3 → kind s = 10) ∧ (s.toNat % 8 = 4 → kind s = 2) ∧ (s.toNat % 8 = 5 → kind s = 3) ∧ (s.toNat % 8 = 6 → kind s = 5) ∧ (s.toNat % 8 = 7 → kind s = 11) := by
  unfold kind
  refine ⟨?_, ?_, ?_, ?_, ?_, ?_, ?_, ?_⟩ <;> intro h <;> simp [h]
theorem val_of (s : UInt8) : (s.toNat % 8 = 0 → (val s).length = 8) ∧ (s.toNat % 8 = 1 → (val s).length = 4) ∧ (s.toNat % 8 = 2 → (val s).length = 1) ∧ (s.toNat % 8 = 3 → (val s).length = 0) ∧ (s.toNat % 8 = 4 → val s = [2, 0, 0, 0, 120, 0]) ∧ (s.toNat % 8 = 5 → val s = [5, 0, 0, 0, 0]) ∧ (s.toNat % 8 = 6 → val s = [0, 0, 0, 0, s]) ∧ (s.toNat % 8 = 7 → val s = [97, 0, 105, 0]) := by
  unfold val
  refine ⟨?_, ?_, ?_, ?_, ?_, ?_, ?_, ?_⟩ <;> intro h <;> simp [h]

/-- valueWidth answers the value's length. -/
theorem width_any (g off cap : Nat) (s : UInt8) (xs C : List UInt8) (w : World) (h : Lies g xs w) (hd : xs.drop off = val s ++ C) (hcap : xs.length ≤ cap) (hm : xs.length ≤ 4194304) :
    Calls Try.prog 11 #[.slice (some ⟨g, 0, none⟩) xs.length cap, .int .u8 (kind s).toNat, .int .i64 off] w fun e w' => e = .returned (.int .i64 (val s).length) ∧ Below w.heap.size w w' := by
  obtain ⟨k0, k1, k2, k3, k4, k5, k6, k7⟩ := kind_of s
  obtain ⟨v0, v1, v2, v3, v4, v5, v6, v7⟩ := val_of s
  rcases mod8 s with e | e | e | e | e | e | e | e
  · rw [k0 e, v0 e]; exact width_plain g off _ cap 1 8 w (Or.inl ⟨rfl, rfl⟩)
  · rw [k1 e, v1 e]; exact width_plain g off _ cap 16 4 w (Or.inr (Or.inl ⟨rfl, rfl⟩))
  · rw [k2 e, v2 e]; exact width_plain g off _ cap 8 1 w (Or.inr (Or.inr (Or.inl ⟨rfl, rfl⟩)))
  · rw [k3 e, v3 e]; exact width_plain g off _ cap 10 0 w (Or.inr (Or.inr (Or.inr ⟨rfl, rfl⟩)))
  · rw [v4 e] at hd
    rw [k4 e, v4 e]
    have hl : off + 4 ≤ xs.length := by have := congrArg List.length hd; simp at this; omega
    exact width_len g off cap 2 2 6 _ w (lies_at (i := 0) (b := 2) h hd rfl) (lies_at (i := 1) (b := 0) h hd rfl) (lies_at (i := 2) (b := 0) h hd rfl) (lies_at (i := 3) (b := 0) h hd rfl) hl hcap hm (Or.inl ⟨rfl, rfl, rfl⟩)
  · rw [v5 e] at hd
    rw [k5 e, v5 e]
    have hl : off + 4 ≤ xs.length := by have := congrArg List.length hd; simp at this; omega
    exact width_len g off cap 3 5 5 _ w (lies_at (i := 0) (b := 5) h hd rfl) (lies_at (i := 1) (b := 0) h hd rfl) (lies_at (i := 2) (b := 0) h hd rfl) (lies_at (i := 3) (b := 0) h hd rfl) hl hcap hm (Or.inr (Or.inl ⟨rfl, rfl, rfl⟩))
  · rw [v6 e] at hd
    rw [k6 e, v6 e]
    have hl : off + 4 ≤ xs.length := by have := congrArg List.length hd; simp at this; omega
    exact width_len g off cap 5 0 5 _ w (lies_at (i := 0) (b := 0) h hd rfl) (lies_at (i := 1) (b := 0) h hd rfl) (lies_at (i := 2) (b := 0) h hd rfl) (lies_at (i := 3) (b := 0) h hd rfl) hl hcap hm (Or.inr (Or.inr ⟨rfl, rfl, rfl⟩))
  · rw [v7 e] at hd
    rw [k7 e, v7 e]
    exact width_regex g off cap xs C w h hd hcap hm

end Go.Proofs.Qxb6609231a.Count
