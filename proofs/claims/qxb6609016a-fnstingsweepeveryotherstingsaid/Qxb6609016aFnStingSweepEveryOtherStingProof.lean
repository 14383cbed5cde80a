/-
  A PROOF OF 'Rows.FnStingSweepEveryOtherStingSaid' ('zzlaws_internal_paxos_b1.FnStingSweepEveryOtherSting'). The frame is the guide's shell (proof-skeleton.mjs), its last row turned to 'Below' (the call makes memory of its own and writes it); the walk and its plain law are ours. By an AI agent.
-/
import Derived.Test.Qxb6609016aSting
import Derived.Test.Qxb6609016aCount
import Derived.Deep.AppendLies
import Derived.Deep.DeepCutAuto
import Derived.Laws.IdiomStrings
import Derived.Laws.OwnMore
import Derived.WalkKit
import Derived.ProofKit
import Derived.OpenShut
import Derived.ShutString
namespace Go.Proofs.Qxb6609016a.fnStingSweepEveryOtherSting
open Go.ChangeShapes Go.WideShapes Go.ChangeAt Go.RowKit
open Go.ChangeMaps (open_string shut_string)
set_option linter.unusedVariables false      -- a walk need not use every 'w<i>' (that an integer argument fits its kind)

theorem own : ownKnob Try.prog.godebug = none := by kernel_rfl

open Plain Sting

/-- A byte's cell. -/
def cb (b : UInt8) : Value := .int .u8 (b.toNat : Int)
theorem info5 : (Try.prog.info? 5).map (fun i => (i.zero, i.size, i.bytes)) = some (some (.int .u8 0), 1, 1) := by kernel_rfl

/-- The zero [256]bool. -/
def falses : Array Value := ⟨(List.range 256).map fun _ => Value.bool false⟩
theorem zero40 (w : World) : (zeroValue 40).run Try.prog w = .ok (.agg falses) w := by kernel_rfl
theorem falses_at (j : Nat) (h : j < 256) : falses[j]? = some (.bool false) := by
  show ((List.range 256).map fun _ => Value.bool false).toArray[j]? = _
  rw [List.getElem?_toArray, List.getElem?_map, List.getElem?_range h]; rfl

/-- The table: cell x of block B holds whether l holds the byte x; none is frozen. -/
def Seen (B : Nat) (l : List UInt8) (w : World) : Prop :=
  (∀ x, x < 256 → w.cell? ⟨B, x, none⟩ = some (.bool (l.contains (UInt8.ofNat x)))) ∧ ∀ x, w.frozen? ⟨B, x, none⟩ = false
theorem seen_start (w : World) : Seen w.heap.size [] (w.alloc (.cells falses 40)) :=
  ⟨fun x hx => by rw [World.cell?_alloc_new, falses_at x hx]; rfl, fun x => by simp [go_sem]⟩
theorem seen_at {B : Nat} {l : List UInt8} {w : World} (h : Seen B l w) (b : UInt8) : w.cell? ⟨B, b.toNat, none⟩ = some (.bool (l.contains b)) := by
  rw [h.1 b.toNat (by have := b.toNat_lt; omega)]; simp
theorem seen_old {B : Nat} {l : List UInt8} {w : World} (h : Seen B l w) (b : UInt8) (hb : l.contains b = true) : Seen B (l ++ [b]) w := by
  refine ⟨fun x hx => ?_, h.2⟩
  rw [h.1 x hx, contains_snoc l b x hx]
  cases hc : (x == b.toNat)
  · simp
  · have : UInt8.ofNat x = b := by rw [beq_iff_eq.1 hc]; simp
    rw [this, hb]; rfl
theorem seen_new {B : Nat} {l : List UInt8} {w : World} (h : Seen B l w) (b : UInt8) : Seen B (l ++ [b]) (w.setCell ⟨B, b.toNat, none⟩ (.bool true)) := by
  refine ⟨fun x hx => ?_, fun x => by simpa [go_sem] using h.2 x⟩
  rw [contains_snoc l b x hx]
  by_cases hc : x = b.toNat
  · subst hc
    rw [World.cell?_setCell_same _ _ _ (seen_at h b)]; simp
  · rw [World.cell?_setCell_other _ _ _ _ (by intro e; injection e with _ e2; exact hc e2.symm), h.1 x hx]
    have : (x == b.toNat) = false := by rw [beq_eq_false_iff_ne]; exact hc
    simp [this]
theorem drop_snoc (f : ByteArray) (k : Nat) (h2 : 2 ≤ k) (h : k < f.size) : (f.data.toList.take (k + 1)).drop 2 = (f.data.toList.take k).drop 2 ++ [f[k]] := by
  rw [take_snoc f k h, List.drop_append_of_le_length (by rw [List.length_take, ← Lib.size_eq]; omega)]

/-- The call's own row (block bb, n bytes' cells ys) and the label's cell (block lb). -/
def Row (B bb lb n : Nat) (f : ByteArray) (ys : List Value) (w0 w : World) : Prop :=
  w.ownsRow B 5 1 (.slice (some ⟨bb, 0, none⟩) n n) n ys ∧ w.cell? ⟨lb, 0, none⟩ = some (.string f) ∧ Below B w0 w ∧ bb < w.heap.size ∧ lb < bb ∧ B ≤ lb
theorem grown_of_below {w w' : World} (h : Below w.heap.size w w') : w.grownBy w' none := ⟨h.os, h.tape, h.output, h.size, fun k hk _ => h.block k hk⟩
theorem below_of_grown {w w1 : World} (h : w.grownBy w1 none) : Below w.heap.size w w1 := (Below.refl _ _).grown h (Nat.le_refl _) (by intro k hk; cases hk)
theorem Row.later {B bb lb n : Nat} {f : ByteArray} {ys : List Value} {w0 w w' : World} (h : Row B bb lb n f ys w0 w) (hb : Below w.heap.size w w') : Row B bb lb n f ys w0 w' := by
  obtain ⟨h1, h2, h3, h4, h5, h6⟩ := h
  exact ⟨h1.kept (grown_of_below hb) (Or.inr (by simp [Value.ownBlock])), by rw [hb.cell (show lb < w.heap.size by omega)]; exact h2, h3.trans (hb.mono (by omega)), by have := hb.size; omega, h5, h6⟩
theorem Row.set {B bb lb n : Nat} {f : ByteArray} {ys : List Value} {w0 w : World} (h : Row B bb lb n f ys w0 w) (j : Nat) (u : Value) : Row B bb lb n f (ys.set j u) w0 (w.setCell ⟨bb, j, none⟩ u) := by
  obtain ⟨h1, h2, h3, h4, h5, h6⟩ := h
  refine ⟨(h1.stored j u).1, ?_, h3.setCell (show B ≤ bb by omega) u, by simpa using h4, h5, h6⟩
  rw [World.cell?_setCell_other _ _ _ _ (by intro e; injection e; omega)]; exact h2
theorem Row.cell {B bb lb n : Nat} {f : ByteArray} {ys : List Value} {w0 w : World} (h : Row B bb lb n f ys w0 w) (j : Nat) (hj : j < n) : ∃ v, w.cell? ⟨bb, j, none⟩ = some v := by
  rw [h.1.cellAt j (by omega)]
  have := h.1.1
  exact ⟨ys[j]'(by omega), by simp⟩
theorem Row.free {B bb lb n : Nat} {f : ByteArray} {ys : List Value} {w0 w : World} (h : Row B bb lb n f ys w0 w) (j : Nat) : w.frozen? ⟨bb, j, none⟩ = false := h.1.frozenAt j
theorem Row.conv {B bb lb n : Nat} {f : ByteArray} {l : List UInt8} {w0 w : World} (h : Row B bb lb n f (l.map cb) w0 w) (hn : l.length = n) :
    (convert 33 9 (.slice (some ⟨bb, 0, none⟩) n n)).run Try.prog w = .ok (.string ⟨l.toArray⟩) w := by
  subst hn
  refine run_convert_bytes_back _ 33 9 5 _ l.length l Try.underlying33 Try.underlying5 Try.underlying9 fun j hj => ?_
  refine h.1.cells rfl j _ ?_
  simp [hj, cb]
theorem row_start {w0 wr w1 : World} {f : ByteArray} {B n : Nat} {ys : List Value} (hB : B ≤ wr.heap.size) (hb : Below B w0 wr)
    (hown : w1.ownsRow B 5 1 (.slice (some ⟨((wr.alloc (.cells #[.string f] 35)).alloc (.cells #[.string f] 35)).heap.size, 0, none⟩) n n) n ys)
    (hgrow : ((wr.alloc (.cells #[.string f] 35)).alloc (.cells #[.string f] 35)).grownBy w1 none) : Row B (wr.heap.size + 1 + 1) (wr.heap.size + 1) n f ys w0 w1 := by
  have hb1 := below_of_grown hgrow
  have e : ((wr.alloc (.cells #[.string f] 35)).alloc (.cells #[.string f] 35)).heap.size = wr.heap.size + 1 + 1 := by simp
  rw [e] at hown
  refine ⟨hown, ?_, ?_, (hown.lt _ rfl).2, by omega, by omega⟩
  · rw [hb1.cell (by simp)]; simp [go_sem]
  · exact ((hb.alloc hB _).alloc (by simp; omega) _).trans (hb1.mono (by simp; omega))
theorem copied_step {ys : List Value} {g : ByteArray} {k : Nat} (hk : k < g.size) (hl : ys.length = g.size) (h : ys.take k = (g.data.toList.take k).map cb) :
    (ys.set k (cb g[k])).take (k + 1) = (g.data.toList.take (k + 1)).map cb := by
  rw [take_snoc g k hk, List.map_append, ← h, List.take_succ_eq_append_getElem (by simpa using (by omega : k < ys.length)), List.take_set]
  rw [List.set_eq_of_length_le (by rw [List.length_take]; omega)]
  simp
theorem copied_end {ys : List Value} {g : ByteArray} {k : Nat} (hk : ¬ k < g.size) (hg : 2 ≤ g.size) (hl : ys.length = g.size) (h : ys.take k = (g.data.toList.take k).map cb) :
    ∃ c : UInt8, ys = (c :: g.data.toList.drop 1).map cb := by
  have hgl : g.data.toList.length = g.size := (Lib.size_eq g).symm
  rw [List.take_of_length_le (by omega), List.take_of_length_le (by omega)] at h
  subst h
  revert hgl
  generalize g.data.toList = l
  intro hgl
  match l with
  | [] => simp at hgl; omega
  | c :: l => exact ⟨c, rfl⟩

theorem hidden {p : Prop} (h : p) : Hid p := h
theorem cb_nat (n : Nat) (h : n < 256) : cb (UInt8.ofNat n) = .int .u8 (n : Int) := by
  unfold cb; rw [UInt8.toNat_ofNat_of_lt' (by simpa using h)]
/-- The first cell is written: the row is the label of sting n. -/
theorem Row.first {B bb lb : Nat} {f g : ByteArray} {c : UInt8} {w0 w : World} (h : Row B bb lb g.size f ((c :: g.data.toList.drop 1).map cb) w0 w) (n : Nat) (hn : n < 256) :
    Row B bb lb g.size f ((UInt8.ofNat n :: g.data.toList.drop 1).map cb) w0 (w.setCell ⟨bb, 0, none⟩ (.int .u8 (n : Int))) := by
  have := h.set 0 (cb (UInt8.ofNat n))
  rw [cb_nat n hn] at this
  rw [List.map_cons, cb_nat n hn]
  exact this
theorem Row.far {B bb lb n : Nat} {f : ByteArray} {ys : List Value} {w0 w : World} (h : Row B bb lb n f ys w0 w) (o1 o2 o3 o4 : Obj) : ((((w.alloc o1).alloc o2).alloc o3).alloc o4).cell? ⟨lb, 0, none⟩ = some (.string f) := by
  obtain ⟨h1, h2, h3, h4, h5, h6⟩ := h
  have hb : Below w.heap.size w ((((w.alloc o1).alloc o2).alloc o3).alloc o4) :=
    ((((Below.refl _ w).alloc (Nat.le_refl _) _).alloc (by simp) _).alloc (by simp; omega) _).alloc (by simp; omega) _
  rw [hb.cell (show lb < w.heap.size by omega)]; exact h2
/-- Behind the first Less: the row, the label's cell and m's cell are as they were. -/
theorem Row.behind {B bb lb n : Nat} {f m : ByteArray} {ys : List Value} {w0 w w7 : World} (h : Row B bb lb n f ys w0 w) {o1 o3 o4 : Obj}
    (hb : Below ((((w.alloc o1).alloc (.cells #[.string m] 35)).alloc o3).alloc o4).heap.size ((((w.alloc o1).alloc (.cells #[.string m] 35)).alloc o3).alloc o4) w7) :
    Row B bb lb n f ys w0 w7 ∧ w7.cell? ⟨lb, 0, none⟩ = some (.string f) ∧ w7.cell? ⟨w.heap.size + 1, 0, none⟩ = some (.string m) := by
  have hb1 : Below w.heap.size w ((((w.alloc o1).alloc (.cells #[.string m] 35)).alloc o3).alloc o4) :=
    ((((Below.refl _ w).alloc (Nat.le_refl _) _).alloc (by simp) _).alloc (by simp; omega) _).alloc (by simp; omega) _
  have hr := h.later (hb1.trans (hb.mono (by simp; omega)))
  refine ⟨hr, hr.2.1, ?_⟩
  rw [hb.cell (by simp <;> omega)]
  simp [go_sem, World.cell?_alloc_past]

set_option maxHeartbeats 1000000 in
set_option maxRecDepth 100000 in
theorem walk_main (f g : ByteArray) (w : World) (hf : f.size = 0 ∨ 2 ≤ f.size) (hg : 2 ≤ g.size) (hf1 : f.size ≤ 4096) (hg1 : g.size ≤ 4096) :
    Calls Try.prog 6 #[.string f, .string g] w fun e w' => e = .returned (.bool true) ∧ Below w.heap.size w w' := by
  have m0 : f.size ≤ maxLen := by unfold maxLen; omega
  have m1 : g.size ≤ maxLen := by unfold maxLen; omega
  have hd : decide (f.size + g.size ≤ 1048576) = true := by rw [decide_eq_true_iff]; omega
  have hF1 : (f.size : Int) ≤ 4096 := by omega
  have hG1 : (g.size : Int) ≤ 4096 := by omega
  have hG2 : (2 : Int) ≤ g.size := by omega
  have hne : ((f.size : Int) == 1) = false := by simp; omega
  obtain ⟨i0, hi, hz0, hz1, hz2⟩ := info_parts info5
  have hzv := zero40
  go_enter Try.func6, Try.ntmps6
  go_wp2_with (first | (go_at_call 18; refine (bytesB_any _ _ _ m0 m1).mono ?_; rintro e w9 ⟨rfl, hw9⟩; obtain rfl := hw9.symm) | (go_at_call 13; refine (firstByte_any _ _).mono ?_; rintro e w9 ⟨rfl, hw9⟩; obtain rfl := hw9.symm))
  clear hzv
  go_loopw [7, 8] (fun d i wr => ∃ k : Nat, 2 ≤ k ∧ k ≤ 4096 ∧ i = .int .i64 k ∧ d = .int .i64 (D ((f.data.toList.take k).drop 2)) ∧ Hid (Seen w.heap.size ((f.data.toList.take k).drop 2) wr) ∧ Below w.heap.size w wr) (fun _ i _ => f.size - (intOf i).toNat)
  case atStart =>
    have hnil : (f.data.toList.take 2).drop 2 = [] := List.drop_of_length_le (List.length_take_le _ _)
    exact ⟨2, Nat.le_refl _, by omega, rfl, by rw [hnil]; rfl, by rw [hnil]; exact seen_start w, (Below.refl _ _).alloc (Nat.le_refl _) _⟩
  case round =>
    obtain ⟨k, hk2, hk4, rfl, rfl, hseen, hbel⟩ := hrel
    have hD := D_le ((f.data.toList.take k).drop 2)
    by_cases hlt : k < f.size
    · have hb : (f[k].toNat : Int) < 256 := by have := f[k].toNat_lt; omega
      have hfr := hseen.out.2 f[k].toNat
      have hce := seen_at hseen.out f[k]
      have hsn := drop_snoc f k hk2 hlt
      have HS : Hid ((f.data.toList.take (k + 1)).drop 2 = (f.data.toList.take k).drop 2 ++ [f[k]]) := hsn
      clear hsn
      cases hcon : ((f.data.toList.take k).drop 2).contains f[k]
      · rw [hcon] at hce
        go_wp2
        go_roundw
        case rel => exact ⟨k + 1, by omega, by omega, by go_num, by rw [HS.out, D_new _ _ hcon]; go_num, by rw [HS.out]; exact seen_new hseen.out f[k], hbel.setCell (Nat.le_refl _) _⟩
        case measure => simp [intOf]; omega
      · rw [hcon] at hce
        go_wp2
        go_roundw
        case rel => exact ⟨k + 1, by omega, by omega, by go_num, by rw [HS.out, D_old _ _ hcon], by rw [HS.out]; exact seen_old hseen.out f[k] hcon, hbel⟩
        case measure => simp [intOf]; omega
    · have hS : (f.data.toList.take k).drop 2 = f.data.toList.drop 2 := by rw [List.take_of_length_le (by rw [← Lib.size_eq]; omega)]
      rw [hS] at hD
      rw [hS]
      clear hseen hS
      have mx1 : (g.extract 2 g.size).size ≤ maxLen := by rw [ByteArray.size_extract]; unfold maxLen; omega
      have cG := fun w => holdsByte_any (g.extract 2 g.size) (stg f) w mx1
      rw [has_drop] at cG
      go_wp2_with (first | (go_at_call 15; refine (cG _).mono ?_; rintro e w9 ⟨rfl, hw9⟩; obtain rfl := hw9.symm) | (go_at_call 14; refine (label_any _ _).mono ?_; rintro e w9 ⟨rfl, hw9⟩; obtain rfl := hw9.symm) | (refine wpList_make_full _ rfl _ _ 33 rfl w.heap.size 5 i0 (.int .u8 0) 1 Try.underlying33 hi hz0 hz1 .i64 .i64 _ _ g.size rfl rfl rfl rfl (by rw [hz2]; omega) (by unfold maxLen; omega) (by have := hbel.size; simp; omega) ?_; intro w1 hown1 hgrow1))
      have hrow := row_start hbel.size hbel hown1 hgrow1
      clear hown1 hgrow1 hbel
      generalize hbb : wr.heap.size + 1 + 1 = bb at *
      generalize hlb : wr.heap.size + 1 = lb at *
      clear hbb hlb
      go_loopw [12] (fun i w2 => ∃ k : Nat, k ≤ g.size ∧ i = .int .i64 k ∧ ∃ ys, Hid (Row w.heap.size bb lb g.size f ys w w2 ∧ ys.take k = (g.data.toList.take k).map cb)) (fun i _ => g.size - (intOf i).toNat)
      case atStart => exact ⟨0, Nat.zero_le _, rfl, _, ⟨hrow, rfl⟩⟩
      case round =>
        clear hrow
        obtain ⟨k2, hk3, rfl, ys, hys⟩ := hrel
        by_cases hlt2 : k2 < g.size
        · obtain ⟨v, hcv⟩ := hys.out.1.cell k2 hlt2
          have hfv := hys.out.1.free k2
          go_wp2
          go_roundw
          case rel => exact ⟨k2 + 1, by omega, by go_num, _, ⟨hys.out.1.set k2 (cb g[k2]), copied_step hlt2 (by simpa using hys.out.1.1.1) hys.out.2⟩⟩
          case measure => simp [intOf]; omega
        · obtain ⟨c, hc⟩ := copied_end hlt2 hg (by simpa using hys.out.1.1.1) hys.out.2
          have hrow := hys.out.1
          rw [hc] at hrow
          clear hys hc
          go_wp2
          cases hG : hold g (stg f)
          · go_loopw [13, 14, 15] (fun vb va vx w3 => ∃ n : Nat, n ≤ 256 ∧ vx = .int .i64 n ∧ vb = .int .i64 0 ∧ va = .int .i64 (cT f n) ∧ ∃ c : UInt8, Hid (Row w.heap.size bb lb g.size f ((c :: g.data.toList.drop 1).map cb) w w3)) (fun _ _ vx _ => 256 - (intOf vx).toNat)
            case atStart => exact ⟨0, by omega, rfl, rfl, rfl, c, hrow⟩
            case round =>
              clear hrow
              obtain ⟨n, hn, rfl, rfl, rfl, c2, hrow⟩ := hrel
              have hcl := cT_le f n
              by_cases hlt3 : n < 256
              · obtain ⟨v, hcv⟩ := hrow.out.cell 0 (by omega)
                have hfv := hrow.out.free 0
                have hrow1 := hrow.out.first n hlt3
                have hconv := hrow1.conv (by have := Lib.size_eq g; simp; omega)
                have cS := fun w => zzsting_any (mx g (UInt8.ofNat n)) w
                have hMs : (mx g (UInt8.ofNat n)).size = 0 ∨ 2 ≤ (mx g (UInt8.ofNat n)).size := Or.inr (mx_size g _ hg)
                have cL1 := fun w => less_any f (mx g (UInt8.ofNat n)) w hf hMs
                have cL2 := fun w => less_any (mx g (UInt8.ofNat n)) f w hMs hf
                rw [mx_stg, UInt8.toNat_ofNat_of_lt' (by simpa using hlt3)] at cS
                change (convert 33 9 (.slice (some ⟨bb, 0, none⟩) g.size g.size)).run Try.prog _ = .ok (.string (mx g (UInt8.ofNat n))) _ at hconv
                have hfar := hrow1.far
                cases hh : hold f (UInt8.ofNat n)
                · have e1 : less f (mx g (UInt8.ofNat n)) = false := by rw [less_up, hG, hh]; rfl
                  have e2 : less (mx g (UInt8.ofNat n)) f = false := by rw [less_down, hG, hh]; rfl
                  rw [e1] at cL1
                  rw [e2] at cL2
                  clear e1 e2
                  go_wp2_with (first | (go_at_call 14; refine (label_any _ _).mono ?_; rintro e w9 ⟨rfl, hw9⟩; obtain rfl := hw9.symm) | (go_at_call 17; refine (cS _).mono ?_; rintro e w9 ⟨rfl, hw9⟩; obtain rfl := hw9.symm))
                  refine (cL1 _).mono ?_
                  rintro e w7 ⟨rfl, hb7⟩
                  obtain ⟨hrow2, k7, k8⟩ := hrow1.behind hb7
                  rw [World.size_setCell] at k8
                  clear hb7 hrow1 hconv hfar
                  go_wp2_with fail
                  refine (cL2 _).mono ?_
                  rintro e w8 ⟨rfl, hb8⟩
                  have hrow3 := hidden (hrow2.later hb8)
                  clear hb8 hrow2 k7 k8
                  go_wp2_with fail
                  go_roundw
                  case rel => exact ⟨n + 1, by omega, by go_num, rfl, by rw [cT_no f n hh], _, hrow3⟩
                  case measure => simp [intOf]; omega
                · have e1 : less f (mx g (UInt8.ofNat n)) = false := by rw [less_up, hG, hh]; rfl
                  have e2 : less (mx g (UInt8.ofNat n)) f = true := by rw [less_down, hG, hh]; rfl
                  rw [e1] at cL1
                  rw [e2] at cL2
                  clear e1 e2
                  go_wp2_with (first | (go_at_call 14; refine (label_any _ _).mono ?_; rintro e w9 ⟨rfl, hw9⟩; obtain rfl := hw9.symm) | (go_at_call 17; refine (cS _).mono ?_; rintro e w9 ⟨rfl, hw9⟩; obtain rfl := hw9.symm))
                  refine (cL1 _).mono ?_
                  rintro e w7 ⟨rfl, hb7⟩
                  obtain ⟨hrow2, k7, k8⟩ := hrow1.behind hb7
                  rw [World.size_setCell] at k8
                  clear hb7 hrow1 hconv hfar
                  go_wp2_with fail
                  refine (cL2 _).mono ?_
                  rintro e w8 ⟨rfl, hb8⟩
                  have hrow3 := hidden (hrow2.later hb8)
                  clear hb8 hrow2 k7 k8
                  go_wp2_with fail
                  go_roundw
                  case rel => exact ⟨n + 1, by omega, by go_num, rfl, by rw [cT_yes f n hh]; go_num, _, hrow3⟩
                  case measure => simp [intOf]; omega
              · have hn2 : n = 256 := by omega
                subst hn2
                have hca := cT_all f
                have HC : Hid (cT f 256 = D (f.data.toList.drop 2)) := hca
                clear hca hlt3
                rw [HC.out]
                rw [HC.out] at hcl
                go_wp2
                go_ret
                exact ⟨rfl, hrow.out.2.2.1⟩
          · go_loopw [13, 14, 15] (fun vb va vx w3 => ∃ n : Nat, n ≤ 256 ∧ vx = .int .i64 n ∧ vb = .int .i64 ((n : Int) - (cT f n : Int)) ∧ va = .int .i64 0 ∧ ∃ c : UInt8, Hid (Row w.heap.size bb lb g.size f ((c :: g.data.toList.drop 1).map cb) w w3)) (fun _ _ vx _ => 256 - (intOf vx).toNat)
            case atStart => exact ⟨0, by omega, rfl, rfl, rfl, c, hrow⟩
            case round =>
              clear hrow
              obtain ⟨n, hn, rfl, rfl, rfl, c2, hrow⟩ := hrel
              have hcl := cT_le f n
              by_cases hlt3 : n < 256
              · obtain ⟨v, hcv⟩ := hrow.out.cell 0 (by omega)
                have hfv := hrow.out.free 0
                have hrow1 := hrow.out.first n hlt3
                have hconv := hrow1.conv (by have := Lib.size_eq g; simp; omega)
                have cS := fun w => zzsting_any (mx g (UInt8.ofNat n)) w
                have hMs : (mx g (UInt8.ofNat n)).size = 0 ∨ 2 ≤ (mx g (UInt8.ofNat n)).size := Or.inr (mx_size g _ hg)
                have cL1 := fun w => less_any f (mx g (UInt8.ofNat n)) w hf hMs
                have cL2 := fun w => less_any (mx g (UInt8.ofNat n)) f w hMs hf
                rw [mx_stg, UInt8.toNat_ofNat_of_lt' (by simpa using hlt3)] at cS
                change (convert 33 9 (.slice (some ⟨bb, 0, none⟩) g.size g.size)).run Try.prog _ = .ok (.string (mx g (UInt8.ofNat n))) _ at hconv
                have hfar := hrow1.far
                cases hh : hold f (UInt8.ofNat n)
                · have e1 : less f (mx g (UInt8.ofNat n)) = true := by rw [less_up, hG, hh]; rfl
                  have e2 : less (mx g (UInt8.ofNat n)) f = false := by rw [less_down, hG, hh]; rfl
                  rw [e1] at cL1
                  rw [e2] at cL2
                  clear e1 e2
                  go_wp2_with (first | (go_at_call 14; refine (label_any _ _).mono ?_; rintro e w9 ⟨rfl, hw9⟩; obtain rfl := hw9.symm) | (go_at_call 17; refine (cS _).mono ?_; rintro e w9 ⟨rfl, hw9⟩; obtain rfl := hw9.symm))
                  refine (cL1 _).mono ?_
                  rintro e w7 ⟨rfl, hb7⟩
                  obtain ⟨hrow2, k7, k8⟩ := hrow1.behind hb7
                  rw [World.size_setCell] at k8
                  clear hb7 hrow1 hconv hfar
                  go_wp2_with fail
                  refine (cL2 _).mono ?_
                  rintro e w8 ⟨rfl, hb8⟩
                  have hrow3 := hidden (hrow2.later hb8)
                  clear hb8 hrow2 k7 k8
                  go_wp2_with fail
                  go_roundw
                  case rel => exact ⟨n + 1, by omega, by go_num, by rw [cT_no f n hh]; go_num, rfl, _, hrow3⟩
                  case measure => simp [intOf]; omega
                · have e1 : less f (mx g (UInt8.ofNat n)) = false := by rw [less_up, hG, hh]; rfl
                  have e2 : less (mx g (UInt8.ofNat n)) f = false := by rw [less_down, hG, hh]; rfl
                  rw [e1] at cL1
                  rw [e2] at cL2
                  clear e1 e2
                  go_wp2_with (first | (go_at_call 14; refine (label_any _ _).mono ?_; rintro e w9 ⟨rfl, hw9⟩; obtain rfl := hw9.symm) | (go_at_call 17; refine (cS _).mono ?_; rintro e w9 ⟨rfl, hw9⟩; obtain rfl := hw9.symm))
                  refine (cL1 _).mono ?_
                  rintro e w7 ⟨rfl, hb7⟩
                  obtain ⟨hrow2, k7, k8⟩ := hrow1.behind hb7
                  rw [World.size_setCell] at k8
                  clear hb7 hrow1 hconv hfar
                  go_wp2_with fail
                  refine (cL2 _).mono ?_
                  rintro e w8 ⟨rfl, hb8⟩
                  have hrow3 := hidden (hrow2.later hb8)
                  clear hb8 hrow2 k7 k8
                  go_wp2_with fail
                  go_roundw
                  case rel => exact ⟨n + 1, by omega, by go_num, by rw [cT_yes f n hh]; go_num, rfl, _, hrow3⟩
                  case measure => simp [intOf]; omega
              · have hn2 : n = 256 := by omega
                subst hn2
                have hca := cT_all f
                have HC : Hid (cT f 256 = D (f.data.toList.drop 2)) := hca
                clear hca hlt3
                rw [HC.out]
                rw [HC.out] at hcl
                go_wp2
                go_ret
                exact ⟨rfl, hrow.out.2.2.1⟩


/-- The ways that answer true at once. -/
theorem walk_early (f g : ByteArray) (w : World) (w0 : f.size ≤ maxLen) (w1 : g.size ≤ maxLen)
    (h : ¬ f.size + g.size ≤ 1048576 ∨ (f.size + g.size ≤ 1048576 ∧ ((4096 : Int) < f.size ∨ (f.size : Int) ≤ 4096 ∧ ((4096 : Int) < g.size ∨ ((g.size : Int) ≤ 4096 ∧ (((f.size : Int) == 1) = true ∨ (((f.size : Int) == 1) = false ∧ (g.size : Int) < 2))))))) :
    Calls Try.prog 6 #[.string f, .string g] w fun e w' => e = .returned (.bool true) ∧ Below w.heap.size w w' := by
  rcases h with h | ⟨h0, h | ⟨h1, h | ⟨h2, h | ⟨h3, h4⟩⟩⟩⟩
  · have hd : decide (f.size + g.size ≤ 1048576) = false := by simpa using h
    clear h
    go_enter Try.func6, Try.ntmps6
    go_wp2_with (go_at_call 18; refine (bytesB_any _ _ _ w0 w1).mono ?_; rintro e w' ⟨rfl, rfl⟩)
    go_ret
    exact ⟨rfl, Below.refl _ _⟩
  all_goals
    have hd : decide (f.size + g.size ≤ 1048576) = true := by simpa using h0
    go_enter Try.func6, Try.ntmps6
    go_wp2_with (go_at_call 18; refine (bytesB_any _ _ _ w0 w1).mono ?_; rintro e w' ⟨rfl, rfl⟩)
    go_ret
    exact ⟨rfl, Below.refl _ _⟩

theorem walk (f : ByteArray) (g : ByteArray) (w0 : f.size ≤ maxLen) (w1 : g.size ≤ maxLen) (w : World) :
    Calls Try.prog 6 #[.string f, .string g] w fun e w' => e = .returned (.bool true) ∧ Below w.heap.size w w' := by
  by_cases h0 : f.size + g.size ≤ 1048576
  · by_cases h1 : (4096 : Int) < f.size
    · exact walk_early f g w w0 w1 (Or.inr ⟨h0, Or.inl h1⟩)
    · by_cases h2 : (4096 : Int) < g.size
      · exact walk_early f g w w0 w1 (Or.inr ⟨h0, Or.inr ⟨by omega, Or.inl h2⟩⟩)
      · by_cases h3 : f.size = 1
        · exact walk_early f g w w0 w1 (Or.inr ⟨h0, Or.inr ⟨by omega, Or.inr ⟨by omega, Or.inl (by simp [h3])⟩⟩⟩)
        · by_cases h4 : (g.size : Int) < 2
          · exact walk_early f g w w0 w1 (Or.inr ⟨h0, Or.inr ⟨by omega, Or.inr ⟨by omega, Or.inr ⟨by simp; omega, h4⟩⟩⟩⟩)
          · exact walk_main f g w (by omega) (by omega) (by omega) (by omega)
  · exact walk_early f g w w0 w1 (Or.inl h0)

/-! ### THE ROW's STEP: WRITTEN OUT: LEAVE IT -/
set_option maxRecDepth 100000 in
theorem lifted (os : Os) (started : os.Started) (H : Type) (enc : TypeId × Value → H) :
    ReturnsInHanded {} Try.checked os 6 .any (Rows.fnStingSweepEveryOtherStingSpec.pre6 enc Try.prog Try.f6 Rows.fnStingSweepEveryOtherStingRow.domain false) (Rows.fnStingSweepEveryOtherStingSpec.post enc Try.prog Try.f6 false true false false) := by
  refine returnsInHanded_of_change (C := Try.checked) own started (by kernel_rfl) Try.func6
    (ChangeSpec.witness6 (enc := enc) (C := Try.checked) false ⟨#[], #[.string ByteArray.empty, .string ByteArray.empty], []⟩ 8 (by kernel_rfl) (by kernel_rfl) (by kernel_rfl) (by kernel_rfl)) ?_
  intro W base args ds gs before hval0 hW hcnd _
  have hval : ∀ (j : Nat) t v, Try.f6.params[j]? = some t → args[j]? = some v → Value.okWide Try.prog W .any base t v := hval0
  have hW' := hW
  obtain ⟨p, q, hA0, hV, rfl, hfz, hnd⟩ := hW
  have hA : DataW.TrodAll enc Try.prog W 0 (fun _ => true) true Try.f6.params.toList args.toList ds p := hA0
  rw [Try.params6] at hA hval
  obtain ⟨v0, vs0, d0, ds0, p0, q0, hargs, rfl, rfl, h0, r0⟩ := trodAll_cons hA
  obtain ⟨v1, vs1, d1, ds1, p1, q1, rfl, rfl, rfl, h1, r1⟩ := trodAll_cons r0
  obtain ⟨rfl, rfl, rfl⟩ := trodAll_nil r1
  obtain rfl : args = #[v0, v1] := by cases args; simp_all
  obtain ⟨rfl, rfl⟩ := trodVars_none hV
  obtain ⟨a0, rfl, rfl, rfl, w0⟩ := open_string Try.underlying9 (hval 0 9 v0 rfl rfl) h0
  obtain ⟨a1, rfl, rfl, rfl, w1⟩ := open_string Try.underlying9 (hval 1 9 v1 rfl rfl) h1
  clear hA0 hval0
  simp only [List.append_nil] at hW'
  refine (walk a0 a1 w0 w1 W).mono fun e W' ⟨he, bel⟩ => ?_
  subst he
  exact ⟨_, rfl, _, _, _, [], [], [], hW', trodAll_mk1 (shut_bool Try.underlying4 _), (trodAll_cons_mk (shut_string Try.underlying9 w0) (trodAll_cons_mk (shut_string Try.underlying9 w1) trodAll_mk0)), rfl, bel.frame _, fun h => by cases h⟩

theorem over : Rows.fnStingSweepEveryOtherStingRow.holds Try.pinned (OpenSpec.ofChange Rows.fnStingSweepEveryOtherStingSpec) :=
  OpenClaim.holds_of_wide 6 Try.f6 rfl rfl rfl rfl rfl rfl rfl ⟨rfl, rfl, rfl, rfl, rfl⟩ rfl rfl rfl rfl rfl (by kernel_rfl) Try.func6 (by kernel_rfl)
    (of_decide_eq_true (by kernel_rfl)) (by unfold Func.isWrapper; first | (rw [if_pos (by decide +kernel)]; kernel_rfl) | (rw [if_neg (by decide +kernel)]; exact ⟨rfl, rfl⟩))
    (fun os started H enc _ => lifted os started H enc)

/-- ████ THE STATEMENT ████ -/
theorem proved : Rows.FnStingSweepEveryOtherStingSaid :=
  over
#print axioms proved
end Go.Proofs.Qxb6609016a.fnStingSweepEveryOtherSting
