/-
  THE WALKS of (*tail).String and what it calls of package bytes. By an AI agent.
-/
import Derived.Test.Qxb6612801aTail
import Derived.Lib.BytesEntry
import Derived.Lib.SlBytesConst
import Derived.Laws.IdiomStrings
import Derived.Laws.BytesArg
namespace Go.Proofs.Qxb6612801a.Tail
open Go.RowKit Go.MuLone

/-- v is a slice of the bytes bs. -/
def Sl (w : World) (v : Value) (bs : List UInt8) : Prop := (v = .slice none 0 0 ∧ bs = []) ∨ ∃ g o c, v = .slice (some ⟨g, o, none⟩) bs.length c ∧ bs.length ≤ c ∧ ∀ i (h : i < bs.length), w.cell? ⟨g, o + i, none⟩ = some (cb bs[i])

theorem bytesOf_nat (l : List UInt8) : Lib.bytesOf (l.map fun b => (b.toNat : Int)) = l := by
  unfold Lib.bytesOf
  rw [List.map_map]
  conv => rhs; rw [← List.map_id l]
  apply List.map_congr_left
  intro b _
  simp

theorem sl_conv {w : World} {v : Value} {bs : List UInt8} (h : Sl w v bs) : (convert 24 9 v).run Try.prog w = .ok (.string ⟨bs.toArray⟩) w := by
  rcases h with ⟨rfl, rfl⟩ | ⟨g, o, c, rfl, _, hc⟩
  · exact run_convert_bytes_nil w 24 5 Try.underlying24 Try.underlying5 0 0 9 Try.underlying9
  · refine run_convert_bytes_back _ 24 9 5 _ c bs Try.underlying24 Try.underlying5 Try.underlying9 fun j hj => ?_
    rw [Go.WideShapes.add_plain]; exact hc j hj

theorem equal_any (v1 v2 : Value) (b1 b2 : List UInt8) (w : World) (h1 : Sl w v1 b1) (h2 : Sl w v2 b2) :
    Calls Try.prog 30 #[v1, v2] w fun e w' => e = .returned (.bool (b1 == b2)) ∧ w' = w := by
  have c1 := sl_conv h1
  have c2 := sl_conv h2
  clear h1 h2
  go_enter Try.func30, Try.ntmps30
  go_wp2
  go_ret
  exact ⟨rfl, rfl⟩

/-- One newline at the end, taken off. -/
def trim (bs : List UInt8) : List UInt8 := if bs.getLast? = some 10 then bs.dropLast else bs
theorem trim_nil : trim [] = [] := rfl
theorem trim_snoc (l : List UInt8) (b : UInt8) : trim (l ++ [b]) = if b = 10 then l else l ++ [b] := by
  unfold trim; simp

theorem sl_one {w : World} {g o c : Nat} {b : UInt8} (hc : 1 ≤ c) (h : w.cell? ⟨g, o, none⟩ = some (cb b)) : Sl w (.slice (some ⟨g, o, none⟩) 1 c) [b] := by
  refine Or.inr ⟨g, o, c, rfl, hc, fun i hi => ?_⟩
  obtain rfl : i = 0 := by simpa using hi
  exact h
theorem suffix_nil (h : Nat) (w : World) : Calls Try.prog 20 #[.slice none 0 0, .slice (some ⟨h, 0, none⟩) 1 1] w fun e w' => e = .returned (.bool false) ∧ w' = w := by
  go_enter Try.func20, Try.ntmps20
  go_wp2
  go_ret
  exact ⟨rfl, rfl⟩
theorem suffix_empty (g o c h : Nat) (w : World) : Calls Try.prog 20 #[.slice (some ⟨g, o, none⟩) 0 c, .slice (some ⟨h, 0, none⟩) 1 1] w fun e w' => e = .returned (.bool false) ∧ w' = w := by
  go_enter Try.func20, Try.ntmps20
  go_wp2
  go_ret
  exact ⟨rfl, rfl⟩
theorem suffix_snoc (g o c n h : Nat) (b : UInt8) (w : World) (hc : n + 1 ≤ c) (hm : n ≤ 4194304) (hb : w.cell? ⟨g, o + n, none⟩ = some (cb b)) (hh : w.cell? ⟨h, 0, none⟩ = some (cb 10)) :
    Calls Try.prog 20 #[.slice (some ⟨g, o, none⟩) (n + 1) c, .slice (some ⟨h, 0, none⟩) 1 1] w fun e w' => e = .returned (.bool (b == 10)) ∧ w' = w := by
  have i1 : (n : Int) + 1 ≤ (c : Int) := by omega
  have i2 : (0 : Int) ≤ (n : Int) := by omega
  have i3 : (n : Int) ≤ 4194304 := by omega
  have cE := equal_any (.slice (some ⟨g, o + n, none⟩) 1 (c - n)) (.slice (some ⟨h, 0, none⟩) 1 1) [b] [10] w (sl_one (by omega) hb) (sl_one (Nat.le_refl _) hh)
  clear hb hh
  go_enter Try.func20, Try.ntmps20
  go_wp2_with fail
  refine cE.mono ?_
  rintro e w9 ⟨rfl, hw9⟩
  obtain rfl := hw9.symm
  go_wp2_with fail
  go_ret
  exact ⟨rfl, rfl⟩

/-- bytes.TrimSuffix(v, "\n"). -/
theorem trimSuffix_any (v : Value) (bs : List UInt8) (h : Nat) (w : World) (hv : Sl w v bs) (hm : bs.length ≤ 4194304) (hh : w.cell? ⟨h, 0, none⟩ = some (cb 10)) :
    Calls Try.prog 16 #[v, .slice (some ⟨h, 0, none⟩) 1 1] w fun e w' => (∃ v', e = .returned v' ∧ Sl w v' (trim bs)) ∧ w' = w := by
  rcases hv with ⟨rfl, rfl⟩ | ⟨g, o, c, rfl, hc, hcell⟩
  · have cS := suffix_nil h w
    go_enter Try.func16, Try.ntmps16
    go_wp2_with fail
    refine cS.mono ?_
    rintro e w9 ⟨rfl, hw9⟩
    obtain rfl := hw9.symm
    go_wp2_with fail
    go_ret
    exact ⟨⟨_, rfl, Or.inl ⟨rfl, rfl⟩⟩, rfl⟩
  · rcases List.eq_nil_or_concat bs with rfl | ⟨l, b, rfl⟩
    · have cS := suffix_empty g o c h w
      go_enter Try.func16, Try.ntmps16
      go_wp2_with fail
      refine cS.mono ?_
      rintro e w9 ⟨rfl, hw9⟩
      obtain rfl := hw9.symm
      go_wp2_with fail
      go_ret
      exact ⟨⟨_, rfl, Or.inr ⟨g, o, c, rfl, Nat.zero_le _, fun i hi => absurd hi (Nat.not_lt_zero _)⟩⟩, rfl⟩
    · rw [List.concat_eq_append] at *
      have hl : (l ++ [b]).length = l.length + 1 := by simp
      have hb : w.cell? ⟨g, o + l.length, none⟩ = some (cb b) := by
        have := hcell l.length (by rw [hl]; omega)
        simpa using this
      rw [hl] at hc hm
      have cS := suffix_snoc g o c l.length h b w hc (by omega) hb hh
      have HC := hidden hcell
      have HL := hidden hl
      rw [hl]
      clear hcell hb hh hl
      have i1 : (l.length : Int) + 1 ≤ (c : Int) := by omega
      have i3 : (l.length : Int) ≤ 4194304 := by omega
      by_cases hb10 : b = 10
      · subst hb10
        rw [trim_snoc, if_pos rfl]
        rw [show ((10 : UInt8) == 10) = true from rfl] at cS
        go_enter Try.func16, Try.ntmps16
        go_wp2_with fail
        refine cS.mono ?_
        rintro e w9 ⟨rfl, hw9⟩
        obtain rfl := hw9.symm
        go_wp2_with fail
        go_ret
        refine ⟨⟨_, rfl, Or.inr ⟨g, o, c, rfl, by omega, fun i hi => ?_⟩⟩, rfl⟩
        rw [HC.out i (by rw [HL.out]; omega), List.getElem_append_left hi]
      · rw [trim_snoc, if_neg hb10]
        rw [show (b == (10 : UInt8)) = false by simp [hb10]] at cS
        go_enter Try.func16, Try.ntmps16
        go_wp2_with fail
        refine cS.mono ?_
        rintro e w9 ⟨rfl, hw9⟩
        obtain rfl := hw9.symm
        go_wp2_with fail
        go_ret
        exact ⟨⟨_, rfl, Or.inr ⟨g, o, c, by rw [HL.out]; rfl, by rw [HL.out]; omega, HC.out⟩⟩, rfl⟩

/-- bytes.IndexByte(v, '\n'). -/
theorem ib_any (v : Value) (bs : List UInt8) (w : World) (hv : Sl w v bs) :
    Calls Try.prog 17 #[v, .int .u8 10] w fun e w' => e = .returned (.int .i64 (Lib.indexByte bs 10)) ∧ w' = w := by
  have hr : (Extern.BytealgIndexByte.indexByte #[v, .int .u8 10]).run Try.prog w = .ok (.int .i64 (Lib.indexByte bs 10)) w := by
    rcases hv with ⟨rfl, rfl⟩ | ⟨g, o, c, rfl, hc, hcell⟩
    · exact Lib.run_indexByteNil (P := Try.prog) w 0 0 10
    · have hr := Lib.run_indexByteSlice (P := Try.prog) (w := w) g o bs.length c (bs.map fun b => (b.toNat : Int)) (by simp) (fun i hi => by rw [hcell i hi]; simp [cb, hi]) 10
      rw [bytesOf_nat] at hr
      exact hr
  clear hv
  go_enter Try.func17, Try.ntmps17
  go_wp2
  rw [run_callFunc_extern Try.func21 (by kernel_rfl) (by kernel_rfl) (by kernel_rfl) (e := Extern.BytealgIndexByte.indexByte) (by kernel_rfl), hr]
  simp only [Result.andThen]
  rw [Oper.upon_value]
  go_wp2
  go_ret
  exact ⟨rfl, rfl⟩

/-- What follows the first newline; all where there is none. -/
def after (s : List UInt8) : List UInt8 := if 0 ≤ Lib.indexByte s 10 then s.drop ((Lib.indexByte s 10).toNat + 1) else s
/-- What Stderr answers when xs has been written. -/
def out (xs : List UInt8) : List UInt8 := if 2048 < xs.length then after (trim (lastN xs)) else trim (lastN xs)

theorem ib_lt : ∀ (l : List UInt8) (c : UInt8), Lib.indexByte l c < l.length
  | [], c => by simp [Lib.indexByte]
  | b :: l, c => by
    have := ib_lt l c
    simp only [Lib.indexByte, List.length_cons]
    split
    · omega
    · split <;> omega
theorem trim_len (bs : List UInt8) : (trim bs).length ≤ bs.length := by
  unfold trim; split
  · rw [List.length_dropLast]; omega
  · exact Nat.le_refl _

theorem sl_of_own {pb : Nat} {v u : Value} {bs : List UInt8} {w : World} (h : w.ownsRow (pb + 1) 5 1 v bs.length (bs.map cb)) (o : Obj) : Sl ((w.setCell ⟨pb, 8, none⟩ u).alloc o) v bs := by
  have h2 := (own_set (j := 8) (u := u) h).alloc o
  rcases h2.2 with ⟨rfl, h0⟩ | ⟨g, cap, cur, rfl, _, _, hc, _⟩
  · exact Or.inl ⟨rfl, List.eq_nil_of_length_eq_zero h0⟩
  · refine Or.inr ⟨g, 0, cap, rfl, hc, fun i hi => ?_⟩
    rw [Nat.zero_add, h2.cellAt i (by omega)]
    simp [hi]
theorem sl_drop {w : World} {g o c n : Nat} {bs : List UInt8} (hn : bs.length = n) (hc : n ≤ c) (h : ∀ i (h : i < bs.length), w.cell? ⟨g, o + i, none⟩ = some (cb bs[i])) (j : Nat) :
    Sl w (.slice (some ⟨g, o + j, none⟩) (n - j) (c - j)) (bs.drop j) := by
  refine Or.inr ⟨g, o + j, c - j, by rw [List.length_drop, hn], by rw [List.length_drop]; omega, fun i hi => ?_⟩
  rw [List.length_drop] at hi
  rw [Nat.add_assoc, h (j + i) (by omega)]
  simp

theorem ret_str {a b : List UInt8} (h : a = b) : Ending.returned (.string ⟨a.toArray⟩) = .returned (.string ⟨b.toArray⟩) := by rw [h]

set_option maxHeartbeats 1000000 in
set_option maxRecDepth 100000 in
theorem string_any (pb : Nat) (xs : List UInt8) (w : World) (hst : St pb xs w) :
    Calls Try.prog 13 #[.pointer (some ⟨pb, 7, none⟩)] w fun e w' => e = .returned (.string ⟨(out xs).toArray⟩) ∧ w.grownBy w' (some pb) := by
  obtain ⟨v, c7, c8, c10, c11, f8, f10, f11, hown, hpb⟩ := hst
  have hll := lastN_len xs
  have hsl := fun u o => sl_of_own (u := u) hown o
  have HSL := hidden hsl
  clear hsl hown
  have kc : (convert 24 24 (.slice (some ⟨w.heap.size, 0, none⟩) 1 1)).run Try.prog ((w.setCell ⟨pb, 8, none⟩ (.int .i32 1)).alloc (.cells #[.int .u8 10] 5)) = .ok (.slice (some ⟨w.heap.size, 0, none⟩) 1 1) ((w.setCell ⟨pb, 8, none⟩ (.int .i32 1)).alloc (.cells #[.int .u8 10] 5 (1, 2))) := by
    have := Lib.run_convert_bytes_const (P := Try.prog) (w.setCell ⟨pb, 8, none⟩ (.int .i32 1)) 24 5 #[.int .u8 10] 1 1 Try.underlying24 Try.underlying5
    rw [World.size_setCell] at this
    exact this
  have hw11 : ((w.setCell ⟨pb, 8, none⟩ (.int .i32 1)).alloc (.cells #[.int .u8 10] 5 (1, 2))).cell? ⟨pb, 11, none⟩ = some (.bool (decide (2048 < xs.length))) := by
    rw [World.cell?_alloc_lt _ _ _ (by simpa using hpb), World.cell?_setCell_other _ _ _ _ (by simp)]; exact c11
  have hw8 : ((w.setCell ⟨pb, 8, none⟩ (.int .i32 1)).alloc (.cells #[.int .u8 10] 5 (1, 2))).cell? ⟨pb, 8, none⟩ = some (.int .i32 1) := by
    rw [World.cell?_alloc_lt _ _ _ (by simpa using hpb)]; exact World.cell?_setCell_same _ _ _ c8
  have hz8 : ((w.setCell ⟨pb, 8, none⟩ (.int .i32 1)).alloc (.cells #[.int .u8 10] 5 (1, 2))).frozen? ⟨pb, 8, none⟩ = false := by
    have hb : Below w.heap.size (w.setCell ⟨pb, 8, none⟩ (.int .i32 1)) ((w.setCell ⟨pb, 8, none⟩ (.int .i32 1)).alloc (.cells #[.int .u8 10] 5 (1, 2))) := (Below.refl _ _).alloc (by simp) _
    rw [hb.frozen (show pb < w.heap.size from hpb)]; simpa [go_sem] using f8
  have hnl : ((w.setCell ⟨pb, 8, none⟩ (.int .i32 1)).alloc (.cells #[.int .u8 10] 5 (1, 2))).cell? ⟨w.heap.size, 0, none⟩ = some (cb 10) := by
    have := World.cell?_alloc_mark (w.setCell ⟨pb, 8, none⟩ (.int .i32 1)) #[.int .u8 10] 5 (1, 2) 0
    rw [World.size_setCell] at this
    rw [this]; rfl
  have hgr : w.grownBy (((w.setCell ⟨pb, 8, none⟩ (.int .i32 1)).alloc (.cells #[.int .u8 10] 5 (1, 2))).setCell ⟨pb, 8, none⟩ (.int .i32 0)) (some pb) := by
    refine ⟨rfl, rfl, rfl, by simp, fun k hk hne => ?_⟩
    have hkp : k ≠ pb := fun e => hne (by simp [e])
    rw [heap_setCell_other _ ⟨pb, 8, none⟩ k _ hkp, Below.heap_alloc _ _ k (by simpa using hk), heap_setCell_other _ ⟨pb, 8, none⟩ k _ hkp]
  have hS := HSL.out (.int .i32 1) (.cells #[.int .u8 10] 5 (1, 2))
  have cT := trimSuffix_any v (lastN xs) w.heap.size _ hS (by omega) hnl
  have HGR := hidden hgr
  have HW8 := hidden hw8
  have HZ8 := hidden hz8
  have hW1 : ∃ W1 : World, W1 = (w.setCell ⟨pb, 8, none⟩ (.int .i32 1)).alloc (.cells #[.int .u8 10] 5 (1, 2)) := ⟨_, rfl⟩
  obtain ⟨W1, hW1⟩ := hW1
  rw [← hW1] at kc hw11 cT HGR HW8 HZ8
  clear hS HSL hgr hnl hw8 hz8 hW1
  go_enter_defers Try.func13, Try.ntmps13
  go_wp2_with (first | (go_at_call 14; refine (lock_free muLib ⟨pb, 8, none⟩ _ c8 f8).mono ?_; rintro e w9 ⟨rfl, hw9⟩; obtain rfl := hw9.symm))
  refine cT.mono ?_
  rintro e w9 ⟨⟨v', rfl, hv'⟩, hw9⟩
  obtain rfl := hw9.symm
  have htl := trim_len (lastN xs)
  have cI := ib_any v' _ W1 hv'
  have hlt := ib_lt (trim (lastN xs)) 10
  have hcv := sl_conv hv'
  by_cases hcut : 2048 < xs.length ∧ 0 ≤ Lib.indexByte (trim (lastN xs)) 10
  · obtain ⟨hc1, hc2⟩ := hcut
    have hdc : decide (2048 < xs.length) = true := decide_eq_true hc1
    obtain ⟨j, hj⟩ : ∃ j : Nat, Lib.indexByte (trim (lastN xs)) 10 = j := ⟨(Lib.indexByte (trim (lastN xs)) 10).toNat, by omega⟩
    have hout : out xs = (trim (lastN xs)).drop (j + 1) := by unfold out after; rw [if_pos hc1, if_pos hc2, hj]; rfl
    have HOUT := hidden hout
    rw [hj] at cI hlt
    clear hcv hj hc2 hout hc1
    generalize trim (lastN xs) = s at *
    rcases hv' with ⟨_, rfl⟩ | ⟨g, o, c, hv, hcc, hcell⟩
    · exfalso
      have : (j : Int) < 0 := by simpa using hlt
      omega
    · have i1 : (j : Int) < (s.length : Int) := hlt
      have i2 : (s.length : Int) ≤ (c : Int) := by omega
      have i3 : (s.length : Int) ≤ 2048 := by omega
      have hsd := sl_conv (sl_drop rfl hcc hcell (j + 1))
      rw [hv]
      rw [hv] at cI
      clear hcell hv
      by_cases hjc : j + 1 < c
      · have i4 : (j : Int) + 1 < (c : Int) := by omega
        go_wp2_with fail
        refine cI.mono ?_
        rintro e w9 ⟨rfl, hw9⟩
        obtain rfl := hw9.symm
        go_wp2_with fail
        refine leaves_cons (f := 15) (args := #[.pointer (some ⟨pb, 8, none⟩)]) (by simp) (by simp [go_sem]) ?_
        refine (unlock_deferred muLib ⟨pb, 8, none⟩ .returning _ HW8.out HZ8.out).mono ?_
        rintro e u' w'' ⟨rfl, rfl, rfl⟩
        exact ⟨_, results_tmp rfl _ _ _, by rw [HOUT.out]; rfl, HGR.out⟩
      · obtain rfl : c = j + 1 := by omega
        have hsl : s.length = j + 1 := by omega
        have hnil : s.drop (j + 1) = [] := List.drop_of_length_le (by omega)
        have HOUT2 : Hid (out xs = []) := by rw [hnil] at HOUT; exact HOUT
        have hz : ∀ c2 : Nat, (convert 24 9 (.slice (some ⟨g, o, none⟩) 0 c2)).run Try.prog W1 = .ok (.string ⟨#[]⟩) W1 := fun c2 => sl_conv (w := W1) (bs := []) (Or.inr ⟨g, o, c2, rfl, Nat.zero_le _, fun i hi => absurd hi (Nat.not_lt_zero _)⟩)
        rw [hsl]
        rw [hsl] at cI
        have i5 : (j : Int) ≤ 4194304 := by omega
        clear hsd i1 i2 i3 hlt hcc hjc HOUT hnil htl hsl
        go_wp2_with fail
        refine cI.mono ?_
        rintro e w9 ⟨rfl, hw9⟩
        obtain rfl := hw9.symm
        go_wp2_with fail
        refine leaves_cons (f := 15) (args := #[.pointer (some ⟨pb, 8, none⟩)]) (by simp) (by simp [go_sem]) ?_
        refine (unlock_deferred muLib ⟨pb, 8, none⟩ .returning _ HW8.out HZ8.out).mono ?_
        rintro e u' w'' ⟨rfl, rfl, rfl⟩
        exact ⟨_, results_tmp rfl _ _ _, by rw [HOUT2.out]; rfl, HGR.out⟩
  · have hout : out xs = trim (lastN xs) := by
      unfold out after
      by_cases h1 : 2048 < xs.length
      · rw [if_pos h1, if_neg (fun h2 => hcut ⟨h1, h2⟩)]
      · rw [if_neg h1]
    have HOUT := hidden hout
    generalize trim (lastN xs) = s at *
    have hg : (decide (2048 < xs.length) && decide (0 ≤ Lib.indexByte s 10)) = false := by
      rw [← Bool.not_eq_true, Bool.and_eq_true, decide_eq_true_iff, decide_eq_true_iff]; exact hcut
    clear hv' hout hcut
    generalize Lib.indexByte s 10 = ix at *
    cases hd : decide (2048 < xs.length)
    · rw [hd] at hw11
      clear hg
      go_wp2_with fail
      refine cI.mono ?_
      rintro e w9 ⟨rfl, hw9⟩
      obtain rfl := hw9.symm
      go_wp2_with fail
      refine leaves_cons (f := 15) (args := #[.pointer (some ⟨pb, 8, none⟩)]) (by simp) (by simp [go_sem]) ?_
      refine (unlock_deferred muLib ⟨pb, 8, none⟩ .returning _ HW8.out HZ8.out).mono ?_
      rintro e u' w'' ⟨rfl, rfl, rfl⟩
      exact ⟨_, results_tmp rfl _ _ _, by rw [HOUT.out]; rfl, HGR.out⟩
    · rw [hd] at hw11 hg
      have hg2 : decide (0 ≤ ix) = false := by simpa using hg
      have hg3 : ¬ 0 ≤ ix := of_decide_eq_false hg2
      clear hg hg2
      go_wp2_with fail
      refine cI.mono ?_
      rintro e w9 ⟨rfl, hw9⟩
      obtain rfl := hw9.symm
      go_wp2_with fail
      refine leaves_cons (f := 15) (args := #[.pointer (some ⟨pb, 8, none⟩)]) (by simp) (by simp [go_sem]) ?_
      refine (unlock_deferred muLib ⟨pb, 8, none⟩ .returning _ HW8.out HZ8.out).mono ?_
      rintro e u' w'' ⟨rfl, rfl, rfl⟩
      exact ⟨_, results_tmp rfl _ _ _, by rw [HOUT.out]; rfl, HGR.out⟩

theorem stderr_any (pb : Nat) (xs : List UInt8) (w : World) (hst : St pb xs w) :
    Calls Try.prog 8 #[.pointer (some ⟨pb, 0, none⟩)] w fun e w' => e = .returned (.string ⟨(out xs).toArray⟩) ∧ w.grownBy w' (some pb) := by
  have c := string_any pb xs w hst
  clear hst
  go_enter Try.func8, Try.ntmps8
  go_wp2_with fail
  refine c.mono ?_
  rintro e w2 ⟨rfl, h2⟩
  go_wp2_with fail
  go_ret
  exact ⟨rfl, h2⟩

end Go.Proofs.Qxb6612801a.Tail
