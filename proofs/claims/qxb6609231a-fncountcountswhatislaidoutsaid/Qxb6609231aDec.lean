/-
  THE WALK of (*decoder).count over the elements that are laid out. By an AI agent.
-/
import Derived.Test.Qxb6609231aWidth
namespace Go.Proofs.Qxb6609231a.Count
open Go.RowKit Plain Lay

/-- All elements' bytes. -/
def flat (es : List (ByteArray × UInt8)) : List UInt8 := es.flatMap fun e => enc e.1 e.2
/-- The keys' bytes. -/
def kb (es : List (ByteArray × UInt8)) : Nat := (es.map fun e => e.1.size).sum

theorem flat_take_succ (es : List (ByteArray × UInt8)) (j : Nat) (h : j < es.length) : flat (es.take (j + 1)) = flat (es.take j) ++ enc es[j].1 es[j].2 := by
  unfold flat
  rw [List.take_succ_eq_append_getElem h, List.flatMap_append]; simp
theorem kb_take_succ (es : List (ByteArray × UInt8)) (j : Nat) (h : j < es.length) : kb (es.take (j + 1)) = kb (es.take j) + es[j].1.size := by
  unfold kb
  rw [List.take_succ_eq_append_getElem h, List.map_append, List.sum_append]; simp
theorem kb_le (es : List (ByteArray × UInt8)) (j : Nat) : kb (es.take j) ≤ kb es := by
  have e : es = es.take j ++ es.drop j := (List.take_append_drop j es).symm
  conv => rhs; rw [e]
  unfold kb
  rw [List.map_append, List.sum_append]; omega
theorem flat_split (es : List (ByteArray × UInt8)) (j : Nat) (h : j < es.length) : flat es = flat (es.take j) ++ (enc es[j].1 es[j].2 ++ flat (es.drop (j + 1))) := by
  have e : es = es.take j ++ es[j] :: es.drop (j + 1) := by rw [List.getElem_cons_drop, List.take_append_drop]
  conv => lhs; rw [e]
  unfold flat
  rw [List.flatMap_append, List.flatMap_cons]

theorem ib_mid : ∀ (p r : List UInt8), (0 : UInt8) ∉ p → Lib.indexByte (p ++ 0 :: r) 0 = p.length
  | [], r, _ => by simp [Lib.indexByte]
  | b :: p, r, h => by
    have hb : (b == (0 : UInt8)) = false := by
      rw [beq_eq_false_iff_ne]; intro e; exact h (by simp [e])
    have ih := ib_mid p r (fun e => h (by simp [e]))
    simp only [List.cons_append, Lib.indexByte, hb, ih]
    have : ((p.length : Int) == -1) = false := by rw [beq_eq_false_iff_ne]; omega
    simp [this]

theorem lies_later {g : Nat} {xs : List UInt8} {w w' : World} (h : Lies g xs w) (hg : g < w.heap.size) (hb : Below w.heap.size w w') : Lies g xs w' := fun i hi => by rw [hb.cell (show g < w.heap.size from hg)]; exact h i hi

/-- What the round at element j wants to know. -/
theorem at_elem {g : Nat} {hdr : List UInt8} {es : List (ByteArray × UInt8)} {w : World} (h4 : hdr.length = 4) (h : Lies g (hdr ++ flat es) w) (j : Nat) (hj : j < es.length) :
    ∃ off : Nat, 4 + (flat (es.take j)).length = off ∧ off + 2 + es[j].1.size + (val es[j].2).length ≤ 4 + (flat es).length ∧
      4 + (flat (es.take (j + 1))).length = off + 2 + es[j].1.size + (val es[j].2).length ∧
      w.cell? ⟨g, off, none⟩ = some (.int .u8 ((kind es[j].2).toNat : Int)) ∧
      (∃ C, (hdr ++ flat es).drop (off + 1) = es[j].1.data.toList ++ 0 :: C) ∧ ∃ C, (hdr ++ flat es).drop (off + (1 + es[j].1.size + 1)) = val es[j].2 ++ C := by
  have hsp := flat_split es j hj
  have hd : (hdr ++ flat es).drop (4 + (flat (es.take j)).length) = enc es[j].1 es[j].2 ++ flat (es.drop (j + 1)) := by
    rw [hsp, ← List.append_assoc, List.drop_left' (by rw [List.length_append, h4])]
  refine ⟨_, rfl, ?_, ?_, ?_, ?_, ?_⟩
  · rw [hsp, List.length_append, List.length_append, enc_len]; omega
  · rw [flat_take_succ es j hj, List.length_append, enc_len]; omega
  · exact lies_at (i := 0) h hd rfl
  · refine ⟨val es[j].2 ++ flat (es.drop (j + 1)), ?_⟩
    rw [← List.drop_drop, hd]
    simp [enc]
  · refine ⟨flat (es.drop (j + 1)), ?_⟩
    rw [← List.drop_drop, hd]
    have : enc es[j].1 es[j].2 ++ flat (es.drop (j + 1)) = (kind es[j].2 :: (es[j].1.data.toList ++ [0])) ++ (val es[j].2 ++ flat (es.drop (j + 1))) := by simp [enc]
    rw [this, List.drop_left' (by have := Lib.size_eq es[j].1; simp; omega)]

set_option maxHeartbeats 1000000 in
set_option maxRecDepth 100000 in
theorem count_any (g db N cap : Nat) (hdr : List UInt8) (es : List (ByteArray × UInt8)) (w : World) (h4 : hdr.length = 4) (hl : Lies g (hdr ++ flat es) w) (hz : ∀ e ∈ es, (0 : UInt8) ∉ e.1.data.toList)
    (hN : 4 + (flat es).length ≤ N) (hcap : N ≤ cap) (hcm : cap ≤ maxLen) (hm : 4 + (flat es).length ≤ 4194304) (hg : g < w.heap.size) (hkb : kb es ≤ 4194304) (hel : es.length ≤ 4194304)
    (d0 : w.cell? ⟨db, 0, none⟩ = some (.slice (some ⟨g, 0, none⟩) N cap)) (d1 : w.cell? ⟨db, 1, none⟩ = some (.int .i64 4)) :
    Calls Try.prog 9 #[.pointer (some ⟨db, 0, none⟩), .int .i64 ((4 + (flat es).length : Nat) : Int)] w fun e w' => e = .returned (.tuple #[.int .i64 es.length, .int .i64 (kb es)]) ∧ Below w.heap.size w w' := by
  have hxl : (hdr ++ flat es).length = 4 + (flat es).length := by rw [List.length_append, h4]
  generalize hlast : 4 + (flat es).length = last at *
  have i1 : (last : Int) ≤ N := by omega
  have i2 : (N : Int) ≤ cap := by omega
  have i3 : (last : Int) ≤ 4194304 := by omega
  have i4 : (4 : Int) ≤ last := by omega
  have i5 : (cap : Int) ≤ 9223372036854775807 := by unfold maxLen at hcm; omega
  have H := hidden hl
  have HX := hidden hxl
  have HL := hidden hlast
  clear hl hxl hlast
  go_enter Try.func9, Try.ntmps9
  go_wp2
  go_loopw [4, 5, 7] (fun vn vk vo wr => ∃ j : Nat, j ≤ es.length ∧ vn = .int .i64 j ∧ vk = .int .i64 (kb (es.take j)) ∧ vo = .int .i64 ((4 + (flat (es.take j)).length : Nat) : Int) ∧ Below w.heap.size w wr) (fun vn _ _ _ => es.length - (intOf vn).toNat)
  case atStart => exact ⟨0, by omega, rfl, rfl, rfl, Below.refl _ _⟩
  case round =>
    obtain ⟨j, hj, rfl, rfl, rfl, hb⟩ := hrel
    by_cases hlt : j < es.length
    · have Hw := hidden (lies_later H.out hg hb)
      obtain ⟨off, e0, e1, e2, hk, ⟨C1, hC1⟩, ⟨C2, hC2⟩⟩ := at_elem h4 Hw.out j hlt
      rw [HL.out] at e1
      have hkk := kb_take_succ es j hlt
      have hkl := kb_le es (j + 1)
      have hzj := hz es[j] (List.getElem_mem _)
      have cI := ib_any g (off + 1) (last - (off + 1)) (cap - (off + 1)) ((hdr ++ flat es).drop (off + 1)) (by rw [List.length_drop, HX.out]) wr (lies_drop Hw.out)
      rw [hC1, ib_mid _ _ hzj, ← Lib.size_eq] at cI
      have cW := width_any g (off + (1 + es[j].1.size + 1)) cap es[j].2 (hdr ++ flat es) C2 wr Hw.out hC2 (by rw [HX.out]; omega) (by rw [HX.out]; omega)
      rw [HX.out, show ((off + (1 + es[j].1.size + 1) : Nat) : Int) = (off : Int) + (1 + (es[j].1.size : Int) + 1) by omega] at cW
      have hvl := val_le es[j].2
      rw [e0]
      have E2 := hidden e2
      have HK := hidden hkk
      have E0 := hidden e0
      have hks : kb (es.take j) + es[j].1.size ≤ 4194304 := by omega
      clear e2 hkk e0 hC1 hC2 hzj hkl
      generalize es[j].1.size = ks at *
      generalize (val es[j].2).length = vl at *
      generalize (kind es[j].2).toNat = kd at *
      generalize kb (es.take j) = kbj at *
      have j1 : (off : Int) + 2 + ks + vl ≤ last := by omega
      go_wp2_with fail
      refine cI.mono ?_
      rintro e w9 ⟨rfl, hw9⟩
      obtain rfl := hw9.symm
      go_wp2_with fail
      refine cW.mono ?_
      rintro e w2 ⟨rfl, hb2⟩
      go_wp2_with fail
      go_roundw
      case rel => exact ⟨j + 1, by omega, by go_num, by rw [HK.out]; go_num, by rw [E2.out]; go_num, hb.trans (hb2.mono hb.size)⟩
      case measure => simp [intOf]; omega
    · have hje : j = es.length := by omega
      subst hje
      rw [List.take_length, HL.out]
      go_wp2
      go_ret2
      exact ⟨rfl, hb⟩

theorem zzcount_any (g db N cap : Nat) (hdr : List UInt8) (es : List (ByteArray × UInt8)) (w : World) (h4 : hdr.length = 4) (hl : Lies g (hdr ++ flat es) w) (hz : ∀ e ∈ es, (0 : UInt8) ∉ e.1.data.toList)
    (hN : 4 + (flat es).length ≤ N) (hcap : N ≤ cap) (hcm : cap ≤ maxLen) (hm : 4 + (flat es).length ≤ 4194304) (hg : g < w.heap.size) (hkb : kb es ≤ 4194304) (hel : es.length ≤ 4194304)
    (d0 : w.cell? ⟨db, 0, none⟩ = some (.slice (some ⟨g, 0, none⟩) N cap)) (d1 : w.cell? ⟨db, 1, none⟩ = some (.int .i64 4)) :
    Calls Try.prog 7 #[.pointer (some ⟨db, 0, none⟩), .int .i64 ((4 + (flat es).length : Nat) : Int)] w fun e w' => e = .returned (.tuple #[.int .i64 es.length, .int .i64 (kb es)]) ∧ Below w.heap.size w w' := by
  have c := count_any g db N cap hdr es w h4 hl hz hN hcap hcm hm hg hkb hel d0 d1
  generalize ((4 + (flat es).length : Nat) : Int) = last at *
  clear hl hz hN hcap hcm hm hg hkb hel d0 d1
  go_enter Try.func7, Try.ntmps7
  go_wp2_with fail
  refine c.mono ?_
  rintro e w2 ⟨rfl, hb2⟩
  go_wp2_with fail
  go_ret2
  exact ⟨rfl, hb2⟩

theorem off_any (db : Nat) (w : World) (d1 : w.cell? ⟨db, 1, none⟩ = some (.int .i64 4)) :
    Calls Try.prog 8 #[.pointer (some ⟨db, 0, none⟩)] w fun e w' => e = .returned (.int .i64 4) ∧ w' = w := by
  go_enter Try.func8, Try.ntmps8
  go_wp2
  go_ret
  exact ⟨rfl, rfl⟩

theorem new_any (g N cap : Nat) (w : World) :
    Calls Try.prog 6 #[.slice (some ⟨g, 0, none⟩) N cap, .int .i64 4, .int .i64 0, .int .i64 0] w fun e w' => e = .returned (.pointer (some ⟨w.heap.size + 1, 0, none⟩)) ∧
      w' = (w.alloc (.cells #[.int .i64 0, .int .i64 0] 34)).alloc (.cells #[.slice (some ⟨g, 0, none⟩) N cap, .int .i64 4, .pointer (some ⟨w.heap.size, 0, none⟩)] 36) := by
  go_enter Try.func6, Try.ntmps6
  go_wp2
  go_ret
  exact ⟨rfl, rfl⟩

end Go.Proofs.Qxb6609231a.Count
