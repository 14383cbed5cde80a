/-
  THE WALK of the law: the bound on lengths, the four loops, the count. By an AI agent.
-/
import Derived.Test.Qxb6609231aDec
namespace Go.Proofs.Qxb6609231a.Law
open Go.RowKit Plain Lay Count

/-- What is known of the keys: len strings; each fits; where there is one, they lie side by side in old memory. -/
def Keys (w : World) (a : Option Addr) (len : Nat) (ss : List ByteArray) : Prop :=
  ss.length = len ∧ (∀ i, (ss.getD i ByteArray.empty).size ≤ maxLen) ∧ (0 < len → ∃ b off, a = some ⟨b, off, none⟩ ∧ b < w.heap.size ∧ ∀ i, i < len → w.cell? ⟨b, off + i, none⟩ = some (.string (ss.getD i ByteArray.empty)))
/-- What is known of sel. -/
def Sel (w : World) (a : Option Addr) (len : Nat) (zs : List UInt8) : Prop :=
  zs.length = len ∧ (0 < len → ∃ b off, a = some ⟨b, off, none⟩ ∧ b < w.heap.size ∧ ∀ i, i < len → w.cell? ⟨b, off + i, none⟩ = some (.int .u8 ((zs.getD i 0).toNat : Int)))

def IsBool (e : Ending) : Prop := ∃ b, e = .returned (.bool b)

set_option maxHeartbeats 1000000 in
theorem bytes_any (a0 a1 : Option Addr) (len0 cap0 len1 cap1 : Nat) (ss : List ByteArray) (w : World) (hk : Keys w a0 len0 ss) (hl0 : len0 ≤ maxLen) (hl1 : len1 ≤ maxLen) :
    Calls Try.prog 4 #[.slice a0 len0 cap0, .slice a1 len1 cap1] w fun e w' => IsBool e ∧ w = w' := by
  have i0 : (len0 : Int) ≤ 9223372036854775807 := by unfold maxLen at hl0; omega
  have i1 : (len1 : Int) ≤ 9223372036854775807 := by unfold maxLen at hl1; omega
  clear hl0 hl1
  have HK := hidden hk
  clear hk
  by_cases h0 : (1048576 : Int) < len0
  · go_enter Try.func4, Try.ntmps4
    go_wp2
    go_ret
    exact ⟨⟨_, rfl⟩, rfl⟩
  · go_enter Try.func4, Try.ntmps4
    go_wp2
    go_loop [5, 6] (fun zn i => ∃ (k : Nat) (t : Int), k ≤ len0 ∧ i = .int .i64 k ∧ zn = .int .i64 t ∧ 0 ≤ t ∧ t ≤ 1048576) (fun _ i => len0 - (intOf i).toNat)
    case atStart => exact ⟨0, len0, by omega, rfl, rfl, by omega, by omega⟩
    case round =>
      obtain ⟨k, t, hk, rfl, rfl, t0, t1⟩ := hrel
      by_cases hlt : k < len0
      · obtain ⟨b, off, rfl, hb, hcs⟩ := HK.out.2.2 (by omega)
        have hc := hcs k hlt
        have hsz := HK.out.2.1 k
        clear hcs
        generalize ss.getD k ByteArray.empty = key at *
        have hsz' : (key.size : Int) ≤ 9223372036854775807 := by unfold maxLen at hsz; omega
        clear hsz
        go_wp2
        · go_ret
          exact ⟨⟨_, rfl⟩, rfl⟩
        · go_ret
          exact ⟨⟨_, rfl⟩, rfl⟩
        · go_round
          case rel => exact ⟨k + 1, _, by omega, by go_num, rfl, by omega, by omega⟩
          case measure => simp [intOf]; omega
      · go_wp2
        all_goals go_ret
        all_goals exact ⟨⟨_, rfl⟩, rfl⟩

/-- The elements that are laid out. -/
def els (ss : List ByteArray) (zs : List UInt8) : List (ByteArray × UInt8) := (List.range ss.length).map fun i => (ss.getD i ByteArray.empty, zs.getD i 0)
theorem els_len (ss : List ByteArray) (zs : List UInt8) : (els ss zs).length = ss.length := by simp [els]
theorem els_at (ss : List ByteArray) (zs : List UInt8) (j : Nat) (h : j < (els ss zs).length) : (els ss zs)[j] = (ss.getD j ByteArray.empty, zs.getD j 0) := by simp [els]
theorem kb_succ (ss : List ByteArray) (zs : List UInt8) (j : Nat) (h : j < ss.length) : kb ((els ss zs).take (j + 1)) = kb ((els ss zs).take j) + (ss.getD j ByteArray.empty).size := by
  rw [kb_take_succ _ j (by rw [els_len]; exact h), els_at]
theorem flat_succ (ss : List ByteArray) (zs : List UInt8) (j : Nat) (h : j < ss.length) : flat ((els ss zs).take (j + 1)) = flat ((els ss zs).take j) ++ enc (ss.getD j ByteArray.empty) (zs.getD j 0) := by
  rw [flat_take_succ _ j (by rw [els_len]; exact h), els_at]
theorem flat_le (es : List (ByteArray × UInt8)) : (flat es).length ≤ kb es + 10 * es.length := by
  induction es with
  | nil => simp [flat, kb]
  | cons e es ih =>
    have h1 : flat (e :: es) = enc e.1 e.2 ++ flat es := by simp [flat]
    have h2 : kb (e :: es) = e.1.size + kb es := by simp [kb]
    rw [h1, h2, List.length_append, List.length_cons]
    have := enc_le e.1 e.2
    omega

theorem take_snoc (s : ByteArray) (k : Nat) (h : k < s.size) : s.data.toList.take (k + 1) = s.data.toList.take k ++ [s[k]] := by
  rw [List.take_succ_eq_append_getElem (by simpa using h)]; rfl
theorem no_step {s : ByteArray} {k : Nat} (hlt : k < s.size) (h : ((s[k].toNat : Int) == 0) = false) (hh : (0 : UInt8) ∉ s.data.toList.take k) : (0 : UInt8) ∉ s.data.toList.take (k + 1) := by
  rw [take_snoc s k hlt]
  intro hm
  rcases List.mem_append.1 hm with h1 | h1
  · exact hh h1
  · rw [List.mem_singleton] at h1
    rw [← h1] at h; simp at h
theorem no_end {s : ByteArray} {k : Nat} (hlt : ¬ k < s.size) (hh : (0 : UInt8) ∉ s.data.toList.take k) : (0 : UInt8) ∉ s.data.toList := by
  rwa [List.take_of_length_le (by rw [← Lib.size_eq]; omega)] at hh

theorem own_start (w : World) : Own w.heap.size w (.slice (some ⟨w.heap.size, 0, none⟩) 4 4) ([0, 0, 0, 0] ++ flat ([] : List (ByteArray × UInt8))) (w.alloc (.cells #[.int .u8 0, .int .u8 0, .int .u8 0, .int .u8 0] 5)) :=
  ⟨World.ownsRow_lit w #[.int .u8 0, .int .u8 0, .int .u8 0, .int .u8 0] 4 (Nat.le_refl _) (by unfold maxLen; omega) rfl, by simp, (Below.refl _ _).alloc (Nat.le_refl _) _⟩

/-- The document as it lies behind its last byte. -/
theorem own_form {B : Nat} {w0 w : World} {v : Value} {F : List UInt8} (h : Own B w0 v ([0, 0, 0, 0] ++ F ++ [0]) w) :
    ∃ g cap, v = .slice (some ⟨g, 0, none⟩) (F.length + 5) cap ∧ w.ownsRow B 5 1 (.slice (some ⟨g, 0, none⟩) (F.length + 5) cap) (F.length + 5) (([0, 0, 0, 0] ++ F ++ [0]).map cb) ∧ F.length + 5 ≤ cap ∧ cap ≤ maxLen ∧ B ≤ g := by
  obtain ⟨h1, _, _⟩ := h
  have hn : ([0, 0, 0, 0] ++ F ++ [0]).length = F.length + 5 := by simp
  rw [hn] at h1
  have h2 := h1.2
  rcases h2 with ⟨_, h0⟩ | ⟨g, cap, cur, hv, hb, _, hc1, hc2, _⟩
  · omega
  · subst hv
    exact ⟨g, cap, rfl, h1, hc1, hc2, hb⟩

theorem cb_int {x : Int} (h0 : 0 ≤ x) (h1 : x < 256) : (Value.int .u8 x) = cb (UInt8.ofNat x.toNat) := by
  unfold cb
  rw [UInt8.toNat_ofNat_of_lt' (by simp; omega)]
  congr 1; omega
/-- The four bytes of the header are written; the rest lies as it lay. -/
theorem header {B g n cap : Nat} {F : List UInt8} {w4 : World} (h : w4.ownsRow B 5 1 (.slice (some ⟨g, 0, none⟩) n cap) n (([0, 0, 0, 0] ++ F ++ [0]).map cb)) {x0 x1 x2 x3 : Int}
    (a0 : 0 ≤ x0) (b0 : x0 < 256) (a1 : 0 ≤ x1) (b1 : x1 < 256) (a2 : 0 ≤ x2) (b2 : x2 < 256) (a3 : 0 ≤ x3) (b3 : x3 < 256) :
    ∃ hdr : List UInt8, hdr.length = 4 ∧ Lies g (hdr ++ F) ((((w4.setCell ⟨g, 0, none⟩ (.int .u8 x0)).setCell ⟨g, 1, none⟩ (.int .u8 x1)).setCell ⟨g, 2, none⟩ (.int .u8 x2)).setCell ⟨g, 3, none⟩ (.int .u8 x3)) := by
  refine ⟨[UInt8.ofNat x0.toNat, UInt8.ofNat x1.toNat, UInt8.ofNat x2.toNat, UInt8.ofNat x3.toNat], rfl, ?_⟩
  rw [cb_int a0 b0, cb_int a1 b1, cb_int a2 b2, cb_int a3 b3]
  have hr := ((((h.stored 0 (cb (UInt8.ofNat x0.toNat))).1.stored 1 (cb (UInt8.ofNat x1.toNat))).1.stored 2 (cb (UInt8.ofNat x2.toNat))).1.stored 3 (cb (UInt8.ofNat x3.toNat))).1
  have hn : n = F.length + 5 := by have := h.1; simp at this; omega
  intro i hi
  rw [hr.cellAt i (by rw [hn]; simp at hi; omega)]
  have e : ((((([0, 0, 0, 0] ++ F ++ [0]).map cb).set 0 (cb (UInt8.ofNat x0.toNat))).set 1 (cb (UInt8.ofNat x1.toNat))).set 2 (cb (UInt8.ofNat x2.toNat))).set 3 (cb (UInt8.ofNat x3.toNat)) =
      ([UInt8.ofNat x0.toNat, UInt8.ofNat x1.toNat, UInt8.ofNat x2.toNat, UInt8.ofNat x3.toNat] ++ F).map cb ++ [cb 0] := by simp
  rw [e, List.getElem?_append_left (by simpa using hi), List.getElem?_map, List.getElem?_eq_getElem hi]
  rfl

set_option maxHeartbeats 2000000 in
set_option maxRecDepth 100000 in
theorem walk_main (a0 a1 : Option Addr) (len0 cap0 len1 cap1 : Nat) (ss : List ByteArray) (zs : List UInt8) (w : World) (hk : Keys w a0 len0 ss) (hs : Sel w a1 len1 zs) (h0 : len0 ≤ 65536) (h1 : len1 ≤ 1048576) (h2 : len1 + 16 * len0 ≤ 1048576) :
    Calls Try.prog 3 #[.slice a0 len0 cap0, .slice a1 len1 cap1] w fun e w' => e = .returned (.bool true) ∧ Below w.heap.size w w' := by
  have i0 : (len0 : Int) ≤ 65536 := by omega
  have i1 : (len1 : Int) ≤ 1048576 := by omega
  have i2 : (len1 : Int) + 16 * (len0 : Int) ≤ 1048576 := by omega
  have cB := fun w hk => bytes_any a0 a1 len0 cap0 len1 cap1 ss w hk (by unfold maxLen; omega) (by unfold maxLen; omega)
  have HK := hidden hk
  have HS := hidden hs
  clear hk hs
  go_enter Try.func3, Try.ntmps3
  go_wp2_with fail
  refine (cB _ HK.out).mono ?_
  rintro e w9 ⟨⟨bo, rfl⟩, rfl⟩
  cases bo
  · go_wp2
    go_ret
    exact ⟨rfl, Below.refl _ _⟩
  · go_wp2
    go_loop [5, 6] (fun t i => ∃ k : Nat, k ≤ len0 ∧ i = .int .i64 k ∧ t = .int .i64 ((len1 + 16 * len0 + kb ((els ss zs).take k) : Nat) : Int) ∧ len1 + 16 * len0 + kb ((els ss zs).take k) ≤ 1048576) (fun _ i => len0 - (intOf i).toNat)
    case atStart => exact ⟨0, by omega, rfl, by simp [kb], by simp [kb]; omega⟩
    case round =>
      obtain ⟨k, hk, rfl, rfl, hkb⟩ := hrel
      by_cases hlt : k < len0
      · obtain ⟨b, off, rfl, hb, hcs⟩ := HK.out.2.2 (by omega)
        have hc := hcs k hlt
        have hsz := HK.out.2.1 k
        have hsucc := hidden (kb_succ ss zs k (by rw [HK.out.1]; exact hlt))
        clear hcs
        generalize hkey : ss.getD k ByteArray.empty = key at *
        have hsz' : (key.size : Int) ≤ 9223372036854775807 := by unfold maxLen at hsz; omega
        clear hsz hkey
        generalize hT : len1 + 16 * len0 + kb ((els ss zs).take k) = T at *
        have HT := hidden hT
        clear hT
        go_wp2
        · go_ret
          exact ⟨rfl, Below.refl _ _⟩
        · go_ret
          exact ⟨rfl, Below.refl _ _⟩
        · go_round
          case rel =>
            have e1 : len1 + 16 * len0 + kb ((els ss zs).take (k + 1)) = T + key.size := by rw [hsucc.out, ← HT.out]; omega
            exact ⟨k + 1, by omega, by go_num, by rw [e1]; go_num, by rw [e1]; omega⟩
          case measure => simp [intOf]; omega
      · have hke : k = len0 := by omega
        subst hke
        rw [List.take_of_length_le (by rw [els_len, HK.out.1]; exact Nat.le_refl _)] at hkb
        generalize hT : len1 + 16 * k + kb ((els ss zs).take k) = T at *
        clear hT
        go_wp2
        go_loop [7, 8] (fun i _ => ∃ m : Nat, m ≤ k ∧ i = .int .i64 m ∧ Hid (∀ q, q < m → (0 : UInt8) ∉ (ss.getD q ByteArray.empty).data.toList)) (fun i _ => k - (intOf i).toNat)
        case atStart => exact ⟨0, by omega, rfl, fun q hq => absurd hq (Nat.not_lt_zero _)⟩
        case round =>
          obtain ⟨m, hm, rfl, hno⟩ := hrel
          by_cases hlt2 : m < k
          · obtain ⟨b, off, rfl, hb, hcs⟩ := HK.out.2.2 (by omega)
            have hc := hcs m hlt2
            have hsz := HK.out.2.1 m
            clear hcs
            generalize hkey : ss.getD m ByteArray.empty = key at *
            have HKEY := hidden hkey
            have hsz' : (key.size : Int) ≤ 9223372036854775807 := by unfold maxLen at hsz; omega
            clear hsz hkey
            go_wp2
            go_loop [8] (fun j => ∃ q : Nat, q ≤ key.size ∧ j = .int .i64 q ∧ Hid ((0 : UInt8) ∉ key.data.toList.take q)) (fun j => key.size - (intOf j).toNat)
            case atStart => exact ⟨0, by omega, rfl, by simp [Hid]⟩
            case round =>
              obtain ⟨q, hq, rfl, hnq⟩ := hrel
              by_cases hlt3 : q < key.size
              · go_wp2
                · go_ret
                  exact ⟨rfl, Below.refl _ _⟩
                · go_round
                  case rel => exact ⟨q + 1, by omega, by go_num, no_step hlt3 (by assumption) hnq.out⟩
                  case measure => simp [intOf]; omega
              · have hnk := hidden (no_end hlt3 hnq.out)
                go_wp2
                go_round
                case rel =>
                  refine ⟨m + 1, by omega, by go_num, fun x hx => ?_⟩
                  by_cases hxm : x = m
                  · rw [hxm, HKEY.out]; exact hnk.out
                  · exact hno.out x (by omega)
                case measure => simp [intOf]; omega
          · have hme : m = k := by omega
            subst hme
            have hz : ∀ e ∈ els ss zs, (0 : UInt8) ∉ e.1.data.toList := by
              intro e he
              obtain ⟨x, hx, rfl⟩ := List.mem_map.1 he
              exact hno.out x (by rw [← HK.out.1]; simpa using hx)
            have HZ := hidden hz
            clear hz hno
            have hlen := HK.out.1
            have HLEN := hidden hlen
            clear hlen
            go_wp2
            go_loopw [9, 10, 11] (fun v sm i wr => ∃ k : Nat, k ≤ m ∧ i = .int .i64 k ∧ sm = .int .i64 (kb ((els ss zs).take k)) ∧ Hid (Own w.heap.size w v ([0, 0, 0, 0] ++ flat ((els ss zs).take k)) wr)) (fun _ _ i _ => m - (intOf i).toNat)
            case atStart => exact ⟨0, by omega, rfl, rfl, own_start w⟩
            case round =>
              obtain ⟨k, hk4, rfl, rfl, hown⟩ := hrel
              have hkl := kb_le (els ss zs) k
              by_cases hlt4 : k < m
              · obtain ⟨b, off, rfl, hb, hcs⟩ := HK.out.2.2 (by omega)
                have hc : wr.cell? ⟨b, off + k, none⟩ = some (.string (ss.getD k ByteArray.empty)) := by rw [hown.out.2.2.cell (show b < w.heap.size from hb)]; exact hcs k hlt4
                have hcw := hidden (hcs k hlt4)
                have hks := hidden (kb_succ ss zs k (by rw [HLEN.out]; exact hlt4))
                have hfs := hidden (flat_succ ss zs k (by rw [HLEN.out]; exact hlt4))
                have hkl2 := kb_le (els ss zs) (k + 1)
                rw [hks.out] at hkl2
                have hfl := flat_le ((els ss zs).take k)
                rw [List.length_take] at hfl
                have cL := lay_any w.heap.size w _ _ (ss.getD k ByteArray.empty) (zs.getD k 0) wr hown.out (by rw [List.length_append]; simp only [List.length_cons, List.length_nil]; omega)
                have hsl : k < len1 → ∃ b off, a1 = some ⟨b, off, none⟩ ∧ wr.cell? ⟨b, off + k, none⟩ = some (.int .u8 ((zs.getD k 0).toNat : Int)) := by
                  intro hk1
                  obtain ⟨b, off, rfl, hb1, hc1⟩ := HS.out.2 (by omega)
                  exact ⟨b, off, rfl, by rw [hown.out.2.2.cell (show b < w.heap.size from hb1)]; exact hc1 k hk1⟩
                have hs0 : ¬ k < len1 → zs.getD k 0 = 0 := by intro hk1; rw [List.getD_eq_getElem?_getD, List.getElem?_eq_none (by rw [HS.out.1]; omega)]; rfl
                clear hcs hown
                generalize hkey : ss.getD k ByteArray.empty = key at *
                clear hkey
                generalize hse : zs.getD k 0 = sv at *
                clear hse
                by_cases hk1 : k < len1
                · obtain ⟨b1, off1, rfl, hc1⟩ := hsl hk1
                  clear hs0
                  go_wp2_with fail
                  refine cL.mono ?_
                  rintro e w2 ⟨v2, rfl, hown2⟩
                  have hc2 : w2.cell? ⟨b, off + k, none⟩ = some (.string key) := by rw [hown2.2.2.cell (show b < w.heap.size from hb)]; exact hcw.out
                  have HO := hidden hown2
                  clear hown2
                  go_wp2_with fail
                  go_roundw
                  case rel => exact ⟨k + 1, by omega, by go_num, by rw [hks.out]; go_num, by rw [hfs.out, ← List.append_assoc]; exact HO⟩
                  case measure => simp [intOf]; omega
                · have hsv := hs0 hk1
                  subst hsv
                  clear hs0 hsl
                  go_wp2_with fail
                  refine cL.mono ?_
                  rintro e w2 ⟨v2, rfl, hown2⟩
                  have hc2 : w2.cell? ⟨b, off + k, none⟩ = some (.string key) := by rw [hown2.2.2.cell (show b < w.heap.size from hb)]; exact hcw.out
                  have HO := hidden hown2
                  clear hown2
                  go_wp2_with fail
                  go_roundw
                  case rel => exact ⟨k + 1, by omega, by go_num, by rw [hks.out]; go_num, by rw [hfs.out, ← List.append_assoc]; exact HO⟩
                  case measure => simp [intOf]; omega
              · have hke : k = m := by omega
                subst hke
                rw [List.take_of_length_le (by rw [els_len, HLEN.out]; exact Nat.le_refl _)] at hown ⊢
                have hfl := flat_le (els ss zs)
                rw [els_len, HLEN.out] at hfl
                generalize hes : els ss zs = es at *
                have hel : es.length = k := by rw [← hes, els_len, HLEN.out]
                have HEL := hidden hel
                clear hes hel hlt4
                go_wp2_with (at_builtin; refine app_lit rfl (.tmp 109) (.tmp 110) rfl hown.out rfl [0] (by rfl) (by rfl) (by simp <;> omega) ?_; intro v4 w4 h4; obtain ⟨g, cap, hv4, hrow, hcap, hcm, hBg⟩ := own_form h4; subst hv4; have H4 := hidden h4; have HR := hidden hrow; have k0 : w4.cell? ⟨g, 0, none⟩ = some (.int .u8 0) := (hrow.cellAt 0 (by omega)).trans rfl; have k1 : w4.cell? ⟨g, 1, none⟩ = some (.int .u8 0) := (hrow.cellAt 1 (by omega)).trans rfl; have k2 : w4.cell? ⟨g, 2, none⟩ = some (.int .u8 0) := (hrow.cellAt 2 (by omega)).trans rfl; have k3 : w4.cell? ⟨g, 3, none⟩ = some (.int .u8 0) := (hrow.cellAt 3 (by omega)).trans rfl; have f0 := hrow.frozenAt 0; have f1 := hrow.frozenAt 1; have f2 := hrow.frozenAt 2; have f3 := hrow.frozenAt 3; clear h4 hrow)
                have hg4 : g < w4.heap.size := (HR.out.lt g rfl).2
                obtain ⟨hdr, hh4, hlies⟩ := header HR.out (x0 := ((flat es).length + 5) % 256) (x1 := ((flat es).length + 5) / 256 % 256) (x2 := ((flat es).length + 5) / 65536) (x3 := ((flat es).length + 5) / 16777216) (by omega) (by omega) (by omega) (by omega) (by omega) (by omega) (by omega) (by omega)
                have hb5 : Below w.heap.size w ((((w4.setCell ⟨g, 0, none⟩ (.int .u8 (((flat es).length + 5) % 256))).setCell ⟨g, 1, none⟩ (.int .u8 (((flat es).length + 5) / 256 % 256))).setCell ⟨g, 2, none⟩ (.int .u8 (((flat es).length + 5) / 65536))).setCell ⟨g, 3, none⟩ (.int .u8 (((flat es).length + 5) / 16777216))) := (((H4.out.2.2.setCell hBg _).setCell hBg _).setCell hBg _).setCell hBg _
                have hs5 : ((((w4.setCell ⟨g, 0, none⟩ (.int .u8 (((flat es).length + 5) % 256))).setCell ⟨g, 1, none⟩ (.int .u8 (((flat es).length + 5) / 256 % 256))).setCell ⟨g, 2, none⟩ (.int .u8 (((flat es).length + 5) / 65536))).setCell ⟨g, 3, none⟩ (.int .u8 (((flat es).length + 5) / 16777216))).heap.size = w4.heap.size := by simp
                generalize ((((w4.setCell ⟨g, 0, none⟩ (.int .u8 (((flat es).length + 5) % 256))).setCell ⟨g, 1, none⟩ (.int .u8 (((flat es).length + 5) / 256 % 256))).setCell ⟨g, 2, none⟩ (.int .u8 (((flat es).length + 5) / 65536))).setCell ⟨g, 3, none⟩ (.int .u8 (((flat es).length + 5) / 16777216))) = w5 at *
                clear k0 k1 k2 k3 f0 f1 f2 f3 HR H4 hown
                have HLi := hidden hlies
                have HB5 := hidden hb5
                have HS5 := hidden hs5
                clear hlies hb5 hs5
                refine (new_any g _ cap _).mono ?_
                rintro e w6 ⟨rfl, hw6⟩
                have d0 : w6.cell? ⟨w5.heap.size + 1, 0, none⟩ = some (.slice (some ⟨g, 0, none⟩) ((flat es).length + 5) cap) := by rw [hw6]; simp [go_sem]
                have d1 : w6.cell? ⟨w5.heap.size + 1, 1, none⟩ = some (.int .i64 4) := by rw [hw6]; simp [go_sem]
                have hb6 : Below w5.heap.size w5 w6 := by rw [hw6]; exact ((Below.refl _ _).alloc (Nat.le_refl _) _).alloc (by simp) _
                have hz6 : w5.heap.size + 2 = w6.heap.size := by rw [hw6]; simp
                have cC := zzcount_any g (w5.heap.size + 1) ((flat es).length + 5) cap hdr es w6 hh4 (lies_later HLi.out (by rw [HS5.out]; exact hg4) hb6) HZ.out (by omega) hcap hcm (by omega) (by rw [← hz6, HS5.out]; omega) (by omega) (by rw [HEL.out]; omega) d0 d1
                rw [HEL.out, show ((4 + (flat es).length : Nat) : Int) = ((flat es).length : Int) + 5 - 1 by omega] at cC
                have HZ6 := hidden hz6
                have D1 := hidden d1
                clear hw6 d0 d1 hz6
                go_wp2_with fail
                refine cC.mono ?_
                rintro e w7 ⟨rfl, hb7⟩
                have d7 : w7.cell? ⟨w5.heap.size + 1, 1, none⟩ = some (.int .i64 4) := by rw [hb7.cell (show w5.heap.size + 1 < w6.heap.size by rw [← HZ6.out]; omega)]; exact D1.out
                have hfin : Below w.heap.size w w7 := (HB5.out.trans (hb6.mono HB5.out.size)).trans (hb7.mono (by have := HB5.out.size; rw [← HZ6.out]; omega))
                have HF := hidden hfin
                clear hfin hb7 hb6
                go_wp2_with (go_at_call 8; refine (off_any _ _ (by assumption)).mono ?_; rintro e w9 ⟨rfl, hw9⟩; obtain rfl := hw9.symm)
                go_ret
                exact ⟨rfl, HF.out⟩

set_option maxRecDepth 100000 in
/-- The ways that answer true at once. -/
theorem walk_early (a0 a1 : Option Addr) (len0 cap0 len1 cap1 : Nat) (ss : List ByteArray) (w : World) (hk : Keys w a0 len0 ss) (hl0 : len0 ≤ maxLen) (hl1 : len1 ≤ maxLen)
    (h : (65536 : Int) < len0 ∨ (len0 : Int) ≤ 65536 ∧ ((1048576 : Int) < len1 ∨ (len1 : Int) ≤ 1048576 ∧ (1048576 : Int) < (len1 : Int) + 16 * (len0 : Int))) :
    Calls Try.prog 3 #[.slice a0 len0 cap0, .slice a1 len1 cap1] w fun e w' => e = .returned (.bool true) ∧ Below w.heap.size w w' := by
  have cB := fun w hk => bytes_any a0 a1 len0 cap0 len1 cap1 ss w hk hl0 hl1
  have HK := hidden hk
  have i0 : (len0 : Int) ≤ 9223372036854775807 := by unfold maxLen at hl0; omega
  have i1 : (len1 : Int) ≤ 9223372036854775807 := by unfold maxLen at hl1; omega
  clear hk hl0 hl1
  rcases h with h | ⟨h1, h | ⟨h2, h⟩⟩
  all_goals
    go_enter Try.func3, Try.ntmps3
    go_wp2_with fail
    refine (cB _ HK.out).mono ?_
    rintro e w9 ⟨⟨bo, rfl⟩, rfl⟩
    cases bo
    all_goals
      go_wp2
      go_ret
      exact ⟨rfl, Below.refl _ _⟩

theorem walk (a0 a1 : Option Addr) (len0 cap0 len1 cap1 : Nat) (ss : List ByteArray) (zs : List UInt8) (w : World) (hk : Keys w a0 len0 ss) (hs : Sel w a1 len1 zs) (hl0 : len0 ≤ maxLen) (hl1 : len1 ≤ maxLen) :
    Calls Try.prog 3 #[.slice a0 len0 cap0, .slice a1 len1 cap1] w fun e w' => e = .returned (.bool true) ∧ Below w.heap.size w w' := by
  by_cases h0 : (65536 : Int) < len0
  · exact walk_early a0 a1 len0 cap0 len1 cap1 ss w hk hl0 hl1 (Or.inl h0)
  · by_cases h1 : (1048576 : Int) < len1
    · exact walk_early a0 a1 len0 cap0 len1 cap1 ss w hk hl0 hl1 (Or.inr ⟨by omega, Or.inl h1⟩)
    · by_cases h2 : (1048576 : Int) < (len1 : Int) + 16 * (len0 : Int)
      · exact walk_early a0 a1 len0 cap0 len1 cap1 ss w hk hl0 hl1 (Or.inr ⟨by omega, Or.inr ⟨by omega, h2⟩⟩)
      · exact walk_main a0 a1 len0 cap0 len1 cap1 ss zs w hk hs (by omega) (by omega) (by omega)

end Go.Proofs.Qxb6609231a.Law
