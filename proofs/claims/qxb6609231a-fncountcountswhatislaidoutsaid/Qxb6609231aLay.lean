/-
  THE WALK of zzLayElement. By an AI agent.
-/
import Derived.Test.Qxb6609231aRows
import Derived.Test.Qxb6609231aPlain
import Derived.WalkKit
import Derived.ProofKit
import Derived.WalkSpells
import Derived.WalkLawsBesides
import Derived.Lib.AppendStr
import Derived.Deep.AppendLies
import Derived.Laws.OwnMore
namespace Go.Proofs.Qxb6609231a.Lay
open Go.RowKit Plain

/-- A byte's cell. -/
def cb (b : UInt8) : Value := .int .u8 (b.toNat : Int)
theorem info5 : (Try.prog.info? 5).map (fun i => (i.zero, i.size, i.bytes)) = some (some (.int .u8 0), 1, 1) := by kernel_rfl
theorem one_cb (l : List UInt8) : ∀ u ∈ l.map cb, u.oneCell' = true := by
  intro u hu; obtain ⟨b, _, rfl⟩ := List.mem_map.1 hu; rfl
theorem news (w : World) (cs : Array Value) (l : List UInt8) (h : cs.toList = l.map cb) : ∀ j u, (l.map cb)[j]? = some u → (w.alloc (.cells cs 5)).cell? ((⟨w.heap.size, 0, none⟩ : Addr).add j) = some u := by
  intro j u hu
  exact World.news_of_block (w := w.alloc _) (heap_alloc_new w _) j u (by rw [h]; exact hu)
theorem strCells_cb (s : ByteArray) : Lib.strCells s = s.data.toList.map cb := rfl

/-- The state: v owns the bytes xs (n of them), in blocks from B on; below B nothing has turned since w0. -/
def Own (B : Nat) (w0 : World) (v : Value) (xs : List UInt8) (w : World) : Prop :=
  w.ownsRow B 5 1 v xs.length (xs.map cb) ∧ B ≤ w.heap.size ∧ Below B w0 w

theorem own_step {B n : Nat} {w0 w w' : World} {v v' : Value} {xs ys : List UInt8} (h : Own B w0 v xs w) (o : Obj) (hn : n = ys.length)
    (h1 : w'.ownsRow B 5 1 v' (xs.length + n) (xs.map cb ++ ys.map cb)) (h2 : (w.alloc o).grownBy w' v.ownBlock) : Own B w0 v' (xs ++ ys) w' := by
  obtain ⟨a, b, c⟩ := h
  subst hn
  refine ⟨by rw [List.length_append, List.map_append]; exact h1, by have := h2.size; simp at this; omega, (c.alloc b o).grown h2 (by simp; omega) fun k hk => (a.lt k hk).1⟩
theorem own_str {B n : Nat} {w0 w w' : World} {v v' : Value} {xs ys : List UInt8} (h : Own B w0 v xs w) (hn : n = ys.length)
    (h1 : w'.ownsRow B 5 1 v' (xs.length + n) (xs.map cb ++ ys.map cb)) (h2 : w.grownBy w' v.ownBlock) : Own B w0 v' (xs ++ ys) w' := by
  obtain ⟨a, b, c⟩ := h
  subst hn
  exact ⟨by rw [List.length_append, List.map_append]; exact h1, by have := h2.size; omega, c.grown h2 b fun k hk => (a.lt k hk).1⟩

/-- 'append(doc, b0, b1, ..)': the bytes l stand in a block just made. -/
theorem app_lit {ops : Array Oper} {rest : List Oper} {o : Oper} {a : Act} {Q : Exit → Act → World → Prop} {w : World} {cs : Array Value} (hgd : o.guard = none) (s x : Operand)
    (ho : o.op = .call { callee := .builtin .append, args := #[s, x], argTypes := #[23, 23] }) {B : Nat} {w0 : World} {v : Value} {xs : List UInt8} (H : Own B w0 v xs w) (hs : a.eval s = v)
    (l : List UInt8) (hcs : cs.toList = l.map cb) (hx : a.eval x = .slice (some ⟨w.heap.size, 0, none⟩) l.length l.length) (hb : xs.length + l.length ≤ 8388608)
    (h : ∀ v' w', Own B w0 v' (xs ++ l) w' → wpList Try.prog ops Q rest (a.put o.dst v') w') : wpList Try.prog ops Q (o :: rest) a (w.alloc (.cells cs 5)) := by
  obtain ⟨i0, hi, hz0, hz1, hz2⟩ := info_parts info5
  refine wpList_append_own _ hgd s x 23 ho B 5 i0 (.int .u8 0) 1 1 Try.underlying23 hi hz0 hz1 hz2 rfl (by decide) v xs.length (xs.map cb) hs (H.1.alloc _) ⟨w.heap.size, 0, none⟩ l.length l.length (l.map cb) hx (by simp) (news w cs l hcs) (one_cb l) (by unfold maxLen; omega) (by omega) (by have := H.2.1; simp; omega) ?_
  intro v1 w1 hown1 hgrow1 _
  exact h v1 w1 (own_step H _ rfl hown1 hgrow1)
/-- 'append(doc, key...)'. -/
theorem app_str {ops : Array Oper} {rest : List Oper} {o : Oper} {a : Act} {Q : Exit → Act → World → Prop} {w : World} (hgd : o.guard = none) (s x : Operand)
    (ho : o.op = .call { callee := .builtin .append, args := #[s, x], argTypes := #[23, 9] }) {B : Nat} {w0 : World} {v : Value} {xs : List UInt8} (H : Own B w0 v xs w) (hs : a.eval s = v)
    (key : ByteArray) (hx : a.eval x = .string key) (hb : xs.length + key.size ≤ 8388608)
    (h : ∀ v' w', Own B w0 v' (xs ++ key.data.toList) w' → wpList Try.prog ops Q rest (a.put o.dst v') w') : wpList Try.prog ops Q (o :: rest) a w := by
  obtain ⟨i0, hi, hz0, hz1, hz2⟩ := info_parts info5
  refine Lib.wpList_append_own_string _ hgd s x 23 9 ho B 5 i0 Try.underlying23 Try.underlying9 hi hz0 hz1 hz2 v xs.length (xs.map cb) hs H.1 key hx (by unfold maxLen; omega) (by omega) H.2.1 ?_
  intro v1 w1 hown1 hgrow1 _
  exact h v1 w1 (own_str H (Lib.size_eq key) hown1 hgrow1)
theorem and_fin : ∀ n : Fin 256, bits BinOp.and IntKind.u8 ((n.val : Nat) : Int) 1 = (((UInt8.ofNat n.val) &&& 1).toNat : Int) := by decide +kernel
theorem and_one (s : UInt8) : bits BinOp.and IntKind.u8 (s.toNat : Int) 1 = ((s &&& 1).toNat : Int) := by
  have := and_fin ⟨s.toNat, s.toNat_lt⟩
  simpa using this
theorem hidden {p : Prop} (h : p) : Hid p := h

set_option maxHeartbeats 1000000 in
set_option maxRecDepth 100000 in
theorem lay2 (B : Nat) (w0 : World) (v : Value) (xs : List UInt8) (key : ByteArray) (s : UInt8) (w : World) (hown : Own B w0 v xs w) (hn : xs.length + key.size ≤ 4194304) (hs : s.toNat % 8 = 2) :
    Calls Try.prog 5 #[v, .string key, .int .u8 s.toNat] w fun e w' => ∃ v', e = .returned v' ∧ Own B w0 v' (xs ++ enc key s) w' := by
  have hs' : (s.toNat : Int) % 8 = 2 := by omega
  have Hown := hidden hown
  clear hown
  have He : Hid (enc key s = 8 :: (key.data.toList ++ 0 :: val s)) := by show enc key s = _; unfold enc kind; simp [hs]
  have Hs := hidden hs
  clear hs
  go_enter Try.func5, Try.ntmps5
  go_wp2_with (first | (at_builtin; refine app_lit rfl (.tmp 26) (.tmp 28) rfl Hown.out rfl [8] (by rfl) (by rfl) (by simp <;> omega) ?_; intro v1 w1 h1; have H1 := hidden h1; clear h1) | (at_builtin; refine app_str rfl (.tmp 30) (.tmp 31) rfl H1.out rfl key rfl (by simp <;> omega) ?_; intro v2 w2 h2; have H2 := hidden h2; clear h2) | (at_builtin; refine app_lit rfl (.tmp 33) (.tmp 34) rfl H2.out rfl [0] (by rfl) (by rfl) (by simp <;> omega) ?_; intro v3 w3 h3; have H3 := hidden h3; clear h3) | (at_builtin; refine app_lit rfl (.tmp 59) (.tmp 62) rfl H3.out rfl [s &&& 1] (by rw [and_one]; rfl) (by rfl) (by simp <;> omega) ?_; intro v4 w4 h4; have H4 := hidden h4; clear h4))
  go_ret
  exact ⟨_, rfl, by rw [He.out]; have := H4.out; simpa [val, Hs.out] using this⟩

set_option maxHeartbeats 1000000 in
set_option maxRecDepth 100000 in
theorem lay3 (B : Nat) (w0 : World) (v : Value) (xs : List UInt8) (key : ByteArray) (s : UInt8) (w : World) (hown : Own B w0 v xs w) (hn : xs.length + key.size ≤ 4194304) (hs : s.toNat % 8 = 3) :
    Calls Try.prog 5 #[v, .string key, .int .u8 s.toNat] w fun e w' => ∃ v', e = .returned v' ∧ Own B w0 v' (xs ++ enc key s) w' := by
  have hs' : (s.toNat : Int) % 8 = 3 := by omega
  have Hown := hidden hown
  clear hown
  have He : Hid (enc key s = 10 :: (key.data.toList ++ 0 :: val s)) := by show enc key s = _; unfold enc kind; simp [hs]
  have Hs := hidden hs
  clear hs
  go_enter Try.func5, Try.ntmps5
  go_wp2_with (first | (at_builtin; refine app_lit rfl (.tmp 26) (.tmp 28) rfl Hown.out rfl [10] (by rfl) (by rfl) (by simp <;> omega) ?_; intro v1 w1 h1; have H1 := hidden h1; clear h1) | (at_builtin; refine app_str rfl (.tmp 30) (.tmp 31) rfl H1.out rfl key rfl (by simp <;> omega) ?_; intro v2 w2 h2; have H2 := hidden h2; clear h2) | (at_builtin; refine app_lit rfl (.tmp 33) (.tmp 34) rfl H2.out rfl [0] (by rfl) (by rfl) (by simp <;> omega) ?_; intro v3 w3 h3; have H3 := hidden h3; clear h3))
  go_ret
  exact ⟨_, rfl, by rw [He.out]; have := H3.out; simpa [val, Hs.out] using this⟩

set_option maxHeartbeats 1000000 in
set_option maxRecDepth 100000 in
theorem lay4 (B : Nat) (w0 : World) (v : Value) (xs : List UInt8) (key : ByteArray) (s : UInt8) (w : World) (hown : Own B w0 v xs w) (hn : xs.length + key.size ≤ 4194304) (hs : s.toNat % 8 = 4) :
    Calls Try.prog 5 #[v, .string key, .int .u8 s.toNat] w fun e w' => ∃ v', e = .returned v' ∧ Own B w0 v' (xs ++ enc key s) w' := by
  have hs' : (s.toNat : Int) % 8 = 4 := by omega
  have Hown := hidden hown
  clear hown
  have He : Hid (enc key s = 2 :: (key.data.toList ++ 0 :: val s)) := by show enc key s = _; unfold enc kind; simp [hs]
  have Hs := hidden hs
  clear hs
  go_enter Try.func5, Try.ntmps5
  go_wp2_with (first | (at_builtin; refine app_lit rfl (.tmp 26) (.tmp 28) rfl Hown.out rfl [2] (by rfl) (by rfl) (by simp <;> omega) ?_; intro v1 w1 h1; have H1 := hidden h1; clear h1) | (at_builtin; refine app_str rfl (.tmp 30) (.tmp 31) rfl H1.out rfl key rfl (by simp <;> omega) ?_; intro v2 w2 h2; have H2 := hidden h2; clear h2) | (at_builtin; refine app_lit rfl (.tmp 33) (.tmp 34) rfl H2.out rfl [0] (by rfl) (by rfl) (by simp <;> omega) ?_; intro v3 w3 h3; have H3 := hidden h3; clear h3) | (at_builtin; refine app_lit rfl (.tmp 66) (.tmp 67) rfl H3.out rfl [2, 0, 0, 0, 120, 0] (by rfl) (by rfl) (by simp <;> omega) ?_; intro v4 w4 h4; have H4 := hidden h4; clear h4))
  go_ret
  exact ⟨_, rfl, by rw [He.out]; have := H4.out; simpa [val, Hs.out] using this⟩

set_option maxHeartbeats 1000000 in
set_option maxRecDepth 100000 in
theorem lay5 (B : Nat) (w0 : World) (v : Value) (xs : List UInt8) (key : ByteArray) (s : UInt8) (w : World) (hown : Own B w0 v xs w) (hn : xs.length + key.size ≤ 4194304) (hs : s.toNat % 8 = 5) :
    Calls Try.prog 5 #[v, .string key, .int .u8 s.toNat] w fun e w' => ∃ v', e = .returned v' ∧ Own B w0 v' (xs ++ enc key s) w' := by
  have hs' : (s.toNat : Int) % 8 = 5 := by omega
  have Hown := hidden hown
  clear hown
  have He : Hid (enc key s = 3 :: (key.data.toList ++ 0 :: val s)) := by show enc key s = _; unfold enc kind; simp [hs]
  have Hs := hidden hs
  clear hs
  go_enter Try.func5, Try.ntmps5
  go_wp2_with (first | (at_builtin; refine app_lit rfl (.tmp 26) (.tmp 28) rfl Hown.out rfl [3] (by rfl) (by rfl) (by simp <;> omega) ?_; intro v1 w1 h1; have H1 := hidden h1; clear h1) | (at_builtin; refine app_str rfl (.tmp 30) (.tmp 31) rfl H1.out rfl key rfl (by simp <;> omega) ?_; intro v2 w2 h2; have H2 := hidden h2; clear h2) | (at_builtin; refine app_lit rfl (.tmp 33) (.tmp 34) rfl H2.out rfl [0] (by rfl) (by rfl) (by simp <;> omega) ?_; intro v3 w3 h3; have H3 := hidden h3; clear h3) | (at_builtin; refine app_lit rfl (.tmp 71) (.tmp 72) rfl H3.out rfl [5, 0, 0, 0, 0] (by rfl) (by rfl) (by simp <;> omega) ?_; intro v4 w4 h4; have H4 := hidden h4; clear h4))
  go_ret
  exact ⟨_, rfl, by rw [He.out]; have := H4.out; simpa [val, Hs.out] using this⟩

set_option maxHeartbeats 1000000 in
set_option maxRecDepth 100000 in
theorem lay6 (B : Nat) (w0 : World) (v : Value) (xs : List UInt8) (key : ByteArray) (s : UInt8) (w : World) (hown : Own B w0 v xs w) (hn : xs.length + key.size ≤ 4194304) (hs : s.toNat % 8 = 6) :
    Calls Try.prog 5 #[v, .string key, .int .u8 s.toNat] w fun e w' => ∃ v', e = .returned v' ∧ Own B w0 v' (xs ++ enc key s) w' := by
  have hs' : (s.toNat : Int) % 8 = 6 := by omega
  have Hown := hidden hown
  clear hown
  have He : Hid (enc key s = 5 :: (key.data.toList ++ 0 :: val s)) := by show enc key s = _; unfold enc kind; simp [hs]
  have Hs := hidden hs
  clear hs
  go_enter Try.func5, Try.ntmps5
  go_wp2_with (first | (at_builtin; refine app_lit rfl (.tmp 26) (.tmp 28) rfl Hown.out rfl [5] (by rfl) (by rfl) (by simp <;> omega) ?_; intro v1 w1 h1; have H1 := hidden h1; clear h1) | (at_builtin; refine app_str rfl (.tmp 30) (.tmp 31) rfl H1.out rfl key rfl (by simp <;> omega) ?_; intro v2 w2 h2; have H2 := hidden h2; clear h2) | (at_builtin; refine app_lit rfl (.tmp 33) (.tmp 34) rfl H2.out rfl [0] (by rfl) (by rfl) (by simp <;> omega) ?_; intro v3 w3 h3; have H3 := hidden h3; clear h3) | (at_builtin; refine app_lit rfl (.tmp 76) (.tmp 78) rfl H3.out rfl [0, 0, 0, 0, s] (by rfl) (by rfl) (by simp <;> omega) ?_; intro v4 w4 h4; have H4 := hidden h4; clear h4))
  go_ret
  exact ⟨_, rfl, by rw [He.out]; have := H4.out; simpa [val, Hs.out] using this⟩

set_option maxHeartbeats 1000000 in
set_option maxRecDepth 100000 in
theorem lay7 (B : Nat) (w0 : World) (v : Value) (xs : List UInt8) (key : ByteArray) (s : UInt8) (w : World) (hown : Own B w0 v xs w) (hn : xs.length + key.size ≤ 4194304) (hs : s.toNat % 8 = 7) :
    Calls Try.prog 5 #[v, .string key, .int .u8 s.toNat] w fun e w' => ∃ v', e = .returned v' ∧ Own B w0 v' (xs ++ enc key s) w' := by
  have hs' : (s.toNat : Int) % 8 = 7 := by omega
  have Hown := hidden hown
  clear hown
  have He : Hid (enc key s = 11 :: (key.data.toList ++ 0 :: val s)) := by show enc key s = _; unfold enc kind; simp [hs]
  have Hs := hidden hs
  clear hs
  go_enter Try.func5, Try.ntmps5
  go_wp2_with (first | (at_builtin; refine app_lit rfl (.tmp 26) (.tmp 28) rfl Hown.out rfl [11] (by rfl) (by rfl) (by simp <;> omega) ?_; intro v1 w1 h1; have H1 := hidden h1; clear h1) | (at_builtin; refine app_str rfl (.tmp 30) (.tmp 31) rfl H1.out rfl key rfl (by simp <;> omega) ?_; intro v2 w2 h2; have H2 := hidden h2; clear h2) | (at_builtin; refine app_lit rfl (.tmp 33) (.tmp 34) rfl H2.out rfl [0] (by rfl) (by rfl) (by simp <;> omega) ?_; intro v3 w3 h3; have H3 := hidden h3; clear h3) | (at_builtin; refine app_lit rfl (.tmp 82) (.tmp 83) rfl H3.out rfl [97, 0, 105, 0] (by rfl) (by rfl) (by simp <;> omega) ?_; intro v4 w4 h4; have H4 := hidden h4; clear h4))
  go_ret
  exact ⟨_, rfl, by rw [He.out]; have := H4.out; simpa [val, Hs.out] using this⟩

set_option maxHeartbeats 1000000 in
set_option maxRecDepth 100000 in
theorem lay0 (B : Nat) (w0 : World) (v : Value) (xs : List UInt8) (key : ByteArray) (s : UInt8) (w : World) (hown : Own B w0 v xs w) (hn : xs.length + key.size ≤ 4194304) (hs : s.toNat % 8 = 0) :
    Calls Try.prog 5 #[v, .string key, .int .u8 s.toNat] w fun e w' => ∃ v', e = .returned v' ∧ Own B w0 v' (xs ++ enc key s) w' := by
  have hs' : (s.toNat : Int) % 8 = 0 := by omega
  have Hown := hidden hown
  clear hown
  have He : Hid (enc key s = 1 :: (key.data.toList ++ 0 :: val s)) := by show enc key s = _; unfold enc kind; simp [hs]
  have Hs := hidden hs
  clear hs
  go_enter Try.func5, Try.ntmps5
  go_wp2_with (first | (at_builtin; refine app_lit rfl (.tmp 26) (.tmp 28) rfl Hown.out rfl [1] (by rfl) (by rfl) (by simp <;> omega) ?_; intro v1 w1 h1; have H1 := hidden h1; clear h1) | (at_builtin; refine app_str rfl (.tmp 30) (.tmp 31) rfl H1.out rfl key rfl (by simp <;> omega) ?_; intro v2 w2 h2; have H2 := hidden h2; clear h2) | (at_builtin; refine app_lit rfl (.tmp 33) (.tmp 34) rfl H2.out rfl [0] (by rfl) (by rfl) (by simp <;> omega) ?_; intro v3 w3 h3; have H3 := hidden h3; clear h3))
  clear H1 H2
  go_loopw [0, 8] (fun v i wr => ∃ k : Nat, k ≤ 8 ∧ i = .int .i64 k ∧ Hid (Own B w0 v (xs ++ [1] ++ key.data.toList ++ [0] ++ List.replicate k s) wr)) (fun _ i _ => 8 - (intOf i).toNat)
  case atStart => exact ⟨0, by omega, rfl, by simpa using H3⟩
  case round =>
    clear H3
    obtain ⟨k, hk, rfl, H⟩ := hrel
    by_cases hlt : k < 8
    · go_wp2_with (at_builtin; refine app_lit rfl (.tmp 43) (.tmp 45) rfl H.out rfl [s] (by rfl) (by rfl) (by simp <;> omega) ?_; intro v4 w4 h4; have H4 := hidden h4; clear h4)
      go_roundw
      case rel => exact ⟨k + 1, by omega, by go_num, by rw [List.replicate_succ', ← List.append_assoc]; exact H4⟩
      case measure => simp [intOf]; omega
    · have hk8 : k = 8 := by omega
      subst hk8
      go_wp2
      go_ret
      exact ⟨_, rfl, by rw [He.out]; have := H.out; simpa [val, Hs.out] using this⟩

set_option maxHeartbeats 1000000 in
set_option maxRecDepth 100000 in
theorem lay1 (B : Nat) (w0 : World) (v : Value) (xs : List UInt8) (key : ByteArray) (s : UInt8) (w : World) (hown : Own B w0 v xs w) (hn : xs.length + key.size ≤ 4194304) (hs : s.toNat % 8 = 1) :
    Calls Try.prog 5 #[v, .string key, .int .u8 s.toNat] w fun e w' => ∃ v', e = .returned v' ∧ Own B w0 v' (xs ++ enc key s) w' := by
  have hs' : (s.toNat : Int) % 8 = 1 := by omega
  have Hown := hidden hown
  clear hown
  have He : Hid (enc key s = 16 :: (key.data.toList ++ 0 :: val s)) := by show enc key s = _; unfold enc kind; simp [hs]
  have Hs := hidden hs
  clear hs
  go_enter Try.func5, Try.ntmps5
  go_wp2_with (first | (at_builtin; refine app_lit rfl (.tmp 26) (.tmp 28) rfl Hown.out rfl [16] (by rfl) (by rfl) (by simp <;> omega) ?_; intro v1 w1 h1; have H1 := hidden h1; clear h1) | (at_builtin; refine app_str rfl (.tmp 30) (.tmp 31) rfl H1.out rfl key rfl (by simp <;> omega) ?_; intro v2 w2 h2; have H2 := hidden h2; clear h2) | (at_builtin; refine app_lit rfl (.tmp 33) (.tmp 34) rfl H2.out rfl [0] (by rfl) (by rfl) (by simp <;> omega) ?_; intro v3 w3 h3; have H3 := hidden h3; clear h3))
  clear H1 H2
  go_loopw [0, 9] (fun v i wr => ∃ k : Nat, k ≤ 4 ∧ i = .int .i64 k ∧ Hid (Own B w0 v (xs ++ [16] ++ key.data.toList ++ [0] ++ List.replicate k s) wr)) (fun _ i _ => 4 - (intOf i).toNat)
  case atStart => exact ⟨0, by omega, rfl, by simpa using H3⟩
  case round =>
    clear H3
    obtain ⟨k, hk, rfl, H⟩ := hrel
    by_cases hlt : k < 4
    · go_wp2_with (at_builtin; refine app_lit rfl (.tmp 53) (.tmp 55) rfl H.out rfl [s] (by rfl) (by rfl) (by simp <;> omega) ?_; intro v4 w4 h4; have H4 := hidden h4; clear h4)
      go_roundw
      case rel => exact ⟨k + 1, by omega, by go_num, by rw [List.replicate_succ', ← List.append_assoc]; exact H4⟩
      case measure => simp [intOf]; omega
    · have hk8 : k = 4 := by omega
      subst hk8
      go_wp2
      go_ret
      exact ⟨_, rfl, by rw [He.out]; have := H.out; simpa [val, Hs.out] using this⟩

/-- zzLayElement: the element's bytes are laid behind what was there. -/
theorem lay_any (B : Nat) (w0 : World) (v : Value) (xs : List UInt8) (key : ByteArray) (s : UInt8) (w : World) (hown : Own B w0 v xs w) (hn : xs.length + key.size ≤ 4194304) :
    Calls Try.prog 5 #[v, .string key, .int .u8 s.toNat] w fun e w' => ∃ v', e = .returned v' ∧ Own B w0 v' (xs ++ enc key s) w' := by
  rcases mod8 s with h | h | h | h | h | h | h | h
  · exact lay0 B w0 v xs key s w hown hn h
  · exact lay1 B w0 v xs key s w hown hn h
  · exact lay2 B w0 v xs key s w hown hn h
  · exact lay3 B w0 v xs key s w hown hn h
  · exact lay4 B w0 v xs key s w hown hn h
  · exact lay5 B w0 v xs key s w hown hn h
  · exact lay6 B w0 v xs key s w hown hn h
  · exact lay7 B w0 v xs key s w hown hn h

end Go.Proofs.Qxb6609231a.Lay
