/-
  THE WALK of zzIsSuffix where it answers true. By an AI agent.
-/
import Derived.Test.Qxb6612801aStr
namespace Go.Proofs.Qxb6612801a.Tail
open Go.RowKit Go.MuLone

set_option maxHeartbeats 1000000 in
/-- zzIsSuffix(t, s), s a suffix of t. -/
theorem suf_any (v : Value) (p : List UInt8) (s : ByteArray) (w : World) (hv : Sl w v (p ++ s.data.toList)) (hm : p.length + s.size ≤ 4194304) :
    Calls Try.prog 11 #[v, .string s] w fun e w' => e = .returned (.bool true) ∧ ∃ n, w' = w.drewN n := by
  have hsl : (p ++ s.data.toList).length = p.length + s.size := by rw [List.length_append, ← Lib.size_eq]
  obtain ⟨ov, c, hvv⟩ : ∃ ov c, v = .slice ov (p.length + s.size) c := by
    rcases hv with ⟨rfl, h0⟩ | ⟨g, o, c, rfl, _⟩
    · have : p.length + s.size = 0 := by rw [← hsl, h0]; rfl
      exact ⟨none, 0, by rw [this]⟩
    · exact ⟨_, c, by rw [hsl]⟩
  have hat : ∀ k, k < s.size → ∃ g o, ov = some ⟨g, o, none⟩ ∧ p.length + s.size ≤ c ∧ w.cell? ⟨g, o + (p.length + k), none⟩ = some (.int .u8 ((s.data.toList.getD k 0).toNat : Int)) := by
    intro k hk
    rcases hv with ⟨_, h0⟩ | ⟨g, o, c', hv', hc', hcell⟩
    · have : p.length + s.size = 0 := by rw [← hsl, h0]; rfl
      omega
    · rw [hvv, hsl] at hv'
      injection hv' with e1 _ e3
      refine ⟨g, o, e1, by rw [hsl] at hc'; omega, ?_⟩
      rw [hcell (p.length + k) (by omega)]
      have hk' : k < s.data.toList.length := by rw [← Lib.size_eq]; exact hk
      rw [List.getElem_append_right (by omega), List.getD_eq_getElem?_getD, List.getElem?_eq_getElem hk']
      simp [cb]
  have HA := hidden hat
  subst hvv
  clear hv hsl hat
  have i1 : (p.length : Int) + s.size ≤ 4194304 := by omega
  go_enter Try.func11, Try.ntmps11
  go_wp2
  go_loopw [6] (fun i wr => ∃ k n : Nat, k ≤ s.size ∧ i = .int .i64 k ∧ wr = w.drewN n) (fun i _ => s.size - (intOf i).toNat)
  case atStart => exact ⟨0, 0, by omega, rfl, rfl⟩
  case round =>
    obtain ⟨k, n, hk, rfl, rfl⟩ := hrel
    by_cases hlt : k < s.size
    · obtain ⟨g, o, rfl, hcc, hcell⟩ := HA.out k hlt
      have hbk : s.data.toList.getD k 0 = s[k] := by
        rw [List.getD_eq_getElem?_getD, List.getElem?_eq_getElem (by rw [← Lib.size_eq]; exact hlt)]; rfl
      rw [hbk] at hcell
      clear hbk
      have i2 : (p.length : Int) + k < (p.length : Int) + s.size := by omega
      have i3 : (0 : Int) ≤ (p.length : Int) + k := by omega
      go_wp2
      go_quiet (fail)
      go_wp2
      go_roundw
      case rel => exact ⟨k + 1, _, by omega, by go_num, rfl⟩
      case measure => simp [intOf]; omega
    · go_wp2
      go_ret
      exact ⟨rfl, _, rfl⟩

end Go.Proofs.Qxb6612801a.Tail
