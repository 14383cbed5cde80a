/-
  THE EARLY WAYS OUT of FnStderrSplitWritesAgree: too many bytes. By an AI agent.
-/
import Derived.Test.Qxb6612801aSplit
namespace Go.Proofs.Qxb6612801a.LawS
open Go.RowKit Go.MuLone Tail

set_option maxHeartbeats 1000000 in
theorem walk_early (a0 a1 : Option Addr) (len0 cap0 len1 cap1 : Nat) (w : World) (hl0 : len0 ≤ maxLen) (hl1 : len1 ≤ maxLen) (hl : ¬ len0 + len1 ≤ 1048576) :
    Calls Try.prog 4 #[.slice a0 len0 cap0, .slice a1 len1 cap1] w fun e w' => e = .returned (.bool true) ∧ w' = w := by
  have cB := bytes_any a0 a1 len0 cap0 len1 cap1 w hl0 hl1
  have i0 : (len0 : Int) ≤ 9223372036854775807 := by unfold maxLen at hl0; omega
  have i1 : (len1 : Int) ≤ 9223372036854775807 := by unfold maxLen at hl1; omega
  clear hl0 hl1
  by_cases hA : (1048576 : Int) < len0
  · clear hl
    go_enter Try.func4, Try.ntmps4
    go_wp2_with fail
    refine cB.mono ?_
    rintro e w9 ⟨⟨bo, rfl⟩, rfl⟩
    cases bo
    · go_wp2
      go_ret
      exact ⟨rfl, rfl⟩
    · clear cB
      go_wp2_with fail
      go_ret
      exact ⟨rfl, rfl⟩
  · have hB : (1048576 : Int) - len0 < len1 := by omega
    clear hl
    go_enter Try.func4, Try.ntmps4
    go_wp2_with fail
    refine cB.mono ?_
    rintro e w9 ⟨⟨bo, rfl⟩, rfl⟩
    cases bo
    · go_wp2
      go_ret
      exact ⟨rfl, rfl⟩
    · clear cB
      go_wp2_with fail
      go_ret
      exact ⟨rfl, rfl⟩

end Go.Proofs.Qxb6612801a.LawS
