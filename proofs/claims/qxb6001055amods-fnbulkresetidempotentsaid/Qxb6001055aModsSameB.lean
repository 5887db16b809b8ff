/-
  The walk of zzSameBytes (13) where the two hold the same bytes: it answers true.
-/
import Derived.Test.Qxb6001055aModsRows
import Derived.Test.Qxb6001055aModsMat
import Derived.WalkSpells
import Derived.WalkLawsBesides
import Derived.Deep.QuietTactic
import Derived.BigQuiet
namespace Go.Proofs.Qxb6001055aMods
open Go.RowKit

set_option maxHeartbeats 400000 in
theorem sameB_any (w : World) (lo lo' : Nat) (ao bo : Option Addr) (n cap cap' : Nat) (f : Nat → Int) (hn : n ≤ 140737488355328) (hV : Has w lo ao n (fun i => .int .u8 (f i))) (hU : Has w lo' bo n (fun i => .int .u8 (f i))) :
    Calls Trym.prog 13 #[.slice ao n cap, .slice bo n cap'] w fun e w' => e = .returned (.bool true) ∧ ∃ q, w' = w.drewN q := by
  have hne : ((n : Int) != (n : Int)) = false := by simp
  go_enter Trym.func13, Trym.ntmps13
  go_wp2
  go_loopw [5] (fun i wr => ∃ k : Nat, k ≤ n ∧ i = .int .i64 k ∧ ∃ q, wr = w.drewN q) (fun i _ => n - (intOf i).toNat)
  case atStart => exact ⟨0, by omega, rfl, 0, rfl⟩
  case round =>
    obtain ⟨k, hk, rfl, q, rfl⟩ := hrel
    by_cases hlt : k < n
    · obtain ⟨b, off, hao, _, hc⟩ := hV k hlt
      obtain ⟨b', off', hbo, _, hc'⟩ := hU k hlt
      have hne2 : (f k != f k) = false := by simp
      go_wp2
      go_region
      go_wp2
      subst hao hbo
      go_roundw
      case rel => exact ⟨k + 1, by omega, by go_num, q + 1, rfl⟩
      case measure => simp [intOf]; omega
    · go_wp2
      go_ret
      exact ⟨rfl, q, rfl⟩

end Go.Proofs.Qxb6001055aMods
