/-
  zzBytes over two records (8) and over a record, a number and a string (14): of the answer no more is told than that it is a truth value.
-/
import Derived.Test.Qxb6001246aModsRec
namespace Go.Proofs.Qxb6001246aMods
open Go.RowKit

set_option maxRecDepth 100000 in
set_option maxHeartbeats 8000000 in
theorem bytes8_any (w : World) (L M : Nat → ByteArray) (hL : ∀ i, (L i).size ≤ maxLen) (hM : ∀ i, (M i).size ≤ maxLen) :
    Calls Trym.prog 8 #[.agg (recd L), .agg (recd M)] w fun e w' => AnyBool e ∧ Below w.heap.size w w' := by
  unfold recd
  have b0 := hL 0
  have b1 := hL 1
  have b2 := hL 2
  have b3 := hL 3
  have b4 := hL 4
  have b5 := hL 5
  have b6 := hL 6
  have b7 := hL 7
  have b8 := hL 8
  have b9 := hL 9
  have b10 := hL 10
  have m0 := hM 0
  have m1 := hM 1
  have m2 := hM 2
  have m3 := hM 3
  have m4 := hM 4
  have m5 := hM 5
  have m6 := hM 6
  have m7 := hM 7
  have m8 := hM 8
  have m9 := hM 9
  have m10 := hM 10
  unfold maxLen at *
  clear hL hM
  go_enter Trym.func8, Trym.ntmps8
  go_wp2
  all_goals
    go_ret
    exact ⟨.mk _, ((Below.refl _ _).alloc (Nat.le_refl _) _).alloc (by simp) _⟩

set_option maxRecDepth 100000 in
set_option maxHeartbeats 4000000 in
theorem bytes14_any (w : World) (L : Nat → ByteArray) (n : Int) (s : ByteArray) (hL : ∀ i, (L i).size ≤ maxLen) (hs : s.size ≤ maxLen) :
    Calls Trym.prog 14 #[.agg (recd L), .int .i64 n, .string s] w fun e w' => AnyBool e ∧ Below w.heap.size w w' := by
  unfold recd
  have b0 := hL 0
  have b1 := hL 1
  have b2 := hL 2
  have b3 := hL 3
  have b4 := hL 4
  have b5 := hL 5
  have b6 := hL 6
  have b7 := hL 7
  have b8 := hL 8
  have b9 := hL 9
  have b10 := hL 10
  unfold maxLen at *
  clear hL
  go_enter Trym.func14, Trym.ntmps14
  go_wp2
  all_goals
    go_ret
    exact ⟨.mk _, (Below.refl _ _).alloc (Nat.le_refl _) _⟩
end Go.Proofs.Qxb6001246aMods
