/-
  The walk of FnFieldsWriteTouchesOneValue (5).
-/
import Derived.Test.Qxb6001246aModsEq
import Derived.Test.Qxb6001246aModsRecB
namespace Go.Proofs.Qxb6001246aMods
open Go.RowKit

set_option maxRecDepth 100000 in
set_option maxHeartbeats 2000000 in
theorem lawW_walk (w : World) (L : Nat → ByteArray) (i : Int) (s : ByteArray) (hL : ∀ i, (L i).size ≤ maxLen) (_hi : (Lit.int .i64 i).wf = true) (hs : s.size ≤ maxLen) :
    Calls Trym.prog 5 #[.agg (recd L), .int .i64 i, .string s] w fun e w' => e = .returned (.bool true) ∧ Below w.heap.size w w' := by
  have hr0 := recd_row w L 23
  have hb0 : Below w.heap.size w (w.alloc (.cells (recd L) 23)) := (Below.refl _ _).alloc (Nat.le_refl _) _
  have hbytes := fun w => bytes14_any w L i s hL hs
  have hrb := fun w => recBytes_any w L
  have hval := fun w => values_any w L
  have hval2 := fun w L => values_any w L
  have hnew := fun w => recd_row w L 27
  unfold recd at *
  have HA := hide hr0
  have HC := hide hb0
  have H1 := hide hbytes
  have H2 := hide hrb
  have H4 := hide hval
  have H5 := hide hval2
  have H6 := hide hnew
  clear hr0 hb0 hbytes hrb hval hL hval2 hnew
  unfold maxLen at hs
  go_enter Trym.func5, Trym.ntmps5
  go_wp2_with fail
  refine (H1.out _).mono ?_
  rintro e w1 ⟨⟨x, rfl⟩, hb1⟩
  have ra := row_later HA.out hb1
  have rc := below_later HC.out hb1
  clear HA HC hb1
  cases x with
  | false =>
    go_wp2_with fail
    go_ret
    exact ⟨rfl, rc⟩
  | true =>
  obtain ⟨x0, x1, x2, x3, x4, x5, x6, x7, x8, x9, x10⟩ := cells_of_row ra
  go_wp2_with fail
  refine (H2.out _).mono ?_
  rintro e w2 ⟨t1, rfl, hb2⟩
  clear x0 x1 x2 x3 x4 x5 x6 x7 x8 x9 x10
  have ra2 := row_later ra hb2
  have rc2 := below_later rc hb2
  clear ra rc hb2
  by_cases ht1 : 524288 < t1
  · go_wp2_with fail
    go_ret
    exact ⟨rfl, rc2⟩
  by_cases ht2 : 524288 < (s.size : Int)
  · go_wp2_with fail
    go_ret
    exact ⟨rfl, rc2⟩
  by_cases hi0 : i < 0
  · go_wp2_with fail
    go_ret
    exact ⟨rfl, rc2⟩
  by_cases hi1 : 10 < i
  · go_wp2_with fail
    go_ret
    exact ⟨rfl, rc2⟩
  obtain ⟨n, rfl⟩ := Int.eq_ofNat_of_zero_le (Int.not_lt.1 hi0)
  have hn : n < 11 := by omega
  obtain ⟨x0, x1, x2, x3, x4, x5, x6, x7, x8, x9, x10⟩ := cells_of_row ra2
  go_wp2_with fail
  refine (H4.out _).mono ?_
  rintro e w3 ⟨g1, k1, rfl, ho1, hb3⟩
  clear x0 x1 x2 x3 x4 x5 x6 x7 x8 x9 x10
  have ra3 := row_later ra2 hb3
  have rc3 := below_later rc2 hb3
  have hg1 : g1 < w3.heap.size := (ho1.lt g1 rfl).2
  have hc1 := owned_cell ho1
  clear ra2 rc2 hb3 ho1
  obtain ⟨w4, hw4⟩ : ∃ w4, w4 = w3.alloc (.cells #[.string (L 0), .string (L 1), .string (L 2), .string (L 3), .string (L 4), .string (L 5), .string (L 6), .string (L 7), .string (L 8), .string (L 9), .string (L 10)] 27) := ⟨_, rfl⟩
  have hsz : w4.heap.size = w3.heap.size + 1 := by rw [hw4]; simp
  have hz4 : w4.rowIs w3.heap.size 27 11 (fun i => .string (L i)) := by rw [hw4]; exact H6.out w3
  have hb34 : Below w3.heap.size w3 w4 := by rw [hw4]; exact (Below.refl _ _).alloc (Nat.le_refl _) _
  have hF := zzfields_any w4 w3.heap.size
  rw [hsz] at hF
  have HF := hide hF
  have HS := hide hsz
  have HW := hide hw4
  clear hF hsz H6 hw4
  obtain ⟨x0, x1, x2, x3, x4, x5, x6, x7, x8, x9, x10⟩ := cells_of_row ra3
  go_wp2_with fail
  rw [← HW.out]
  refine HF.out.mono ?_
  rintro e w5 ⟨rfl, hp, hb5⟩
  clear x0 x1 x2 x3 x4 x5 x6 x7 x8 x9 x10
  have hz5 : w5.rowIs w3.heap.size 27 11 (fun i => .string (L i)) := hz4.of_block (hb5.block _ (by have := HS.out; omega))
  have hb35 : Below w3.heap.size w3 w5 := hb34.trans (hb5.mono (by have := HS.out; omega))
  clear HF HW hz4 hb34 HS hb5
  have q1 := hp.cell hn
  have q3 := hz5.cell hn
  have q4 := hz5.frozen n
  have hset : ∃ M : Nat → ByteArray, M n = s ∧ (∀ j, j ≠ n → M j = L j) ∧ (w5.setCell ⟨w3.heap.size, n, none⟩ (.string s)).rowIs w3.heap.size 27 11 (fun i => .string (M i)) :=
    ⟨fun j => if j = n then s else L j, by simp, fun j hj => by simp [hj], (hz5.set n (.string s)).congr fun i _ => by by_cases e : i = n <;> simp [e]⟩
  have hbs : Below w3.heap.size w3 (w5.setCell ⟨w3.heap.size, n, none⟩ (.string s)) := hb35.setCell (Nat.le_refl _) _
  obtain ⟨M, hMn, hMj, hrow⟩ := hset
  have HM := hide (And.intro hMn hMj)
  clear hMn hMj hz5 hp
  obtain ⟨x0, x1, x2, x3, x4, x5, x6, x7, x8, x9, x10⟩ := cells_of_row hrow
  go_wp2_with fail
  refine (H5.out _ M).mono ?_
  rintro e w6 ⟨g2, k2, rfl, ho2, hb6⟩
  clear x0 x1 x2 x3 x4 x5 x6 x7 x8 x9 x10
  have hc2 := owned_cell ho2
  have hb36 : Below w3.heap.size w3 w6 := hbs.trans (hb6.mono hbs.size)
  have hc1' : ∀ j, j < 11 → w6.cell? ⟨g1, j, none⟩ = some (.string (L j)) := fun j hj => (hb36.cell (p := ⟨g1, j, none⟩) hg1).trans (hc1 j hj)
  have HC1 := hide hc1'
  have HC2 := hide hc2
  have HB := hide (rc3.trans (hb36.mono rc3.size))
  clear hc1 hc1' hc2 hb36 hb6 hbs ho2 hrow q1 q3 q4 hb35 H1 H2 H4 H5 ra3 rc3
  go_wp2_with fail
  go_loopw [11] (fun j wr => ∃ k : Nat, k ≤ 11 ∧ j = .int .i64 k ∧ ∃ dq, wr = w6.drewN dq) (fun j _ => 11 - (intOf j).toNat)
  case atStart => exact ⟨0, by omega, rfl, 0, rfl⟩
  case round =>
    obtain ⟨k, hk, rfl, dq, rfl⟩ := hrel
    by_cases hlt : k < 11
    · by_cases hkn : k = n
      · have heq : ((k : Int) == (n : Int)) = true := by simp [hkn]
        have c2 : w6.cell? ⟨g2, k, none⟩ = some (.string s) := by rw [HC2.out k hlt, hkn, HM.out.1]
        have hss : (s.toList == s.toList) = true := by simp
        clear hkn
        go_wp2_with fail
        go_roundw
        case rel => exact ⟨k + 1, by omega, by go_num, dq, rfl⟩
        case measure => simp [intOf]; omega
      · have heq : ((k : Int) == (n : Int)) = false := by simp; omega
        have c2 : w6.cell? ⟨g2, k, none⟩ = some (.string (L k)) := by rw [HC2.out k hlt, HM.out.2 k hkn]
        have c1 := HC1.out k hlt
        have hss : ((L k).toList == (L k).toList) = true := by simp
        clear hkn
        go_wp2_with fail
        go_region
        go_wp2_with fail
        go_roundw
        case rel => exact ⟨k + 1, by omega, by go_num, dq + 1, rfl⟩
        case measure => simp [intOf]; omega
    · go_wp2_with fail
      go_ret
      exact ⟨rfl, below_drewN HB.out dq⟩
end Go.Proofs.Qxb6001246aMods
