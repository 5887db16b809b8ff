/-
  The walk of FnValuesInjective (3).
-/
import Derived.Test.Qxb6001246aModsEq
import Derived.Test.Qxb6001246aModsRecB
namespace Go.Proofs.Qxb6001246aMods
open Go.RowKit

set_option maxRecDepth 100000 in
set_option maxHeartbeats 2000000 in
theorem lawV_walk (w : World) (L M : Nat → ByteArray) (hL : ∀ i, (L i).size ≤ maxLen) (hM : ∀ i, (M i).size ≤ maxLen) :
    Calls Trym.prog 3 #[.agg (recd L), .agg (recd M)] w fun e w' => e = .returned (.bool true) ∧ Below w.heap.size w w' := by
  have hr0 : ((w.alloc (.cells (recd L) 23)).alloc (.cells (recd M) 23)).rowIs w.heap.size 23 11 (fun i => .string (L i)) := (recd_row w L 23).alloc _
  have hr1 : ((w.alloc (.cells (recd L) 23)).alloc (.cells (recd M) 23)).rowIs (w.heap.size + 1) 23 11 (fun i => .string (M i)) := by
    have := recd_row (w.alloc (.cells (recd L) 23)) M 23
    rwa [show (w.alloc (.cells (recd L) 23)).heap.size = w.heap.size + 1 by simp] at this
  have hb0 : Below w.heap.size w ((w.alloc (.cells (recd L) 23)).alloc (.cells (recd M) 23)) := ((Below.refl _ _).alloc (Nat.le_refl _) _).alloc (by simp) _
  have hbytes := fun w => bytes8_any w L M hL hM
  have hrb := fun w => recBytes_any w L
  have hrb' := fun w => recBytes_any w M
  have hval := fun w => values_any w L
  have hval' := fun w => values_any w M
  have heq := eq_recd L M
  unfold recd at *
  have HA := hide hr0
  have HB := hide hr1
  have HC := hide hb0
  have H1 := hide hbytes
  have H2 := hide hrb
  have H3 := hide hrb'
  have H4 := hide hval
  have H5 := hide hval'
  clear hr0 hr1 hb0 hbytes hrb hrb' hval hval' hL hM
  go_enter Trym.func3, Trym.ntmps3
  go_wp2_with fail
  refine (H1.out _).mono ?_
  rintro e w1 ⟨⟨x, rfl⟩, hb1⟩
  have ra := row_later HA.out hb1
  have rb := row_later HB.out hb1
  have rc := below_later HC.out hb1
  clear HA HB HC hb1
  cases x with
  | false =>
    go_wp2_with fail
    go_ret
    exact ⟨rfl, rc⟩
  | true =>
  obtain ⟨x0, x1, x2, x3, x4, x5, x6, x7, x8, x9, x10⟩ := cells_of_row ra
  go_wp2_with fail
  refine (H2.out _).mono ?_
  rintro e w2 ⟨t1, rfl, hb2⟩
  clear x0 x1 x2 x3 x4 x5 x6 x7 x8 x9 x10
  have ra2 := row_later ra hb2
  have rb2 := row_later rb hb2
  have rc2 := below_later rc hb2
  clear ra rb rc hb2
  by_cases ht1 : 524288 < t1
  · go_wp2_with fail
    go_ret
    exact ⟨rfl, rc2⟩
  obtain ⟨x0, x1, x2, x3, x4, x5, x6, x7, x8, x9, x10⟩ := cells_of_row rb2
  go_wp2_with fail
  refine (H3.out _).mono ?_
  rintro e w3 ⟨t2, rfl, hb3⟩
  clear x0 x1 x2 x3 x4 x5 x6 x7 x8 x9 x10
  have ra3 := row_later ra2 hb3
  have rb3 := row_later rb2 hb3
  have rc3 := below_later rc2 hb3
  clear ra2 rb2 rc2 hb3
  by_cases ht2 : 524288 < t2
  · go_wp2_with fail
    go_ret
    exact ⟨rfl, rc3⟩
  obtain ⟨x0, x1, x2, x3, x4, x5, x6, x7, x8, x9, x10⟩ := cells_of_row ra3
  go_wp2_with fail
  refine (H4.out _).mono ?_
  rintro e w4 ⟨g1, k1, rfl, ho1, hb4⟩
  clear x0 x1 x2 x3 x4 x5 x6 x7 x8 x9 x10
  have ra4 := row_later ra3 hb4
  have rb4 := row_later rb3 hb4
  have rc4 := below_later rc3 hb4
  have hg1 : g1 < w4.heap.size := (ho1.lt g1 rfl).2
  have hc1 := owned_cell ho1
  clear ra3 rb3 rc3 hb4 ho1
  obtain ⟨x0, x1, x2, x3, x4, x5, x6, x7, x8, x9, x10⟩ := cells_of_row rb4
  go_wp2_with fail
  refine (H5.out _).mono ?_
  rintro e w5 ⟨g2, k2, rfl, ho2, hb5⟩
  clear x0 x1 x2 x3 x4 x5 x6 x7 x8 x9 x10
  have ra5 := row_later ra4 hb5
  have rb5 := row_later rb4 hb5
  have rc5 := below_later rc4 hb5
  have hc2 := owned_cell ho2
  have hc1' : ∀ i, i < 11 → w5.cell? ⟨g1, i, none⟩ = some (.string (L i)) := fun i hi => (hb5.cell (p := ⟨g1, i, none⟩) hg1).trans (hc1 i hi)
  have HS := hide (fun q => sameS_any (w5.drewN q) L M g1 g2 k1 k2 hc1' hc2)
  clear ra4 rb4 rc4 hb5 ho2 hc1 hc1' hc2 hg1
  obtain ⟨x0, x1, x2, x3, x4, x5, x6, x7, x8, x9, x10⟩ := cells_of_row ra5
  obtain ⟨y0, y1, y2, y3, y4, y5, y6, y7, y8, y9, y10⟩ := cells_of_row rb5
  have hbb : (eqs L M 11 == eqs L M 11) = true := by simp
  go_wp2_with fail
  go_quiet ((go_at_call 11; exact Calls.quiet_of (HS.out _)))
  go_wp2_with fail
  go_ret
  exact ⟨rfl, below_drewN rc5 _⟩
end Go.Proofs.Qxb6001246aMods
