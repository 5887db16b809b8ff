/-
  The walk of FnFieldsScanRestoresRecord (4).
-/
import Derived.Test.Qxb6001246aModsEq
namespace Go.Proofs.Qxb6001246aMods
open Go.RowKit

theorem eqs_self (L : Nat → ByteArray) (n : Nat) : eqs L L n = true := by simp [eqs]

/-- What the loop holds behind k rounds: the first k fields of z (block Z) are written; the row of addresses stands behind it; nothing below Z has turned. -/
structure Scan (w5 : World) (Z : Nat) (L : Nat → ByteArray) (k : Nat) (wr : World) : Prop where
  row : wr.rowIs Z 27 11 (fun i => if i < k then .string (L i) else .string ⟨#[]⟩)
  ptr : wr.rowIs (Z + 1) 34 11 (fun i => .pointer (some ⟨Z, i, none⟩))
  bel : Below Z w5 wr

theorem Scan.step {w5 wr : World} {Z : Nat} {L : Nat → ByteArray} {k : Nat} (h : Scan w5 Z L k wr) : Scan w5 Z L (k + 1) (wr.setCell ⟨Z, k, none⟩ (.string (L k))) :=
  ⟨(h.row.set k _).congr fun i _ => by
      by_cases e : i = k
      · subst e
        simp
      · rw [if_neg e]
        by_cases e2 : i < k
        · rw [if_pos e2, if_pos (by omega)]
        · rw [if_neg e2, if_neg (by omega)],
    h.ptr.setOther (by show Z + 1 ≠ Z; omega) _, h.bel.setCell (Nat.le_refl _) _⟩

theorem Scan.drew {w5 wr : World} {Z : Nat} {L : Nat → ByteArray} {k : Nat} (h : Scan w5 Z L k wr) : Scan w5 Z L k wr.drew := ⟨h.row.drew, h.ptr.drew, h.bel.drew⟩

theorem zero_row (w : World) : (w.alloc (.cells #[.string ⟨#[]⟩, .string ⟨#[]⟩, .string ⟨#[]⟩, .string ⟨#[]⟩, .string ⟨#[]⟩, .string ⟨#[]⟩, .string ⟨#[]⟩, .string ⟨#[]⟩, .string ⟨#[]⟩, .string ⟨#[]⟩, .string ⟨#[]⟩] 27)).rowIs w.heap.size 27 11 (fun _ => .string ⟨#[]⟩) :=
  World.rowIs_alloc w _ 27 _ fun i hi => by
    match i, hi with
    | 0, _ => rfl
    | 1, _ => rfl
    | 2, _ => rfl
    | 3, _ => rfl
    | 4, _ => rfl
    | 5, _ => rfl
    | 6, _ => rfl
    | 7, _ => rfl
    | 8, _ => rfl
    | 9, _ => rfl
    | 10, _ => rfl

set_option maxRecDepth 100000 in
set_option maxHeartbeats 2000000 in
theorem lawS_walk (w : World) (L : Nat → ByteArray) (hL : ∀ i, (L i).size ≤ maxLen) :
    Calls Trym.prog 4 #[.agg (recd L)] w fun e w' => e = .returned (.bool true) ∧ Below w.heap.size w w' := by
  have hr0 := recd_row w L 23
  have hb0 : Below w.heap.size w (w.alloc (.cells (recd L) 23)) := (Below.refl _ _).alloc (Nat.le_refl _) _
  have hbytes := fun w => bytes12_any w L hL
  have hrb := fun w => recBytes_any w L
  have hval := fun w => values_any w L
  have heq := eq_recd L L
  rw [eqs_self] at heq
  unfold recd at *
  have HA := hide hr0
  have HC := hide hb0
  have H1 := hide hbytes
  have H2 := hide hrb
  have H4 := hide hval
  clear hr0 hb0 hbytes hrb hval hL
  go_enter Trym.func4, Trym.ntmps4
  go_wp2_with fail
  refine (H1.out _).mono ?_
  rintro e w1 ⟨⟨x, rfl⟩, hb1⟩
  have ra := row_later HA.out hb1
  have rc := below_later HC.out hb1
  clear HA HC hb1
  cases x with
  | false =>
    go_wp2_with fail
    go_ret
    exact ⟨rfl, rc⟩
  | true =>
  obtain ⟨x0, x1, x2, x3, x4, x5, x6, x7, x8, x9, x10⟩ := cells_of_row ra
  go_wp2_with fail
  refine (H2.out _).mono ?_
  rintro e w2 ⟨t1, rfl, hb2⟩
  clear x0 x1 x2 x3 x4 x5 x6 x7 x8 x9 x10
  have ra2 := row_later ra hb2
  have rc2 := below_later rc hb2
  clear ra rc hb2
  by_cases ht1 : 1048576 < t1
  · go_wp2_with fail
    go_ret
    exact ⟨rfl, rc2⟩
  obtain ⟨x0, x1, x2, x3, x4, x5, x6, x7, x8, x9, x10⟩ := cells_of_row ra2
  go_wp2_with fail
  refine (H4.out _).mono ?_
  rintro e w3 ⟨g1, k1, rfl, ho1, hb3⟩
  clear x0 x1 x2 x3 x4 x5 x6 x7 x8 x9 x10
  have ra3 := row_later ra2 hb3
  have rc3 := below_later rc2 hb3
  have hg1 : g1 < w3.heap.size := (ho1.lt g1 rfl).2
  have hc1 := owned_cell ho1
  clear ra2 rc2 hb3 ho1
  obtain ⟨w4, hw4⟩ : ∃ w4, w4 = w3.alloc (.cells #[.string ⟨#[]⟩, .string ⟨#[]⟩, .string ⟨#[]⟩, .string ⟨#[]⟩, .string ⟨#[]⟩, .string ⟨#[]⟩, .string ⟨#[]⟩, .string ⟨#[]⟩, .string ⟨#[]⟩, .string ⟨#[]⟩, .string ⟨#[]⟩] 27) := ⟨_, rfl⟩
  have hsz : w4.heap.size = w3.heap.size + 1 := by rw [hw4]; simp
  have hz4 : w4.rowIs w3.heap.size 27 11 (fun _ => .string ⟨#[]⟩) := by rw [hw4]; exact zero_row w3
  have hb34 : Below w3.heap.size w3 w4 := by rw [hw4]; exact (Below.refl _ _).alloc (Nat.le_refl _) _
  have hF := zzfields_any w4 w3.heap.size
  rw [hsz] at hF
  have HF := hide hF
  have HS := hide hsz
  clear hF hsz
  go_wp2_with fail
  rw [← hw4]
  refine HF.out.mono ?_
  rintro e w5 ⟨rfl, hp, hb5⟩
  have hz5 : w5.rowIs w3.heap.size 27 11 (fun _ => .string ⟨#[]⟩) := hz4.of_block (hb5.block _ (by omega))
  have hb35 : Below w3.heap.size w3 w5 := hb34.trans (hb5.mono (by omega))
  clear HF hw4 hz4 hb34 HS hb5
  go_wp2_with fail
  go_loopw [6] (fun i wr => ∃ k : Nat, k ≤ 11 ∧ i = .int .i64 k ∧ Scan w5 w3.heap.size L k wr) (fun i _ => 11 - (intOf i).toNat)
  case atStart => exact ⟨0, by omega, rfl, hz5.congr (fun i _ => by simp), hp, Below.refl _ _⟩
  case round =>
    obtain ⟨k, hk, rfl, hsc⟩ := hrel
    by_cases hlt : k < 11
    · have q1 := hsc.ptr.cell hlt
      have q2 : wr.cell? ⟨g1, k, none⟩ = some (.string (L k)) := (hsc.bel.cell (p := ⟨g1, k, none⟩) hg1).trans ((hb35.cell (p := ⟨g1, k, none⟩) hg1).trans (hc1 k hlt))
      have q3 := hsc.row.cell hlt
      rw [if_neg (by omega)] at q3
      have q4 := hsc.row.frozen k
      have R := hide hsc.step
      clear hsc
      go_wp2_with fail
      go_region
      go_wp2_with fail
      go_roundw
      case rel => exact ⟨k + 1, by omega, by go_num, R.out.drew⟩
      case measure => simp [intOf]; omega
    · obtain rfl : 11 = k := by omega
      have rz : wr.rowIs w3.heap.size 27 11 (fun i => .string (L i)) := hsc.row.congr (fun i hi => by rw [if_pos hi])
      have rr : wr.rowIs w.heap.size 23 11 (fun i => .string (L i)) := ra3.of_block ((hsc.bel.block _ ra3.lt).trans (hb35.block _ ra3.lt))
      have hfin : Below w.heap.size w wr := rc3.trans ((hb35.trans hsc.bel).mono rc3.size)
      have HFin := hide hfin
      obtain ⟨x0, x1, x2, x3, x4, x5, x6, x7, x8, x9, x10⟩ := cells_of_row rz
      obtain ⟨y0, y1, y2, y3, y4, y5, y6, y7, y8, y9, y10⟩ := cells_of_row rr
      clear hfin hsc rz rr
      go_wp2_with fail
      go_ret
      exact ⟨rfl, HFin.out⟩
end Go.Proofs.Qxb6001246aMods
