/-
  The walk of ZZBulkReset (12).
-/
import Derived.Test.Qxb6001055aModsReset
import Derived.Deep.QuietTactic
import Derived.BigQuiet
namespace Go.Proofs.Qxb6001055aMods
open Go.RowKit

theorem info63 : (Trym.prog.info? 63).map (fun i => (i.zero, i.size, i.bytes)) = some (some (.agg #[.int .u32 0, .int .u32 0, .int .u32 0, .int .u32 0]), 4, 16) := by kernel_rfl

/-- 'make([]bulkSet, q)' -/
theorem make_sets (q : Int) (h0 : 0 ≤ q) (h1 : q ≤ 65536) : ∃ o : Obj, ∀ w : World,
    (Instr.makeSlice 43 (.int .i64 q) (.int .i64 q)).run Trym.prog w = .ok (.slice (some ⟨w.heap.size, 0, none⟩) q.toNat q.toNat) (w.alloc o) := by
  obtain ⟨i, hi, hzz⟩ := Option.map_eq_some_iff.1 info63
  simp only [Prod.mk.injEq] at hzz
  obtain ⟨hz, hs, hb⟩ := hzz
  exact ⟨_, fun w => run_make (P := Trym.prog) w 43 63 i _ Trym.underlying43 hi hz .i64 .i64 q q (by omega) (by omega) (by rw [hb]; omega) (by omega)⟩

/-- The cells of a bulkBuffer. -/
def Fb (l : Int) (c s z : Value) (u : Int) : Nat → Value
  | 0 => .int .i64 l
  | 1 => c
  | 2 => s
  | 3 => z
  | _ => .int .i64 u

theorem row_new (w : World) (l : Int) (c s z : Value) (u : Int) : (w.alloc (.cells #[.int .i64 l, c, s, z, .int .i64 u] 45)).rowIs w.heap.size 45 5 (Fb l c s z u) :=
  World.rowIs_alloc w #[.int .i64 l, c, s, z, .int .i64 u] 45 (Fb l c s z u) fun i hi => by
    match i, hi with
    | 0, _ => rfl
    | 1, _ => rfl
    | 2, _ => rfl
    | 3, _ => rfl
    | 4, _ => rfl

theorem Wrote.behind {X Y : Nat → Prop} {w w1 w2 : World} (hb : Below w.heap.size w w1) (h : Wrote X w1 w2) (hxy : ∀ j, j < w.heap.size → X j → Y j) : Wrote Y w w2 :=
  ⟨h.os.trans hb.os, h.tape.trans hb.tape, h.output.trans hb.output, Nat.le_trans hb.size h.size, fun j hj hn =>
    (h.block j (Nat.lt_of_lt_of_le hj hb.size) (fun hx => hn (hxy j hj hx))).trans (hb.block j hj)⟩

set_option maxHeartbeats 1000000 in
theorem bulk_any (w : World) (base gc cn cc : Nat) (l ud q : Int) (vo : Option Addr) (m mc : Nat) (xs : List Value) (V : Nat → Value) (D : Nat → Ck)
    (h0 : -9223372036854775808 ≤ l) (h1 : l ≤ 9223372036854775807) (hq0 : 0 ≤ q) (hq1 : q ≤ 65536) (hcn : 0 < cn) (hcn2 : cn ≤ 16384) (hm : m ≤ 16384)
    (hch : w.rowIs gc 32 cn V) (hD : ∀ r, r < cn → Elt w 0 (V r) (D r)) (hown : w.ownsRow base 32 1 (.slice vo m mc) m xs) (hbase : base ≤ w.heap.size) (hne2 : (Value.slice vo m mc).ownBlock ≠ some gc) :
    Calls Trym.prog 12 #[.int .i64 l, .slice (some ⟨gc, 0, none⟩) cn cc, .slice vo m mc, .int .i64 q, .int .i64 ud] w fun e w' => ∃ v,
      e = .returned (.tuple #[.slice (some ⟨gc, 0, none⟩) 0 cc, v, .int .i64 0, .int .i64 0]) ∧
      w'.ownsRow base 32 1 v (m + (sel D (usual l) cn).length) (xs ++ (sel D (usual l) cn).map fun r => cut0 (V r)) ∧
      (v.ownBlock = (Value.slice vo m mc).ownBlock ∨ ∃ g, v.ownBlock = some g ∧ w.heap.size ≤ g) ∧ Wrote (fun j => (Value.slice vo m mc).ownBlock = some j ∨ j = gc) w w' := by
  obtain ⟨o, hmk⟩ := make_sets q hq0 hq1
  have hgl := hch.lt
  have hsz : (w.alloc o).heap.size = w.heap.size + 1 := by simp
  have hrow := row_new (w.alloc o) l (.slice (some ⟨gc, 0, none⟩) cn cc) (.slice vo m mc) (.slice (some ⟨w.heap.size, 0, none⟩) q.toNat q.toNat) ud
  rw [hsz] at hrow
  have hbel : Below w.heap.size w ((w.alloc o).alloc (.cells #[.int .i64 l, .slice (some ⟨gc, 0, none⟩) cn cc, .slice vo m mc, .slice (some ⟨w.heap.size, 0, none⟩) q.toNat q.toNat, .int .i64 ud] 45)) :=
    ((Below.refl _ _).alloc (Nat.le_refl _) _).alloc (by omega) _
  have hlt := fun k (hk : (Value.slice vo m mc).ownBlock = some k) => hown.lt k hk
  have H := hide (reset_any _ (w.heap.size + 1) base gc cn cc l ud (some ⟨w.heap.size, 0, none⟩) q.toNat q.toNat (.slice vo m mc) m xs V D _ h0 h1 hcn hcn2 hm hrow rfl rfl rfl rfl rfl
    ((hch.alloc _).alloc _) (fun r hr => (hD r hr).same (Same.of_below hbel)) ((hown.alloc _).alloc _) (by simp; omega) (fun e => by have := (hlt _ e).2; omega) hne2 (by omega))
  have HB := hide hbel
  clear hrow hbel hch hD hown hsz
  go_enter Trym.func12, Trym.ntmps12
  go_wp2_with fail
  refine H.out.mono ?_
  rintro e w1 ⟨rfl, v, hrow, hown, hlies, hw⟩
  have c1 := hrow.cell (i := 1) (by omega)
  have c2 := hrow.cell (i := 2) (by omega)
  have c3 := hrow.cell (i := 3) (by omega)
  have c4 := hrow.cell (i := 4) (by omega)
  simp only [Nat.reduceEqDiff, if_false, if_true] at c1 c2 c3 c4
  have HO := hide hown
  have HL := hide hlies
  have HW := hide hw
  clear hrow hown hlies hw H
  go_wp2
  go_region
  go_wp2
  refine bodyPost_ret (v := .tuple #[.slice (some ⟨gc, 0, none⟩) 0 cc, v, .int .i64 0, .int .i64 0]) (by simp [results, Trym.results12, go_sem]) rfl ⟨v, rfl, HO.out, ?_, ?_⟩
  · rcases HL.out with h | ⟨g, h, hg⟩
    · exact .inl h
    · exact .inr ⟨g, h, by simp at hg; omega⟩
  · refine (Wrote.behind HB.out HW.out fun j hj hx => ?_).drew
    rcases hx with h | h | h
    · omega
    · exact .inl h
    · exact .inr h
set_option maxHeartbeats 1000000 in
/-- No chunk in use: the spare is handed back as it came. -/
theorem bulk_zero (w : World) (cc : Nat) (l ud q : Int) (co vo : Option Addr) (m mc : Nat) (hq0 : 0 ≤ q) (hq1 : q ≤ 65536) :
    Calls Trym.prog 12 #[.int .i64 l, .slice co 0 cc, .slice vo m mc, .int .i64 q, .int .i64 ud] w fun e w' =>
      e = .returned (.tuple #[.slice co 0 cc, .slice vo m mc, .int .i64 0, .int .i64 0]) ∧ Below w.heap.size w w' := by
  obtain ⟨o, hmk⟩ := make_sets q hq0 hq1
  have hsz : (w.alloc o).heap.size = w.heap.size + 1 := by simp
  have hrow := row_new (w.alloc o) l (.slice co 0 cc) (.slice vo m mc) (.slice (some ⟨w.heap.size, 0, none⟩) q.toNat q.toNat) ud
  rw [hsz] at hrow
  have hbel : Below w.heap.size w ((w.alloc o).alloc (.cells #[.int .i64 l, .slice co 0 cc, .slice vo m mc, .slice (some ⟨w.heap.size, 0, none⟩) q.toNat q.toNat, .int .i64 ud] 45)) :=
    ((Below.refl _ _).alloc (Nat.le_refl _) _).alloc (by omega) _
  have H := hide (reset_zero _ (w.heap.size + 1) cc ud co (some ⟨w.heap.size, 0, none⟩) q.toNat q.toNat (.slice vo m mc) _ hrow rfl rfl rfl rfl)
  have HB := hide hbel
  clear hrow hbel hsz
  go_enter Trym.func12, Trym.ntmps12
  go_wp2_with fail
  refine H.out.mono ?_
  rintro e w1 ⟨rfl, hrow, hw⟩
  have c1 := hrow.cell (i := 1) (by omega)
  have c2 := hrow.cell (i := 2) (by omega)
  have c3 := hrow.cell (i := 3) (by omega)
  have c4 := hrow.cell (i := 4) (by omega)
  simp only [Nat.reduceEqDiff, if_false, if_true] at c1 c2 c3 c4
  have HW := hide hw
  clear hrow hw H
  go_wp2
  go_region
  go_wp2
  refine bodyPost_ret (v := .tuple #[.slice co 0 cc, .slice vo m mc, .int .i64 0, .int .i64 0]) (by simp [results, Trym.results12, go_sem]) rfl ⟨rfl, ?_⟩
  exact (HB.out.trans (HW.out.below (by simp; omega) (fun j hj => by omega))).drew

end Go.Proofs.Qxb6001055aMods
