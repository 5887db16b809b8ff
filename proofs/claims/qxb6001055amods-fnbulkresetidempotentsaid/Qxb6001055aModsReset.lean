/-
  The walks of chunkSize (20), reset (19) and ZZBulkReset (12).
-/
import Derived.Test.Qxb6001055aModsRows
import Derived.Test.Qxb6001055aModsRst
import Derived.WalkSpells
import Derived.WalkLawsBesides
import Derived.Lib.SliceRun
import Derived.Deep.AppendLies
import Derived.Deep.RegionLaw
import Derived.BigRegion
import Derived.OwnWalk
namespace Go.Proofs.Qxb6001055aMods
open Go.RowKit

theorem inf32 : (Trym.prog.info? 32).map (fun i => (i.zero, i.size, i.bytes)) = some (some (.slice none 0 0), 1, 24) := by kernel_rfl

theorem add_zero (a : Addr) : a.add 0 = a := by
  unfold Addr.add
  split <;> simp_all
/-- 'x[:0]' -/
theorem run_cut0 {t e : TypeId} {s : Nat} (h : Trym.prog.underlying t = some (.slice e)) (hs : ∀ w, (sizeOf e).run Trym.prog w = .ok s w) (a : Option Addr) (l c : Nat) (w : World) :
    (Instr.slice t (.slice a l c) none (some (.int .i64 0)) none).run Trym.prog w = .ok (.slice a 0 c) w := by
  have := add_zero
  cases a <;> simp [go_sem, h, hs]
theorem size5 (w : World) : (sizeOf 5).run Trym.prog w = .ok 1 w := by kernel_rfl
theorem size32 (w : World) : (sizeOf 32).run Trym.prog w = .ok 1 w := by kernel_rfl
theorem size63 (w : World) : (sizeOf 63).run Trym.prog w = .ok 4 w := by kernel_rfl
theorem zero32 (w : World) : (zeroValue 32).run Trym.prog w = .ok (.slice none 0 0) w := by kernel_rfl

/-- The usual size of a chunk. -/
def usual (l : Int) : Int := if 1048576 < l.tdiv 8 then 1048576 else l.tdiv 8

set_option maxHeartbeats 400000 in
theorem size_any (w : World) (sb : Nat) (l : Int) (h0 : -9223372036854775808 ≤ l) (h1 : l ≤ 9223372036854775807) (hc : w.cell? ⟨sb, 0, none⟩ = some (.int .i64 l)) :
    Calls Trym.prog 20 #[.pointer (some ⟨sb, 0, none⟩)] w fun e w' => e = .returned (.int .i64 (usual l)) ∧ w = w' := by
  go_enter Trym.func20, Trym.ntmps20
  go_wp2
  · have h : l.tdiv 8 < 1048576 := by assumption
    go_ret
    exact ⟨by unfold usual; rw [if_neg (by omega)]; rfl, rfl⟩
  · have h : 1048576 ≤ l.tdiv 8 := by assumption
    go_ret
    refine ⟨?_, rfl⟩
    unfold usual
    by_cases e : 1048576 < l.tdiv 8
    · rw [if_pos e]; rfl
    · rw [if_neg e, show l.tdiv 8 = 1048576 by omega]; rfl

theorem frz {wr w1 : World} {o : Obj} {sb : Nat} {row : Option Nat} (hg : (wr.alloc o).drew.grownBy w1 row) (hap : row ≠ some sb) (hsb : sb < wr.heap.size) (h : wr.frozen? ⟨sb, 2, none⟩ = false) : w1.frozen? ⟨sb, 2, none⟩ = false := by
  rw [hg.frozen_far ⟨sb, 2, none⟩ (by show sb < (wr.alloc o).heap.size; simp; omega) (Ne.symm hap)]
  show (wr.alloc o).frozen? ⟨sb, 2, none⟩ = false
  rw [World.frozen?_of_block (w := wr) (Below.heap_alloc wr o sb hsb)]
  exact h
theorem clz {wr w1 : World} {o : Obj} {sb : Nat} {row : Option Nat} {v : Value} (hg : (wr.alloc o).drew.grownBy w1 row) (hap : row ≠ some sb) (hsb : sb < wr.heap.size) (h : wr.cell? ⟨sb, 2, none⟩ = some v) : w1.cell? ⟨sb, 2, none⟩ = some v := by
  rw [hg.cell_far ⟨sb, 2, none⟩ (by show sb < (wr.alloc o).heap.size; simp; omega) (Ne.symm hap)]
  show (wr.alloc o).cell? ⟨sb, 2, none⟩ = some v
  rw [World.cell?_of_block (w := wr) (Below.heap_alloc wr o sb hsb)]
  exact h

theorem grown_alloc {w w1 : World} {o : Obj} {row : Option Nat} (h : (w.alloc o).drew.grownBy w1 row) : w.grownBy w1 row :=
  ⟨h.os, h.tape, h.output, Nat.le_trans (by show w.heap.size ≤ (w.alloc o).heap.size; simp) h.size, fun k hk hn => (h.block k (by show k < (w.alloc o).heap.size; simp; omega) hn).trans (Below.heap_alloc w o k hk)⟩

set_option maxHeartbeats 1000000 in
theorem reset_any (w : World) (sb base gc cn cc : Nat) (l ud : Int) (so : Option Addr) (sn sc : Nat) (vs : Value) (m : Nat) (xs : List Value) (V : Nat → Value) (D : Nat → Ck) (F : Nat → Value)
    (h0 : -9223372036854775808 ≤ l) (h1 : l ≤ 9223372036854775807) (hcn : 0 < cn) (hcn2 : cn ≤ 16384) (hm : m ≤ 16384)
    (hrow : w.rowIs sb 45 5 F) (hF0 : F 0 = .int .i64 l) (hF1 : F 1 = .slice (some ⟨gc, 0, none⟩) cn cc) (hF2 : F 2 = vs) (hF3 : F 3 = .slice so sn sc) (hF4 : F 4 = .int .i64 ud)
    (hch : w.rowIs gc 32 cn V) (hD : ∀ r, r < cn → Elt w 0 (V r) (D r)) (hown : w.ownsRow base 32 1 vs m xs) (hbase : base ≤ w.heap.size)
    (hne1 : vs.ownBlock ≠ some sb) (hne2 : vs.ownBlock ≠ some gc) (hne3 : gc ≠ sb) :
    Calls Trym.prog 19 #[.pointer (some ⟨sb, 0, none⟩)] w fun e w' => e = .returned (.tuple #[]) ∧ ∃ v,
      w'.rowIs sb 45 5 (fun i => if i = 0 then .int .i64 l else if i = 1 then .slice (some ⟨gc, 0, none⟩) 0 cc else if i = 2 then v else if i = 3 then .slice so 0 sc else .int .i64 0) ∧
      w'.ownsRow base 32 1 v (m + (sel D (usual l) cn).length) (xs ++ (sel D (usual l) cn).map fun r => cut0 (V r)) ∧
      (v.ownBlock = vs.ownBlock ∨ ∃ g, v.ownBlock = some g ∧ w.heap.size ≤ g) ∧ Wrote (fun j => j = sb ∨ vs.ownBlock = some j ∨ j = gc) w w' := by
  obtain ⟨i0, hi0, hz0, hz1, hz2⟩ := info_parts inf32
  have hsb := hrow.lt
  have hgl := hch.lt
  have hc1 := hrow.cell (i := 1) (by omega)
  rw [hF1] at hc1
  have R0 := hide (Rst.start (V := V) (D := D) (u := usual l) hrow hF2 hown)
  clear hown
  go_enter Trym.func19, Trym.ntmps19
  go_wp2
  go_loopw [9] (fun i wr => ∃ k : Nat, ∃ v : Value, k ≤ cn ∧ i = .int .i64 k ∧ Rst w sb base F vs m xs V D (usual l) k wr v) (fun i _ => cn - (intOf i).toNat)
  case atStart => exact ⟨0, vs, by omega, rfl, R0.out⟩
  case round =>
    obtain ⟨k, v, hk, rfl, hR⟩ := hrel
    by_cases hlt : k < cn
    · obtain ⟨a', hv, hnil, hl, hcc, _, hz⟩ := hD k hlt
      have hcell : wr.cell? ⟨gc, k, none⟩ = some (.slice a' (D k).l (D k).c) := by
        rw [← hv, ← hch.cell hlt]
        exact World.cell?_of_block (w := w) (hR.wrote.block gc hgl (fun h => by rcases h with h | h; exact hne3 h; exact hne2 h))
      have q0 := hR.row.cell (i := 0) (by omega)
      have q2 := hR.row.cell (i := 2) (by omega)
      have f2 := hR.row.frozen 2
      simp only [hF0, Nat.reduceEqDiff, if_false, if_true] at q0 q2
      cases hhit : (((D k).c : Int) == usual l) with
      | false =>
        have R := hide (hR.miss hhit)
        clear hR hz hnil
        go_wp2_with (go_at_call 20; refine (size_any _ sb l h0 h1 q0).mono ?_; rintro e w' ⟨rfl, rfl⟩)
        go_roundw
        case rel => exact ⟨k + 1, v, by omega, by go_num, R.out⟩
        case measure => simp [intOf]; omega
      | true =>
        have hRO := hR.own
        have hsel := sel_le D (usual l) k
        have hap := hR.apart hsb hne1
        have hwsz := hR.wrote.size
        have R := hide (fun w1 g cap => hR.hit (w1 := w1) (g := g) (cap := cap) hhit hsb hne1)
        have hcut := run_cut0 Trym.underlying32 size5 a' (D k).l (D k).c
        have hcv : cut0 (V k) = .slice a' 0 (D k).c := by rw [hv]; rfl
        rw [hcv] at R
        generalize (sel D (usual l) k).length = sl at *
        generalize xs ++ (sel D (usual l) k).map (fun r => cut0 (V r)) = ys at *
        go_wp2_with (go_at_call 20; refine (size_any _ sb l h0 h1 q0).mono ?_; rintro e w' ⟨rfl, rfl⟩)
        clear hR hnil hz hcell hv hcv hhit q0
        have hsbr : sb < wr.heap.size := by omega
        have F2 := hide f2
        clear f2
        go_region_law ((refine step_append_lies _ (by rfl) _ _ _ (by rfl) base 32 i0 _ 1 24 Trym.underlying28 hi0 hz0 hz1 hz2 rfl (by omega) v (m + sl) ys (by rfl) ((hRO.alloc _).drew) ⟨wr.heap.size, 0, none⟩ 1 1 [.slice a' 0 (D k).c] (by rfl) (by rfl) (World.news_of_block (cs := #[.slice a' 0 (D k).c]) (t := 32) (fr := (0, 0)) (heap_alloc_new wr _)) (by simp [Value.oneCell']) (by omega) (by unfold maxLen; omega) (by omega) (by simp; omega) (wr.heap.size + 1) (by simp) ?_; intro gg cap w1 hown1 hgrow hat hlt1; have hf1 := frz hgrow hap hsbr F2.out; have hc1 := clz hgrow hap hsbr q2))
        all_goals
          go_wp2
          go_roundw
          case rel => exact ⟨k + 1, _, by omega, by go_num, R.out w1 gg cap (grown_alloc hgrow) (by rcases hat with h | h; exact .inl h; exact .inr (by omega)) hown1⟩
          case measure => simp [intOf]; omega
    · have hkc : k = cn := by omega
      subst hkc
      have hap := hR.apart hsb hne1
      have r1 := hR.row.cell (i := 1) (by omega)
      simp only [hF1, Nat.reduceEqDiff, if_false] at r1
      have hgr : wr.rowIs gc 32 k V := hch.of_block (hR.wrote.block gc hgl (fun h => by rcases h with h | h; exact hne3 h; exact hne2 h))
      have hcl : ∀ ty, (Builtin.clear_ #[28] ty #[.slice (some ⟨gc, 0, none⟩) k cc]).run Trym.prog wr = .ok (.tuple #[]) (wr.setCells gc 0 (List.replicate k (.slice none 0 0))) :=
        fun ty => Lib.run_clear_slice wr 28 32 ty _ Trym.underlying28 zero32 rfl rfl gc 0 k cc hcn (fun j hj => by rw [Nat.zero_add, hgr.cell hj]; rfl) (fun j hj => by rw [Nat.zero_add]; exact hgr.frozen j)
      have hR2 := hR.cleared (n := k) (gc := gc) hne3 (fun h => by
        rcases hR.lies with e | ⟨g, e, hg⟩
        · rw [e] at h; exact hne2 h
        · rw [e] at h; simp only [Option.some.injEq] at h; omega)
      clear hgr hR
      generalize wr.setCells gc 0 (List.replicate k (.slice none 0 0)) = wc at hcl hR2
      have c1 := hR2.row.cell (i := 1) (by omega)
      have c3 := hR2.row.cell (i := 3) (by omega)
      have c4 := hR2.row.cell (i := 4) (by omega)
      simp only [hF1, hF3, hF4, Nat.reduceEqDiff, if_false] at c1 c3 c4
      have f1 := hR2.row.frozen 1
      have f3 := hR2.row.frozen 3
      have f4 := hR2.row.frozen 4
      have k1 := run_cut0 Trym.underlying28 size32 (some ⟨gc, 0, none⟩) k cc
      have k3 := run_cut0 Trym.underlying43 size63 so sn sc
      have R2 := hide (hR2.done (c1 := .slice (some ⟨gc, 0, none⟩) 0 cc) (c3 := .slice so 0 sc) (c4 := .int .i64 0) hap)
      rw [hF0] at R2
      clear hR2 hrow R0 hF0 hF1 hF2 hF3 hF4 hch hD
      go_wp2
      go_end0
      exact ⟨rfl, v, R2.out⟩
/-- No chunk in use: nothing is appended, nothing is cleared. -/
theorem reset_zero (w : World) (sb cc : Nat) (ud : Int) (co so : Option Addr) (sn sc : Nat) (vs : Value) (F : Nat → Value)
    (hrow : w.rowIs sb 45 5 F) (hF1 : F 1 = .slice co 0 cc) (hF2 : F 2 = vs) (hF3 : F 3 = .slice so sn sc) (hF4 : F 4 = .int .i64 ud) :
    Calls Trym.prog 19 #[.pointer (some ⟨sb, 0, none⟩)] w fun e w' => e = .returned (.tuple #[]) ∧
      w'.rowIs sb 45 5 (fun i => if i = 0 then F 0 else if i = 1 then .slice co 0 cc else if i = 2 then vs else if i = 3 then .slice so 0 sc else .int .i64 0) ∧ Wrote (fun j => j = sb) w w' := by
  have c1 := hrow.cell (i := 1) (by omega)
  have c3 := hrow.cell (i := 3) (by omega)
  have c4 := hrow.cell (i := 4) (by omega)
  rw [hF1] at c1
  rw [hF3] at c3
  rw [hF4] at c4
  have f1 := hrow.frozen 1
  have f3 := hrow.frozen 3
  have f4 := hrow.frozen 4
  have k1 := run_cut0 Trym.underlying28 size32 co 0 cc
  have k3 := run_cut0 Trym.underlying43 size63 so sn sc
  have hcl : ∀ ty (w : World), (Builtin.clear_ #[28] ty #[.slice co 0 cc]).run Trym.prog w = .ok (.tuple #[]) w := fun ty w => by
    cases co <;> simp [Builtin.clear_, run_underlying Trym.underlying28]
  have hd : (((w.setCell ⟨sb, 1, none⟩ (.slice co 0 cc)).setCell ⟨sb, 3, none⟩ (.slice so 0 sc)).setCell ⟨sb, 4, none⟩ (.int .i64 0)).rowIs sb 45 5 (fun i => if i = 0 then F 0 else if i = 1 then .slice co 0 cc else if i = 2 then vs else if i = 3 then .slice so 0 sc else .int .i64 0) :=
    (((hrow.set 1 _).set 3 _).set 4 _).congr fun i hi => by
      match i, hi with
      | 0, _ => simp
      | 1, _ => simp
      | 2, _ => simp [hF2]
      | 3, _ => simp
      | 4, _ => simp
  have hw : Wrote (fun j => j = sb) w (((w.setCell ⟨sb, 1, none⟩ (.slice co 0 cc)).setCell ⟨sb, 3, none⟩ (.slice so 0 sc)).setCell ⟨sb, 4, none⟩ (.int .i64 0)) :=
    Wrote.setCell (X := fun j => j = sb) (Wrote.setCell (X := fun j => j = sb) (Wrote.setCell (X := fun j => j = sb) (Wrote.refl (fun j => j = sb) w) (a := ⟨sb, 1, none⟩) (fun _ => rfl) _) (a := ⟨sb, 3, none⟩) (fun _ => rfl) _) (a := ⟨sb, 4, none⟩) (fun _ => rfl) _
  have Hd := hide (And.intro hd hw)
  clear hd hw hrow hF1 hF2 hF3 hF4
  go_enter Trym.func19, Trym.ntmps19
  go_wp2
  refine wp_loop_rounds 1 ?_
  rw [rounds_succ]
  go_wp2
  go_end0
  exact ⟨rfl, Hd.out⟩

end Go.Proofs.Qxb6001055aMods
