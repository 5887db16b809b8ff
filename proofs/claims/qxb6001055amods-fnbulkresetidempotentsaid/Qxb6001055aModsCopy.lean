/-
  The walk of zzCopyChunks (11).
-/
import Derived.Test.Qxb6001055aModsRows
import Derived.Test.Qxb6001055aModsMat
import Derived.WalkSpells
import Derived.WalkLawsBesides
import Derived.Lib.SliceRun
namespace Go.Proofs.Qxb6001055aMods
open Go.RowKit

theorem info32 : (Trym.prog.info? 32).map (fun i => (i.zero, i.size, i.bytes)) = some (some (.slice none 0 0), 1, 24) := by kernel_rfl
theorem info5 : (Trym.prog.info? 5).map (fun i => (i.zero, i.size, i.bytes)) = some (some (.int .u8 0), 1, 1) := by kernel_rfl

/-- 'make([]byte, l, c)' -/
theorem make_bytes (l c : Nat) (hlc : l ≤ c) (hc : c ≤ 140737488355328) (w : World) :
    (Instr.makeSlice 32 (.int .i64 (l : Int)) (.int .i64 (c : Int))).run Trym.prog w = .ok (.slice (some ⟨w.heap.size, 0, none⟩) l c) (w.alloc (.cells (madeCells #[.int .u8 0] c) 5)) := by
  obtain ⟨i, hi, hzz⟩ := Option.map_eq_some_iff.1 info5
  simp only [Prod.mk.injEq] at hzz
  obtain ⟨hz, hs, hb⟩ := hzz
  have hr := run_make (P := Trym.prog) w 32 5 i _ Trym.underlying32 hi hz .i64 .i64 l c (by omega) (by omega) (by rw [hb]; omega) (by omega)
  simp only [Int.toNat_natCast, hs, Nat.mul_one] at hr
  exact hr

set_option maxHeartbeats 1000000 in
theorem copy_any (w : World) (lo : Nat) (ao : Option Addr) (n cap : Nat) (V : Nat → Value) (D : Nat → Ck) (hn : n ≤ 16384) (hV : Has w lo ao n V) (hD : ∀ r, r < n → Elt w lo (V r) (D r)) (hs : ao.isNone = false) :
    Calls Trym.prog 11 #[.slice ao n cap] w fun e w' => e = .returned (.slice (some ⟨w.heap.size, 0, none⟩) n n) ∧ Cop w n D n w' := by
  have hmk := run_make_row' (P := Trym.prog) 28 32 (.slice none 0 0) 24 Trym.underlying28 info32 rfl .i64 .i64 n (by omega) (by omega)
  have hq := fun (w : World) (a : Option Addr) (n c n' c' : Nat) => Lib.run_eql_slice_nil (P := Trym.prog) w 28 32 a n c n' c' Trym.underlying28
  have hq2 := fun (w : World) (a : Option Addr) (n c n' c' : Nat) => Lib.run_eql_slice_nil (P := Trym.prog) w 32 5 a n c n' c' Trym.underlying32
  go_enter Trym.func11, Trym.ntmps11
  go_wp2
  go_loopw [4] (fun i wr => ∃ k : Nat, k ≤ n ∧ i = .int .i64 k ∧ Cop w n D k wr) (fun i _ => n - (intOf i).toNat)
  case atStart => exact ⟨0, by omega, rfl, Cop.start w n D⟩
  case round =>
    obtain ⟨k, hk, rfl, hcop⟩ := hrel
    by_cases hlt : k < n
    · obtain ⟨b, off, hao, _, hc⟩ := (hV.same (w' := wr) (Same.of_below hcop.1)) k hlt
      obtain ⟨a', hv, hnil, hl, hcc, _, hz⟩ := hD k hlt
      have hcell : wr.cell? ⟨b, off + k, none⟩ = some (.slice a' (D k).l (D k).c) := by rw [hc, hv]
      have he := hD k hlt
      cases hdn : (D k).nil with
      | true =>
        have hN : a'.isNone = true := by rw [hnil, hdn]
        have R := hide (hcop.skip he hdn)
        clear hcop hdn he hz hv hc hnil
        go_wp2
        subst hao
        go_roundw
        case rel => exact ⟨k + 1, by omega, by go_num, R.out⟩
        case measure => simp [intOf]; omega
      | false =>
        have hN : a'.isNone = false := by rw [hnil, hdn]
        have hmb := make_bytes (D k).l (D k).c hl hcc
        have hz' := hz.same (w' := wr) (Same.of_below hcop.1)
        have R := hide hcop
        have R2 := hide (fun w2 g => hcop.put (w2 := w2) (g := g) he hdn)
        have hB : w.heap.size < wr.heap.size := hcop.2.1
        clear hdn he hz hv hc hnil
        generalize (D k).l = l at *
        generalize (D k).c = c at *
        generalize (D k).z = z at *
        clear hcop
        obtain ⟨w1, rfl⟩ : ∃ w1, w1 = wr := ⟨_, rfl⟩
        go_wp2
        go_loopw [7] (fun j w2 => ∃ q : Nat, q ≤ l ∧ j = .int .i64 q ∧ Below w1.heap.size w1 w2 ∧ w2.rowIs w1.heap.size 5 c (fun i => if i < q then .int .u8 (z i) else .int .u8 0)) (fun j _ => l - (intOf j).toNat)
        case atStart => exact ⟨0, by omega, rfl, (Below.refl _ _).alloc (Nat.le_refl _) _, (World.rowIs_made _ _ _ _).congr (fun i _ => by simp)⟩
        case round =>
          obtain ⟨q, hq1, rfl, hb2, hrow⟩ := hrel
          by_cases hlt2 : q < l
          · obtain ⟨b2, off2, hao2, _, hc2⟩ := (hz'.same (w' := wr) (Same.of_below hb2)) q hlt2
            have hcc2 := hrow.cell (i := q) (by omega)
            rw [if_neg (by omega)] at hcc2
            have hff2 := hrow.frozen q
            have HR := hide hrow
            clear hrow
            go_wp2
            subst hao2
            go_roundw
            case rel =>
              refine ⟨q + 1, by omega, by go_num, hb2.setCell (Nat.le_refl _) _, (HR.out.set q _).congr fun i _ => ?_⟩
              by_cases e : i = q
              · subst e
                simp
              · rw [if_neg e]
                by_cases e2 : i < q
                · rw [if_pos e2, if_pos (by omega)]
                · rw [if_neg e2, if_neg (by omega)]
            case measure => simp [intOf]; omega
          · obtain ⟨U, hU⟩ : ∃ U, wr.rowIs w.heap.size 32 n U := by
              obtain ⟨_, _, U, h3, _⟩ := R.out
              exact ⟨U, h3.of_block (hb2.block _ hB)⟩
            have hcU := hU.cell hlt
            have hfU := hU.frozen k
            have F := hide (R2.out _ _ hb2 hrow (fun i hi => by rw [if_pos (by omega)]))
            clear hU hrow
            go_wp2
            subst hao
            go_roundw
            case rel => exact ⟨k + 1, by omega, by go_num, F.out⟩
            case measure => simp [intOf]; omega
    · go_wp2
      go_ret
      have : k = n := by omega
      subst this
      exact ⟨rfl, hcop⟩

theorem copy_nil (w : World) (n cap : Nat) : Calls Trym.prog 11 #[.slice none n cap] w fun e w' => e = .returned (.slice none 0 0) ∧ w' = w := by
  have hq := fun (w : World) (a : Option Addr) (n c n' c' : Nat) => Lib.run_eql_slice_nil (P := Trym.prog) w 28 32 a n c n' c' Trym.underlying28
  go_enter Trym.func11, Trym.ntmps11
  go_wp2
  go_ret
  exact ⟨rfl, rfl⟩

end Go.Proofs.Qxb6001055aMods
