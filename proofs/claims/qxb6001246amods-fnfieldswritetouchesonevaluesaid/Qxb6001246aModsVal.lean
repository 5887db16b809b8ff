/-
  The walks of Values (10) and sameStrings (11).
-/
import Derived.Test.Qxb6001246aModsRec
import Derived.Deep.AppendLies
import Derived.OwnWalk
import Derived.Deep.QuietTactic
import Derived.BigQuiet
import Derived.WalkSmall
namespace Go.Proofs.Qxb6001246aMods
open Go.RowKit

theorem info9 : (Trym.prog.info? 9).map (fun i => (i.zero, i.size, i.bytes)) = some (some (.string ByteArray.empty), 1, 16) := by kernel_rfl

/-- The first k strings, as cells. -/
def strs (L : Nat → ByteArray) (k : Nat) : List Value := (List.range k).map fun i => .string (L i)
theorem strs_len (L : Nat → ByteArray) (k : Nat) : (strs L k).length = k := by simp [strs]
theorem strs_succ (L : Nat → ByteArray) (k : Nat) : strs L (k + 1) = strs L k ++ [.string (L k)] := by simp [strs, List.range_succ]

/-- What the loop of Values holds behind k rounds: w2 is the world behind 'fields', B2 its first free block. -/
def Vals (w2 : World) (L : Nat → ByteArray) (k : Nat) (wr : World) (v : Value) : Prop :=
  wr.ownsRow w2.heap.size 9 1 v k (strs L k) ∧ Below w2.heap.size w2 wr ∧ (k = 0 → v = .slice none 0 0)

theorem vals_step {w2 wr w1 : World} {L : Nat → ByteArray} {k gg cap : Nat} {u : Value} {o : Obj} (hown : wr.ownsRow w2.heap.size 9 1 u k (strs L k)) (hbel : Below w2.heap.size w2 wr) (hsz : w2.heap.size ≤ wr.heap.size)
    (hown1 : w1.ownsRow w2.heap.size 9 1 (.slice (some ⟨gg, 0, none⟩) (k + 1) cap) (k + 1) (strs L k ++ [.string (L k)])) (hgrow : (wr.alloc o).grownBy w1 u.ownBlock) :
    Vals w2 L (k + 1) w1 (.slice (some ⟨gg, 0, none⟩) (k + 1) cap) :=
  ⟨by rw [strs_succ]; exact hown1, (hbel.alloc hsz _).grown hgrow (by simp; omega) (fun j hj => (hown.lt j hj).1), fun h => absurd h (Nat.succ_ne_zero k)⟩

theorem vals_form {w : World} {base n : Nat} {u : Value} {xs : List Value} (h : w.ownsRow base 9 1 u n xs) (hn : 0 < n) : ∃ g cap, u = .slice (some ⟨g, 0, none⟩) n cap := by
  rcases h.2 with ⟨_, hz⟩ | ⟨g, cap, _, hv, _⟩
  · omega
  · exact ⟨g, cap, hv⟩

theorem owns_mono {w : World} {base base' n : Nat} {u : Value} {xs : List Value} (h : w.ownsRow base 9 1 u n xs) (hb : base' ≤ base) : w.ownsRow base' 9 1 u n xs := by
  refine ⟨h.1, ?_⟩
  rcases h.2 with hz | ⟨g, cap, cur, hv, hg, r⟩
  · exact .inl hz
  · exact .inr ⟨g, cap, cur, hv, Nat.le_trans hb hg, r⟩

set_option maxRecDepth 100000 in
set_option maxHeartbeats 1000000 in
theorem values_any (w : World) (L : Nat → ByteArray) :
    Calls Trym.prog 10 #[.agg (recd L)] w fun e w' => ∃ g cap, e = .returned (.slice (some ⟨g, 0, none⟩) 11 cap) ∧ w'.ownsRow w.heap.size 9 1 (.slice (some ⟨g, 0, none⟩) 11 cap) 11 (strs L 11) ∧ Below w.heap.size w w' := by
  obtain ⟨i0, hi0, hz0, hz1, hz2⟩ := info_parts info9
  have hrow := recd_row w L 27
  have hF := fields_any (w.alloc (.cells (recd L) 27)) w.heap.size
  have hB0 : Below w.heap.size w (w.alloc (.cells (recd L) 27)) := (Below.refl _ _).alloc (Nat.le_refl _) _
  have hsz : (w.alloc (.cells (recd L) 27)).heap.size = w.heap.size + 1 := by simp
  rw [hsz] at hF
  unfold recd at *
  have HR := hide hrow
  have HF := hide hF
  have HB0 := hide hB0
  have HZ := hide hsz
  clear hrow hF hsz hB0
  go_enter Trym.func10, Trym.ntmps10
  go_wp2_with fail
  refine HF.out.mono ?_
  rintro e w2 ⟨rfl, hp, hb⟩
  have hr2 : w2.rowIs w.heap.size 27 11 (fun i => .string (L i)) := HR.out.of_block (hb.block _ (by omega))
  have hB2 : Below w.heap.size w w2 := HB0.out.trans (hb.mono (by omega))
  have hl2 : w.heap.size + 1 < w2.heap.size := hp.lt
  clear HF HR HB0 HZ hb
  go_wp2_with fail
  go_loopw [3, 8] (fun v i wr => ∃ k : Nat, k ≤ 11 ∧ i = .int .i64 k ∧ Vals w2 L k wr v) (fun _ i _ => 11 - (intOf i).toNat)
  case atStart => exact ⟨0, by omega, rfl, World.ownsRow_nil _ _ _ _, Below.refl _ _, fun _ => rfl⟩
  case round =>
    obtain ⟨k, hk, rfl, hown, hbel, hnil⟩ := hrel
    by_cases hlt : k < 11
    · have hc1 : wr.cell? ⟨w.heap.size + 1, k, none⟩ = some (.pointer (some ⟨w.heap.size, k, none⟩)) := (hbel.cell (p := ⟨w.heap.size + 1, k, none⟩) (by exact hl2)).trans (hp.cell hlt)
      have hc2 : wr.cell? ⟨w.heap.size, k, none⟩ = some (.string (L k)) := (hbel.cell (p := ⟨w.heap.size, k, none⟩) (by show w.heap.size < w2.heap.size; omega)).trans (hr2.cell hlt)
      have hsz := hbel.size
      clear hnil
      go_wp2_with (at_builtin; refine wpList_append_lies _ (by rfl) _ _ _ (by rfl) w2.heap.size 9 i0 _ 1 16 Trym.underlying26 hi0 hz0 hz1 hz2 rfl (by omega) u3 k (strs L k) (by rfl) (hown.alloc _) ⟨wr.heap.size, 0, none⟩ 1 1 [.string (L k)] (by rfl) (by rfl) (World.news_of_block (cs := #[.string (L k)]) (t := 9) (fr := (0, 0)) (heap_alloc_new wr _)) (by simp [Value.oneCell']) (by omega) (by unfold maxLen; omega) (by omega) (by simp; omega) (wr.heap.size + 1) (by simp) ?_; intro gg cap w1 hown1 hgrow hat hlt1)
      have hV := vals_step hown hbel hsz hown1 hgrow
      go_roundw
      case rel => exact ⟨k + 1, by omega, by go_num, hV⟩
      case measure => simp [intOf]; omega
    · obtain rfl : 11 = k := by omega
      obtain ⟨g, cap, hv⟩ := vals_form hown (by omega)
      have hfin : wr.ownsRow w.heap.size 9 1 (.slice (some ⟨g, 0, none⟩) 11 cap) 11 (strs L 11) := by
        rw [← hv]
        exact owns_mono hown (by omega)
      have HV := hide hv
      have HFin := hide (And.intro hfin (hB2.trans (hbel.mono (by omega))))
      clear hv hfin
      go_wp2_with fail
      go_ret
      exact ⟨g, cap, by rw [← HV.out]; rfl, HFin.out⟩
theorem owned_cell {w : World} {base g cap : Nat} {L : Nat → ByteArray} (h : w.ownsRow base 9 1 (.slice (some ⟨g, 0, none⟩) 11 cap) 11 (strs L 11)) : ∀ i, i < 11 → w.cell? ⟨g, i, none⟩ = some (.string (L i)) := by
  intro i hi
  rw [World.ownsRow.cellAt h i (by omega)]
  simp [strs, hi]

/-- Do the first k strings agree? -/
def eqs (L M : Nat → ByteArray) (k : Nat) : Bool := (List.range k).all fun i => (L i).toList == (M i).toList
theorem eqs_succ {L M : Nat → ByteArray} {k : Nat} (h : eqs L M k = true) (h2 : (!(L k).toList == (M k).toList) = false) : eqs L M (k + 1) = true := by
  unfold eqs at *
  rw [List.range_succ, List.all_append, h]
  simpa using h2
theorem eqs_no {L M : Nat → ByteArray} {k n : Nat} (hk : k < n) (h2 : (!(L k).toList == (M k).toList) = true) : eqs L M n = false := by
  unfold eqs
  rw [List.all_eq_false]
  exact ⟨k, List.mem_range.2 hk, by simpa using h2⟩

set_option maxHeartbeats 1000000 in
theorem sameS_any (w : World) (L M : Nat → ByteArray) (g h cap cap' : Nat) (hg : ∀ i, i < 11 → w.cell? ⟨g, i, none⟩ = some (.string (L i))) (hh : ∀ i, i < 11 → w.cell? ⟨h, i, none⟩ = some (.string (M i))) :
    Calls Trym.prog 11 #[.slice (some ⟨g, 0, none⟩) 11 cap, .slice (some ⟨h, 0, none⟩) 11 cap'] w fun e w' => e = .returned (.bool (eqs L M 11)) ∧ ∃ q, w' = w.drewN q := by
  go_enter Trym.func11, Trym.ntmps11
  go_wp2
  go_loopw [5] (fun i wr => ∃ k : Nat, k ≤ 11 ∧ i = .int .i64 k ∧ eqs L M k = true ∧ ∃ q, wr = w.drewN q) (fun i _ => 11 - (intOf i).toNat)
  case atStart => exact ⟨0, by omega, rfl, rfl, 0, rfl⟩
  case round =>
    obtain ⟨k, hk, rfl, heq, q, rfl⟩ := hrel
    have HE := hide heq
    clear heq
    by_cases hlt : k < 11
    · have hc := hg k hlt
      have hc' := hh k hlt
      go_wp2
      go_region
      go_wp2
      · have hne : (!(L k).toList == (M k).toList) = true := by assumption
        go_ret
        exact ⟨by rw [eqs_no hlt hne]; rfl, q + 1, rfl⟩
      · have heq : (!(L k).toList == (M k).toList) = false := by assumption
        go_roundw
        case rel => exact ⟨k + 1, by omega, by go_num, eqs_succ HE.out heq, q + 1, rfl⟩
        case measure => simp [intOf]; omega
    · obtain rfl : 11 = k := by omega
      go_wp2
      go_ret
      exact ⟨by rw [HE.out]; rfl, q, rfl⟩
end Go.Proofs.Qxb6001246aMods
