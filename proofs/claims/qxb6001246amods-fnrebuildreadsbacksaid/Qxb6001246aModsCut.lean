/-
  The walk of splitLines (17).
-/
import Derived.Test.Qxb6001246aModsStr
import Derived.Deep.AppendLies
import Derived.OwnWalk
namespace Go.Proofs.Qxb6001246aMods
open Go.RowKit

theorem inf9 : (Trym.prog.info? 9).map (fun i => (i.zero, i.size, i.bytes)) = some (some (.string ByteArray.empty), 1, 16) := by kernel_rfl

/-- What the loop holds behind k bytes. -/
def Cut (w : World) (s : ByteArray) (k : Nat) (wr : World) (v : Value) : Prop :=
  wr.ownsRow w.heap.size 9 1 v (cutTo s k).1.length ((cutTo s k).1.map .string) ∧ Below w.heap.size w wr

theorem Cut.miss {w wr : World} {s : ByteArray} {k : Nat} {v : Value} (h : Cut w s k wr v) (hm : nlAt s k = false) : Cut w s (k + 1) wr v := by
  unfold Cut
  rw [cutTo_miss hm]
  exact h

theorem owns_step {w wr w1 : World} {n gg cap : Nat} {u : Value} {o : Obj} {xs ys : List Value} (hown : wr.ownsRow w.heap.size 9 1 u n xs) (hbel : Below w.heap.size w wr)
    (hown1 : w1.ownsRow w.heap.size 9 1 (.slice (some ⟨gg, 0, none⟩) (n + 1) cap) (n + 1) ys) (hgrow : (wr.alloc o).grownBy w1 u.ownBlock) :
    w1.ownsRow w.heap.size 9 1 (.slice (some ⟨gg, 0, none⟩) (n + 1) cap) (n + 1) ys ∧ Below w.heap.size w w1 :=
  ⟨hown1, (hbel.alloc hbel.size _).grown hgrow (by have := hbel.size; simp; omega) (fun j hj => (hown.lt j hj).1)⟩

set_option maxRecDepth 100000 in
set_option maxHeartbeats 1000000 in
theorem split_any (w : World) (s : ByteArray) (hs : s.size ≤ 16777216) :
    Calls Trym.prog 17 #[.string s] w fun e w' => ∃ g cap, e = .returned (.slice (some ⟨g, 0, none⟩) (splitL s).length cap) ∧ w'.ownsRow w.heap.size 9 1 (.slice (some ⟨g, 0, none⟩) (splitL s).length cap) (splitL s).length ((splitL s).map .string) ∧ Below w.heap.size w w' := by
  obtain ⟨i0, hi0, hz0, hz1, hz2⟩ := info_parts inf9
  go_enter Trym.func17, Trym.ntmps17
  go_wp2_with fail
  go_loopw [3, 4, 5] (fun v t i wr => ∃ k : Nat, k ≤ s.size ∧ i = .int .i64 k ∧ t = .int .i64 ((cutTo s k).2 : Nat) ∧ Cut w s k wr v) (fun _ _ i _ => s.size - (intOf i).toNat)
  case atStart => exact ⟨0, Nat.zero_le _, rfl, rfl, World.ownsRow_nil _ _ _ _, Below.refl _ _⟩
  case round =>
    obtain ⟨k, hk, rfl, rfl, hcut⟩ := hrel
    obtain ⟨hle, hlen⟩ := cutTo_le s k
    by_cases hlt : k < s.size
    · have hb := nl_byte s k hlt
      cases hn : nlAt s k with
      | false =>
        have R := hideS (hcut.miss hn)
        have ec := hideS (cutTo_miss hn)
        rw [hn] at hb
        clear hn hcut
        go_wp2_with fail
        go_roundw
        case rel => exact ⟨k + 1, by omega, by go_num, by rw [ec.out], R.out⟩
        case measure => simp [intOf]; omega
      | true =>
        rw [hn] at hb
        have hh := cutTo_hit hn
        obtain ⟨hown, hbel⟩ := hcut
        generalize (cutTo s k).2 = st at *
        generalize (cutTo s k).1 = X at *
        have HH := hideS hh
        have hsz := hbel.size
        clear hh hn
        go_wp2_with (at_builtin; refine wpList_append_lies _ (by rfl) _ _ _ (by rfl) w.heap.size 9 i0 _ 1 16 Trym.underlying26 hi0 hz0 hz1 hz2 rfl (by omega) u3 X.length (X.map .string) (by rfl) (hown.alloc _) ⟨wr.heap.size, 0, none⟩ 1 1 [.string (s.extract st k)] (by rfl) (by rfl) (World.news_of_block (cs := #[.string (s.extract st k)]) (t := 9) (fr := (0, 0)) (heap_alloc_new wr _)) (by simp [Value.oneCell']) (by omega) (by unfold maxLen; omega) (by omega) (by simp; omega) (wr.heap.size + 1) (by simp) ?_; intro gg cap w1 hown1 hgrow hat hlt1)
        have hC : Cut w s (k + 1) w1 (.slice (some ⟨gg, 0, none⟩) (X.length + 1) cap) := by
          unfold Cut
          rw [HH.out]
          simpa using owns_step hown hbel hown1 hgrow
        go_roundw
        case rel => exact ⟨k + 1, by omega, by go_num, by rw [HH.out]; go_num, hC⟩
        case measure => simp [intOf]; omega
    · obtain rfl : s.size = k := by omega
      have hsp : splitL s = (cutTo s s.size).1 ++ [s.extract (cutTo s s.size).2 s.size] := rfl
      obtain ⟨hown, hbel⟩ := hcut
      generalize (cutTo s s.size).2 = st at *
      generalize (cutTo s s.size).1 = X at *
      have HH := hideS hsp
      have hsz := hbel.size
      clear hsp
      go_wp2_with (at_builtin; refine wpList_append_lies _ (by rfl) _ _ _ (by rfl) w.heap.size 9 i0 _ 1 16 Trym.underlying26 hi0 hz0 hz1 hz2 rfl (by omega) u3 X.length (X.map .string) (by rfl) (hown.alloc _) ⟨wr.heap.size, 0, none⟩ 1 1 [.string (s.extract st s.size)] (by rfl) (by rfl) (World.news_of_block (cs := #[.string (s.extract st s.size)]) (t := 9) (fr := (0, 0)) (heap_alloc_new wr _)) (by simp [Value.oneCell']) (by omega) (by unfold maxLen; omega) (by omega) (by simp; omega) (wr.heap.size + 1) (by simp) ?_; intro gg cap w1 hown1 hgrow hat hlt1)
      have hC := owns_step hown hbel hown1 hgrow
      go_ret
      refine ⟨gg, cap, ?_, ?_⟩
      · rw [HH.out]
        simp only [List.length_append, List.length_cons, List.length_nil, Nat.zero_add]
        rfl
      · rw [HH.out]
        simpa using hC
end Go.Proofs.Qxb6001246aMods
