/-
  The walks of randomHeight (16), ZZRandomHeight (7) and FnRandomHeightBoundsAndState (3).
-/
import Derived.Test.Qxb6001055aModsRows
import Derived.Test.Qxb6001055aModsRhLaw
import Derived.WalkKit
import Derived.WalkSpells
import Derived.WalkLawsBesides
import Derived.BigRegion
import Derived.OpenShut
namespace Go.Proofs.Qxb6001055aMods
open Go.RowKit

theorem hide {p : Prop} (h : p) : Hid p := h

theorem setCell_facts {b k : Nat} {w wr : World} {v v' : Value} (hcr : wr.cell? ⟨b, k, none⟩ = some v) (hfr : wr.frozen? ⟨b, k, none⟩ = false) (hb : Below b w wr) :
    (wr.setCell ⟨b, k, none⟩ v').cell? ⟨b, k, none⟩ = some v' ∧ (wr.setCell ⟨b, k, none⟩ v').frozen? ⟨b, k, none⟩ = false ∧ Below b w (wr.setCell ⟨b, k, none⟩ v') :=
  ⟨World.cell?_setCell_same _ _ _ hcr, by rw [World.frozen?_setCell]; exact hfr, hb.setCell (Nat.le_refl _) _⟩

set_option maxHeartbeats 400000 in
theorem rh_any (b : Nat) (s : Int) (w : World) (h0 : 0 ≤ s) (h1 : s < 18446744073709551616)
    (hc : w.cell? ⟨b, 3, none⟩ = some (.int .u64 s)) (hf : w.frozen? ⟨b, 3, none⟩ = false) :
    Calls Trym.prog 16 #[.pointer (some ⟨b, 0, none⟩)] w fun e w' => ∃ k : Nat, ∃ t : Int, e = .returned (.int .i64 k) ∧ 1 ≤ k ∧ k ≤ 12 ∧ (k < 12 → t % 4 ≠ 0) ∧ 0 ≤ t ∧ t < 18446744073709551616 ∧
      w'.cell? ⟨b, 3, none⟩ = some (.int .u64 t) ∧ Below b w w' ∧ (s = 0 ↔ t = 0) := by
  go_enter Trym.func16, Trym.ntmps16
  go_wp2
  go_loopw [3] (fun h wr => ∃ k : Nat, ∃ t : Int, 1 ≤ k ∧ k ≤ 12 ∧ h = .int .i64 k ∧ 0 ≤ t ∧ t < 18446744073709551616 ∧ wr.cell? ⟨b, 3, none⟩ = some (.int .u64 t) ∧ wr.frozen? ⟨b, 3, none⟩ = false ∧ Below b w wr ∧ (s = 0 ↔ t = 0))
    (fun h _ => 12 - (intOf h).toNat)
  case atStart => exact ⟨1, s, by omega, by omega, rfl, h0, h1, hc, hf, Below.refl _ _, Iff.rfl⟩
  case round =>
    obtain ⟨k, t, hk1, hk2, rfl, ht0, ht1, hcr, hfr, hb, hst⟩ := hrel
    clear hc hf
    have Hst := hide hst
    clear hst
    by_cases hlt : k < 12
    · go_wp2
      go_region
      obtain ⟨ga, gb, gc⟩ := rhA_ok t ht0 ht1
      have Ha := hide gc
      clear gc
      unfold rhA at ga gb Ha
      generalize bits .xor .u64 t (IntKind.u64.wrap (t * 8192)) = t1 at ga gb Ha
      obtain ⟨hc1, hf1, hb1⟩ := setCell_facts (v' := .int .u64 t1) hcr hfr hb
      generalize wr.setCell ⟨b, 3, none⟩ (.int .u64 t1) = w1 at hc1 hf1 hb1
      clear hcr hfr hb
      go_wp2
      go_region
      obtain ⟨gd, ge, gf⟩ := rhB_ok t1 ga gb
      have Hb := hide gf
      clear gf
      unfold rhB at gd ge Hb
      generalize bits .xor .u64 t1 (t1 / 128) = t2 at gd ge Hb
      obtain ⟨hc2, hf2, hb2⟩ := setCell_facts (v' := .int .u64 t2) hc1 hf1 hb1
      generalize w1.setCell ⟨b, 3, none⟩ (.int .u64 t2) = w2 at hc2 hf2 hb2
      clear hc1 hf1 hb1
      go_wp2
      go_region
      obtain ⟨gg, gh, gi⟩ := rhC_ok t2 gd ge
      have Hc := hide gi
      clear gi
      unfold rhC at gg gh Hc
      generalize bits .xor .u64 t2 (IntKind.u64.wrap (t2 * 131072)) = t3 at gg gh Hc
      obtain ⟨hc3, hf3, hb3⟩ := setCell_facts (v' := .int .u64 t3) hc2 hf2 hb2
      generalize w2.setCell ⟨b, 3, none⟩ (.int .u64 t3) = w3 at hc3 hf3 hb3
      clear hc2 hf2 hb2
      go_wp2
      · have hne : (t3 % 4 != 0) = true := by assumption
        go_ret
        exact ⟨k, t3, rfl, hk1, hk2, fun _ => by simpa using hne, gg, gh, hc3, ((hb3.drew).drew).drew, Hst.out.trans (Ha.out.symm.trans (Hb.out.symm.trans Hc.out.symm))⟩
      · go_roundw
        case rel => exact ⟨k + 1, t3, by omega, by omega, by go_num, gg, gh, hc3, hf3, ((hb3.drew).drew).drew, Hst.out.trans (Ha.out.symm.trans (Hb.out.symm.trans Hc.out.symm))⟩
        case measure => simp [intOf]; omega
    · go_wp2
      go_ret
      exact ⟨k, t, rfl, hk1, hk2, fun h => absurd h hlt, ht0, ht1, hcr, hb, Hst.out⟩

set_option maxHeartbeats 400000 in
theorem zzrh_any (s : Int) (w : World) (h0 : 0 ≤ s) (h1 : s < 18446744073709551616) :
    Calls Trym.prog 7 #[.int .u64 s] w fun e w' => ∃ k : Nat, ∃ t : Int, e = .returned (.tuple #[.int .i64 k, .int .u64 t]) ∧ 1 ≤ k ∧ k ≤ 12 ∧ (k < 12 → t % 4 ≠ 0) ∧ 0 ≤ t ∧ t < 18446744073709551616 ∧
      Below w.heap.size w w' ∧ (s = 0 ↔ t = 0) := by
  go_enter Trym.func7, Trym.ntmps7
  go_wp2_with fail
  refine (rh_any w.heap.size s _ h0 h1 (by simp) (by simp)).mono ?_
  rintro e w1 ⟨k, t, rfl, hk1, hk2, hk3, ht0, ht1, hc, hb, hst⟩
  have Hst := hide hst
  clear hst
  go_wp2
  go_region
  go_wp2
  go_ret2
  exact ⟨k, t, rfl, hk1, hk2, hk3, ht0, ht1, ((((Below.refl _ _).alloc (Nat.le_refl _) _).trans hb)).drew, Hst.out⟩

theorem rhwalk (a0 : Int) (w0 : (Lit.int .u64 a0).wf = true) (w : World) :
    Calls Trym.prog 3 #[.int .u64 a0] w fun e w' => e = .returned (.bool true) ∧ Below w.heap.size w w' := by
  obtain ⟨h0, h1⟩ : 0 ≤ a0 ∧ a0 < 18446744073709551616 := by have := bounds_u64 w0; omega
  clear w0
  go_enter Trym.func3, Trym.ntmps3
  go_wp2_with fail
  refine (zzrh_any a0 w h0 h1).mono ?_
  rintro e w1 ⟨k, t, rfl, hk1, hk2, hk3, ht0, ht1, hb, hst⟩
  by_cases hk : k < 12
  · have ht : ((t % 4) == 0) = false := by simpa using hk3 hk
    have hnz : t ≠ 0 := by rintro rfl; simp at ht
    have hs : (a0 == 0) = false := by simpa using fun h => hnz (hst.1 h)
    have ht2 : (t == 0) = false := by simpa using hnz
    clear hst hk3
    go_wp2
    go_ret
    exact ⟨rfl, hb⟩
  · have hk12 : k = 12 := by omega
    subst hk12
    by_cases hz : a0 = 0
    · have hz2 := hst.1 hz
      subst hz hz2
      clear hst hk3
      go_wp2
      go_ret
      exact ⟨rfl, hb⟩
    · have ht2 : (t == 0) = false := by simpa using fun h => hz (hst.2 h)
      have hs : (a0 == 0) = false := by simpa using hz
      clear hst hk3
      go_wp2
      go_ret
      exact ⟨rfl, hb⟩
end Go.Proofs.Qxb6001055aMods
