/-
  The walk of FnRebuildReadsBack (6).
-/
import Derived.Test.Qxb6001246aModsCut
import Derived.Deep.QuietTactic
import Derived.BigQuiet
namespace Go.Proofs.Qxb6001246aMods
open Go.RowKit

/-- The five lines, by their number. -/
def ln (t c m v : ByteArray) (i : Nat) : ByteArray := [line0 t, line1 c, line2 t m v, line3 t, ⟨#[]⟩].getD i ⟨#[]⟩

theorem lines_cells {w : World} {base g cap : Nat} {t c m v : ByteArray} {n : Nat} (hn : n = 5) (h : w.ownsRow base 9 1 (.slice (some ⟨g, 0, none⟩) n cap) n ([line0 t, line1 c, line2 t m v, line3 t, ⟨#[]⟩].map .string)) :
    ∀ i, i < 5 → w.cell? ⟨g, i, none⟩ = some (.string (ln t c m v i)) := by
  subst hn
  intro i hi
  rw [World.ownsRow.cellAt h i (by omega)]
  match i, hi with
  | 0, _ => rfl
  | 1, _ => rfl
  | 2, _ => rfl
  | 3, _ => rfl
  | 4, _ => rfl

/-- Each of the first four lines ends in a semicolon. -/
theorem ln_semi (t c m v : ByteArray) : ∀ i, i < 4 → ∃ r, ln t c m v i = r ++ ⟨#[59]⟩
  | 0, _ => ⟨_, rfl⟩
  | 1, _ => ⟨_, rfl⟩
  | 2, _ => ⟨_, rfl⟩
  | 3, _ => ⟨_, rfl⟩

theorem ln_size {t c m v : ByteArray} (ht : t.size ≤ 262144) (hc : c.size ≤ 262144) (hm : m.size ≤ 262144) (hv : v.size ≤ 262144) : ∀ i, i < 4 → (ln t c m v i).size ≤ 16777216
  | 0, _ => (sizes t c m v ht hc hm hv).2.1
  | 1, _ => (sizes t c m v ht hc hm hv).2.2.1
  | 2, _ => (sizes t c m v ht hc hm hv).2.2.2.1
  | 3, _ => (sizes t c m v ht hc hm hv).2.2.2.2

set_option maxRecDepth 100000 in
set_option maxHeartbeats 2000000 in
theorem lawR_walk (w : World) (t c m v : ByteArray) (wt : t.size ≤ maxLen) (wc : c.size ≤ maxLen) (wm : m.size ≤ maxLen) (wv : v.size ≤ maxLen) :
    Calls Trym.prog 6 #[.string t, .string c, .string m, .string v] w fun e w' => e = .returned (.bool true) ∧ Below w.heap.size w w' := by
  have hB := hideS (bytes15_any w t c m v wt wc wm wv)
  unfold maxLen at *
  go_enter Trym.func6, Trym.ntmps6
  go_wp2_with fail
  refine hB.out.mono ?_
  rintro e w1 ⟨⟨x, rfl⟩, rfl⟩
  clear hB
  cases x with
  | false =>
    go_wp2_with fail
    go_ret
    exact ⟨rfl, Below.refl _ _⟩
  | true =>
  by_cases ht' : 262144 < (t.size : Int)
  · go_wp2_with fail
    go_ret
    exact ⟨rfl, Below.refl _ _⟩
  by_cases hc' : 262144 < (c.size : Int)
  · go_wp2_with fail
    go_ret
    exact ⟨rfl, Below.refl _ _⟩
  by_cases hm' : 262144 < (m.size : Int)
  · go_wp2_with fail
    go_ret
    exact ⟨rfl, Below.refl _ _⟩
  by_cases hv' : 262144 < (v.size : Int)
  · go_wp2_with fail
    go_ret
    exact ⟨rfl, Below.refl _ _⟩
  have ht : t.size ≤ 262144 := by omega
  have hc : c.size ≤ 262144 := by omega
  have hm : m.size ≤ 262144 := by omega
  have hv : v.size ≤ 262144 := by omega
  go_wp2_with fail
  refine (hasNL_any w t ht).mono ?_
  rintro e w1 ⟨⟨b, rfl, nt⟩, rfl⟩
  cases b with
  | true =>
    go_wp2_with fail
    go_ret
    exact ⟨rfl, Below.refl _ _⟩
  | false =>
  have Nt := hideS (nt rfl)
  clear nt
  go_wp2_with fail
  refine (hasNL_any w c hc).mono ?_
  rintro e w1 ⟨⟨b, rfl, nc⟩, rfl⟩
  cases b with
  | true =>
    go_wp2_with fail
    go_ret
    exact ⟨rfl, Below.refl _ _⟩
  | false =>
  have Nc := hideS (nc rfl)
  clear nc
  go_wp2_with fail
  refine (hasNL_any w m hm).mono ?_
  rintro e w1 ⟨⟨b, rfl, nm⟩, rfl⟩
  cases b with
  | true =>
    go_wp2_with fail
    go_ret
    exact ⟨rfl, Below.refl _ _⟩
  | false =>
  have Nm := hideS (nm rfl)
  clear nm
  go_wp2_with fail
  refine (hasNL_any w v hv).mono ?_
  rintro e w1 ⟨⟨b, rfl, nv⟩, rfl⟩
  cases b with
  | true =>
    go_wp2_with fail
    go_ret
    exact ⟨rfl, Below.refl _ _⟩
  | false =>
  have Nv := hideS (nv rfl)
  clear nv
  have HSP := hideS (sql_split Nt.out Nc.out Nm.out Nv.out)
  clear Nt Nc Nm Nv
  go_wp2_with fail
  refine (zzrebuild_any w t c m v ht hc hm hv).mono ?_
  rintro e w1 ⟨rfl, rfl⟩
  go_wp2_with fail
  refine (split_any w _ (sizes t c m v ht hc hm hv).1).mono ?_
  rintro e w1 ⟨g, cap, rfl, hown, hbel⟩
  have hlen : (splitL (Sql t c m v)).length = 5 := by rw [HSP.out]; rfl
  have hcell := lines_cells (t := t) (c := c) (m := m) (v := v) hlen (by rw [HSP.out] at hown; rw [HSP.out]; exact hown)
  rw [hlen]
  clear hown HSP hlen
  have HC := hideS hcell
  have c4 : w1.cell? ⟨g, 4, none⟩ = some (.string ⟨#[]⟩) := hcell 4 (by omega)
  clear hcell
  go_wp2_with fail
  go_loop [10] (fun i => ∃ k : Nat, k ≤ 4 ∧ i = .int .i64 k) (fun i => 4 - (intOf i).toNat)
  case atStart => exact ⟨0, by omega, rfl⟩
  case round =>
    obtain ⟨k, hk, rfl⟩ := hrel
    by_cases hlt : k < 4
    · obtain ⟨r, hr⟩ := ln_semi t c m v k hlt
      have HSuf := hideS (suf_yes w1 (ln t c m v k) ⟨#[59]⟩ r (ln_size ht hc hm hv k hlt) hr)
      have ck := HC.out k (by omega)
      clear hr
      go_wp2_with (go_at_call 19; refine HSuf.out.mono ?_; rintro e w2 ⟨rfl, rfl⟩)
      go_round
      case rel => exact ⟨k + 1, by omega, by go_num⟩
      case measure => simp [intOf]; omega
    · have c0 : w1.cell? ⟨g, 0, none⟩ = some (.string (line0 t)) := HC.out 0 (by omega)
      have c1 : w1.cell? ⟨g, 1, none⟩ = some (.string (c ++ ⟨#[59]⟩)) := HC.out 1 (by omega)
      have c2 : w1.cell? ⟨g, 2, none⟩ = some (.string (line2 t m v)) := HC.out 2 (by omega)
      have c3 : w1.cell? ⟨g, 3, none⟩ = some (.string (line3 t)) := HC.out 3 (by omega)
      have hss : ((c ++ ⟨#[59]⟩).toList == (c ++ ⟨#[59]⟩).toList) = true := toList_self _
      have hs3 := l3_size t
      have hl3 : 16 ≤ (line3 t).size := by omega
      have hl4 : (line3 t).size ≤ 16777216 := by omega
      have HS3 := hideS hs3
      clear hs3
      go_wp2_with fail
      refine (pre_yes w1 (line3 t) _ _ hl4 (l3_pre t)).mono ?_
      rintro e w2 ⟨rfl, rfl⟩
      go_wp2_with fail
      go_region
      have hmid : (line3 t).extract 15 ((line3 t).size - 1) = t := by
        rw [HS3.out, Nat.add_sub_cancel]
        exact l3_mid t
      rw [hmid]
      clear hmid
      have htt := toList_self t
      have hz := sizes t c m v ht hc hm hv
      have H0 := hideS hz.2.1
      have H2 := hideS hz.2.2.2.1
      clear hz
      go_wp2_with fail
      refine (pre_yes _ (line0 t) _ _ H0.out (l0_pre t)).mono ?_
      rintro e w2 ⟨rfl, rfl⟩
      go_wp2_with fail
      refine (suf_yes _ (line0 t) _ _ H0.out (l0_suf t)).mono ?_
      rintro e w2 ⟨rfl, rfl⟩
      go_wp2_with fail
      refine (pre_yes _ (line2 t m v) _ _ H2.out (l2_pre t m v)).mono ?_
      rintro e w2 ⟨rfl, rfl⟩
      go_wp2_with fail
      refine (suf_yes _ (line2 t m v) _ _ H2.out (l2_suf t m v)).mono ?_
      rintro e w2 ⟨rfl, rfl⟩
      go_wp2_with fail
      go_ret
      exact ⟨rfl, hbel.drew⟩
end Go.Proofs.Qxb6001246aMods
