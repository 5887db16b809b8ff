/-
  The walks of zzLenSum (17), zzCapSum (18), the two zzBytes (9, 14) and zzBulkTooBig (10): they only read; of their answers no more is told than the laws want.
-/
import Derived.Test.Qxb6001055aModsRows
import Derived.Test.Qxb6001055aModsMat
import Derived.WalkSpells
import Derived.WalkLawsBesides
namespace Go.Proofs.Qxb6001055aMods
open Go.RowKit

set_option maxHeartbeats 400000 in
theorem lenSum_any (w : World) (lo : Nat) (ao : Option Addr) (n cap : Nat) (V : Nat → Value) (D : Nat → Ck) (hn : n ≤ 140737488355328) (hV : Has w lo ao n V) (hD : ∀ r, r < n → Elt w lo (V r) (D r)) :
    Calls Trym.prog 17 #[.slice ao n cap] w fun e w' => ∃ t : Int, e = .returned (.int .i64 t) ∧ 0 ≤ t ∧ t ≤ 1048577 ∧ w' = w := by
  by_cases h0 : 0 < n
  · obtain ⟨b, off, rfl, _, hc⟩ := hV.pos h0
    clear hV
    go_enter Trym.func17, Trym.ntmps17
    go_wp2
    go_loop [3, 4] (fun t i => ∃ k : Nat, ∃ s : Int, k ≤ n ∧ 0 ≤ s ∧ s ≤ 1048576 ∧ t = .int .i64 s ∧ i = .int .i64 k) (fun _ i => n - (intOf i).toNat)
    case atStart => exact ⟨0, 0, by omega, by omega, by omega, rfl, rfl⟩
    case round =>
      obtain ⟨k, s, hk, hs0, hs1, rfl, rfl⟩ := hrel
      by_cases hlt : k < n
      · obtain ⟨a', hv, _, hl, hcc, _, _⟩ := hD k hlt
        have hcell : w.cell? ⟨b, off + k, none⟩ = some (.slice a' (D k).l (D k).c) := by rw [hc k hlt, hv]
        generalize (D k).l = l at *
        generalize (D k).c = c at *
        clear hv hc hD
        go_wp2
        · go_ret
          exact ⟨_, rfl, by omega, by omega, rfl⟩
        · go_round
          case rel => exact ⟨k + 1, s + l, by omega, by omega, by omega, rfl, by go_num⟩
          case measure => simp [intOf]; omega
      · go_wp2
        go_ret
        exact ⟨s, rfl, by omega, by omega, rfl⟩
  · have hz : n = 0 := by omega
    subst hz
    go_enter Trym.func17, Trym.ntmps17
    go_wp2
    refine wp_loop_rounds 1 ?_
    rw [rounds_succ]
    go_wp2
    go_ret
    exact ⟨0, rfl, by omega, by omega, rfl⟩

set_option maxHeartbeats 400000 in
theorem capSum_any (w : World) (lo : Nat) (ao : Option Addr) (n cap : Nat) (V : Nat → Value) (D : Nat → Ck) (hn : n ≤ 140737488355328) (hV : Has w lo ao n V) (hD : ∀ r, r < n → Elt w lo (V r) (D r)) :
    Calls Trym.prog 18 #[.slice ao n cap] w fun e w' => ∃ t : Int, e = .returned (.int .i64 t) ∧ 0 ≤ t ∧ t ≤ 4194305 ∧ w' = w := by
  by_cases h0 : 0 < n
  · obtain ⟨b, off, rfl, _, hc⟩ := hV.pos h0
    clear hV
    go_enter Trym.func18, Trym.ntmps18
    go_wp2
    go_loop [3, 4] (fun t i => ∃ k : Nat, ∃ s : Int, k ≤ n ∧ 0 ≤ s ∧ s ≤ 4194304 ∧ t = .int .i64 s ∧ i = .int .i64 k) (fun _ i => n - (intOf i).toNat)
    case atStart => exact ⟨0, 0, by omega, by omega, by omega, rfl, rfl⟩
    case round =>
      obtain ⟨k, s, hk, hs0, hs1, rfl, rfl⟩ := hrel
      by_cases hlt : k < n
      · obtain ⟨a', hv, _, hl, hcc, _, _⟩ := hD k hlt
        have hcell : w.cell? ⟨b, off + k, none⟩ = some (.slice a' (D k).l (D k).c) := by rw [hc k hlt, hv]
        generalize (D k).l = l at *
        generalize (D k).c = c at *
        clear hv hc hD
        go_wp2
        · go_ret
          exact ⟨_, rfl, by omega, by omega, rfl⟩
        · go_round
          case rel => exact ⟨k + 1, s + c, by omega, by omega, by omega, rfl, by go_num⟩
          case measure => simp [intOf]; omega
      · go_wp2
        go_ret
        exact ⟨s, rfl, by omega, by omega, rfl⟩
  · have hz : n = 0 := by omega
    subst hz
    go_enter Trym.func18, Trym.ntmps18
    go_wp2
    refine wp_loop_rounds 1 ?_
    rw [rounds_succ]
    go_wp2
    go_ret
    exact ⟨0, rfl, by omega, by omega, rfl⟩

set_option maxHeartbeats 400000 in
theorem tooBig_any (w : World) (lo : Nat) (ao bo : Option Addr) (n m cap cap' : Nat) (V U : Nat → Value) (D E : Nat → Ck) (q : Int) (hn : n ≤ 140737488355328) (hm : m ≤ 140737488355328) (hq0 : -9223372036854775808 ≤ q) (hq1 : q ≤ 9223372036854775807)
    (hV : Has w lo ao n V) (hD : ∀ r, r < n → Elt w lo (V r) (D r)) (hU : Has w lo bo m U) (hE : ∀ r, r < m → Elt w lo (U r) (E r)) :
    Calls Trym.prog 10 #[.slice ao n cap, .slice bo m cap', .int .i64 q] w fun e w' => (e = .returned (.bool true) ∨ e = .returned (.bool false) ∧ n ≤ 4096 ∧ m ≤ 4096 ∧ 0 ≤ q ∧ q ≤ 65536) ∧ w = w' := by
  by_cases h1 : 4096 < n
  · have H1 : (4096 : Int) < (n : Int) := by omega
    go_enter Trym.func10, Trym.ntmps10
    go_wp2
    go_ret
    exact ⟨.inl rfl, rfl⟩
  by_cases h2 : 4096 < m
  · have H1 : ¬ (4096 : Int) < (n : Int) := by omega
    have H2 : (4096 : Int) < (m : Int) := by omega
    go_enter Trym.func10, Trym.ntmps10
    go_wp2
    go_ret
    exact ⟨.inl rfl, rfl⟩
  have H1 : ¬ (4096 : Int) < (n : Int) := by omega
  have H2 : ¬ (4096 : Int) < (m : Int) := by omega
  go_enter Trym.func10, Trym.ntmps10
  go_wp2_with fail
  refine (lenSum_any w lo ao n cap V D hn hV hD).mono ?_
  rintro e w1 ⟨t1, rfl, ht1, ht1', rfl⟩
  go_wp2_with fail
  refine (lenSum_any _ lo bo m cap' U E hm hU hE).mono ?_
  rintro e w1 ⟨t2, rfl, ht2, ht2', rfl⟩
  by_cases h3 : 1048576 < 24 * ((n : Int) + (m : Int)) + t1 + t2
  · go_wp2_with fail
    go_ret
    exact ⟨.inl rfl, rfl⟩
  go_wp2_with fail
  refine (capSum_any _ lo ao n cap V D hn hV hD).mono ?_
  rintro e w1 ⟨t3, rfl, ht3, ht3', rfl⟩
  go_wp2_with fail
  refine (capSum_any _ lo bo m cap' U E hm hU hE).mono ?_
  rintro e w1 ⟨t4, rfl, ht4, ht4', rfl⟩
  by_cases h4 : 4194304 < t3 + t4
  · go_wp2_with fail
    go_ret
    exact ⟨.inl rfl, rfl⟩
  by_cases h5 : q < 0
  · go_wp2_with fail
    go_ret
    exact ⟨.inl rfl, rfl⟩
  by_cases h6 : 65536 < q
  · go_wp2_with fail
    go_ret
    exact ⟨.inl rfl, rfl⟩
  go_wp2_with fail
  go_ret
  exact ⟨.inr ⟨rfl, by omega, by omega, by omega, by omega⟩, rfl⟩

/-- The call answers one of the two truth values. -/
def AnyBool (e : Ending) : Prop := ∃ x : Bool, e = .returned (.bool x)
theorem AnyBool.mk (x : Bool) : AnyBool (.returned (.bool x)) := ⟨x, rfl⟩

set_option maxHeartbeats 1000000 in
theorem bytes9_any (w : World) (lo : Nat) (ao bo : Option Addr) (n m cap cap' : Nat) (V U : Nat → Value) (D E : Nat → Ck) (l q u : Int) (hn : n ≤ 140737488355328) (hm : m ≤ 140737488355328)
    (hV : Has w lo ao n V) (hD : ∀ r, r < n → Elt w lo (V r) (D r)) (hU : Has w lo bo m U) (hE : ∀ r, r < m → Elt w lo (U r) (E r)) :
    Calls Trym.prog 9 #[.int .i64 l, .slice ao n cap, .slice bo m cap', .int .i64 q, .int .i64 u] w fun e w' => AnyBool e ∧ w = w' := by
  by_cases h1 : 1048576 < (n : Int)
  · go_enter Trym.func9, Trym.ntmps9
    go_wp2
    go_ret
    exact ⟨.mk _, rfl⟩
  go_enter Trym.func9, Trym.ntmps9
  go_wp2
  go_loop [11, 12] (fun t i => ∃ k : Nat, ∃ s : Int, k ≤ n ∧ 0 ≤ s ∧ s ≤ 1048576 ∧ t = .int .i64 s ∧ i = .int .i64 k) (fun _ i => n - (intOf i).toNat)
  case atStart => exact ⟨0, n, by omega, by omega, by omega, rfl, rfl⟩
  case round =>
    obtain ⟨k, s, hk, hs0, hs1, rfl, rfl⟩ := hrel
    by_cases hlt : k < n
    · obtain ⟨b, off, hao, _, hc⟩ := hV k hlt
      obtain ⟨a', hv, _, hl, hcc, _, _⟩ := hD k hlt
      have hcell : w.cell? ⟨b, off + k, none⟩ = some (.slice a' (D k).l (D k).c) := by rw [hc, hv]
      generalize (D k).l = dl at *
      generalize (D k).c = dc at *
      clear hv hc
      go_wp2
      · go_ret
        exact ⟨.mk _, rfl⟩
      · go_ret
        exact ⟨.mk _, rfl⟩
      · go_round
        case rel => exact ⟨k + 1, s + dl, by omega, by omega, by omega, rfl, by go_num⟩
        case measure => simp [intOf]; omega
    · by_cases h2 : 1048576 < (m : Int)
      · go_wp2
        go_ret
        exact ⟨.mk _, rfl⟩
      by_cases h3 : 1048576 < s + (m : Int)
      · go_wp2
        go_ret
        exact ⟨.mk _, rfl⟩
      go_wp2
      go_loop [11, 13] (fun t i => ∃ k : Nat, ∃ s : Int, k ≤ m ∧ 0 ≤ s ∧ s ≤ 1048576 ∧ t = .int .i64 s ∧ i = .int .i64 k) (fun _ i => m - (intOf i).toNat)
      case atStart => exact ⟨0, s + m, by omega, by omega, by omega, rfl, rfl⟩
      case round =>
        obtain ⟨k2, s2, hk, hs0, hs1, rfl, rfl⟩ := hrel
        by_cases hlt2 : k2 < m
        · obtain ⟨b, off, hao, _, hc⟩ := hU k2 hlt2
          obtain ⟨a', hv, _, hl, hcc, _, _⟩ := hE k2 hlt2
          have hcell : w.cell? ⟨b, off + k2, none⟩ = some (.slice a' (E k2).l (E k2).c) := by rw [hc, hv]
          generalize (E k2).l = dl at *
          generalize (E k2).c = dc at *
          clear hv hc
          go_wp2
          · go_ret
            exact ⟨.mk _, rfl⟩
          · go_ret
            exact ⟨.mk _, rfl⟩
          · go_round
            case rel => exact ⟨k2 + 1, s2 + dl, by omega, by omega, by omega, rfl, by go_num⟩
            case measure => simp [intOf]; omega
        · go_wp2
          go_ret
          exact ⟨.mk _, rfl⟩

set_option maxHeartbeats 1000000 in
theorem bytes14_any (w : World) (lo : Nat) (ao bo : Option Addr) (n m cap cap' : Nat) (V U : Nat → Value) (D E : Nat → Ck) (l q u : Int) (hn : n ≤ 140737488355328) (hm : m ≤ 140737488355328)
    (hV : Has w lo ao n V) (hD : ∀ r, r < n → Elt w lo (V r) (D r)) (hU : Has w lo bo m U) (hE : ∀ r, r < m → Elt w lo (U r) (E r)) :
    Calls Trym.prog 14 #[.int .i64 l, .slice ao n cap, .slice bo m cap', .int .i64 q, .int .i64 u] w fun e w' => AnyBool e ∧ w = w' := by
  by_cases h1 : 1048576 < (n : Int)
  · go_enter Trym.func14, Trym.ntmps14
    go_wp2
    go_ret
    exact ⟨.mk _, rfl⟩
  go_enter Trym.func14, Trym.ntmps14
  go_wp2
  go_loop [11, 12] (fun t i => ∃ k : Nat, ∃ s : Int, k ≤ n ∧ 0 ≤ s ∧ s ≤ 1048576 ∧ t = .int .i64 s ∧ i = .int .i64 k) (fun _ i => n - (intOf i).toNat)
  case atStart => exact ⟨0, n, by omega, by omega, by omega, rfl, rfl⟩
  case round =>
    obtain ⟨k, s, hk, hs0, hs1, rfl, rfl⟩ := hrel
    by_cases hlt : k < n
    · obtain ⟨b, off, hao, _, hc⟩ := hV k hlt
      obtain ⟨a', hv, _, hl, hcc, _, _⟩ := hD k hlt
      have hcell : w.cell? ⟨b, off + k, none⟩ = some (.slice a' (D k).l (D k).c) := by rw [hc, hv]
      generalize (D k).l = dl at *
      generalize (D k).c = dc at *
      clear hv hc
      go_wp2
      · go_ret
        exact ⟨.mk _, rfl⟩
      · go_ret
        exact ⟨.mk _, rfl⟩
      · go_round
        case rel => exact ⟨k + 1, s + dl, by omega, by omega, by omega, rfl, by go_num⟩
        case measure => simp [intOf]; omega
    · by_cases h2 : 1048576 < (m : Int)
      · go_wp2
        go_ret
        exact ⟨.mk _, rfl⟩
      by_cases h3 : 1048576 < s + (m : Int)
      · go_wp2
        go_ret
        exact ⟨.mk _, rfl⟩
      go_wp2
      go_loop [11, 13] (fun t i => ∃ k : Nat, ∃ s : Int, k ≤ m ∧ 0 ≤ s ∧ s ≤ 1048576 ∧ t = .int .i64 s ∧ i = .int .i64 k) (fun _ i => m - (intOf i).toNat)
      case atStart => exact ⟨0, s + m, by omega, by omega, by omega, rfl, rfl⟩
      case round =>
        obtain ⟨k2, s2, hk, hs0, hs1, rfl, rfl⟩ := hrel
        by_cases hlt2 : k2 < m
        · obtain ⟨b, off, hao, _, hc⟩ := hU k2 hlt2
          obtain ⟨a', hv, _, hl, hcc, _, _⟩ := hE k2 hlt2
          have hcell : w.cell? ⟨b, off + k2, none⟩ = some (.slice a' (E k2).l (E k2).c) := by rw [hc, hv]
          generalize (E k2).l = dl at *
          generalize (E k2).c = dc at *
          clear hv hc
          go_wp2
          · go_ret
            exact ⟨.mk _, rfl⟩
          · go_ret
            exact ⟨.mk _, rfl⟩
          · go_round
            case rel => exact ⟨k2 + 1, s2 + dl, by omega, by omega, by omega, rfl, by go_num⟩
            case measure => simp [intOf]; omega
        · go_wp2
          go_ret
          exact ⟨.mk _, rfl⟩

end Go.Proofs.Qxb6001055aMods
