/-
  The walk of FnBulkResetEmptiesAndKeepsUsualChunks (5).
-/
import Derived.Test.Qxb6001055aModsAll
import Derived.Test.Qxb6001055aModsSums
import Derived.Test.Qxb6001055aModsSameB
import Derived.WalkSmall
namespace Go.Proofs.Qxb6001055aMods
open Go.RowKit

theorem Has.drewN {w : World} {lo : Nat} {ao : Option Addr} {n : Nat} {f : Nat → Value} (h : Has w lo ao n f) (d : Nat) : Has (w.drewN d) lo ao n f := h

set_option maxRecDepth 100000 in
set_option maxHeartbeats 4000000 in
theorem lawE_walk (w : World) (ao bo : Option Addr) (n m cap cap' : Nat) (A B : Nat → Value) (D E : Nat → Ck) (l q ud : Int) (hn : n ≤ 140737488355328) (hm : m ≤ 140737488355328)
    (h0 : -9223372036854775808 ≤ l) (h1 : l ≤ 9223372036854775807) (hq0 : -9223372036854775808 ≤ q) (hq1 : q ≤ 9223372036854775807)
    (hA : Has w 0 ao n A) (hD : ∀ r, r < n → Elt w 0 (A r) (D r)) (hB : Has w 0 bo m B) (hE : ∀ r, r < m → Elt w 0 (B r) (E r)) (hna : ao.isNone = true → n = 0) (hnb : bo.isNone = true → m = 0) :
    Calls Trym.prog 5 #[.int .i64 l, .slice ao n cap, .slice bo m cap', .int .i64 q, .int .i64 ud] w fun e w' => e = .returned (.bool true) ∧ Below w.heap.size w w' := by
  have hqn := fun (w : World) (a : Option Addr) (n c n' c' : Nat) => Lib.run_eql_slice_nil (P := Trym.prog) w 32 5 a n c n' c' Trym.underlying32
  go_enter Trym.func5, Trym.ntmps5
  go_wp2_with fail
  refine (bytes9_any w 0 ao bo n m cap cap' A B D E l q ud hn hm hA hD hB hE).mono ?_
  rintro e w1 ⟨⟨x, rfl⟩, rfl⟩
  cases x with
  | false =>
    go_wp2_with fail
    go_ret
    exact ⟨rfl, Below.refl _ _⟩
  | true =>
  go_wp2_with fail
  refine (tooBig_any _ 0 ao bo n m cap cap' A B D E q hn hm hq0 hq1 hA hD hB hE).mono ?_
  rintro e w2 ⟨hx, rfl⟩
  rcases hx with rfl | ⟨rfl, hn2, hm2, hq2, hq3⟩
  · go_wp2_with fail
    go_ret
    exact ⟨rfl, Below.refl _ _⟩
  go_wp2_with fail
  refine (copy_all _ 0 ao n cap A D (by omega) hA hD hna).mono ?_
  rintro e w1 ⟨co, cc, V, rfl, C1⟩
  go_wp2_with fail
  refine (copy_all _ 0 bo m cap' B E (by omega) (hB.same (Same.of_below C1.bel)) (fun r hr => (hE r hr).same (Same.of_below C1.bel)) hnb).mono ?_
  rintro e w2 ⟨vo, mc, U, rfl, C2⟩
  go_wp2_with fail
  refine (copy_all _ _ vo m mc U E (by omega) C2.has (fun r hr => (C2.elt r hr).mono (by omega)) (fun h => hnb (by rw [← C2.nil]; exact h))).mono ?_
  rintro e w3 ⟨ko, kc, K, rfl, C3⟩
  obtain ⟨hch, hDV, hownU, hsz3, hne, hU3, hEU, hbel3⟩ := handed C1 C2 C3.bel
  have hV3 := C1.has.same (Same.of_below (copied_mono C2.bel C3.bel))
  by_cases hu : 1048576 < l.tdiv 8
  case' pos =>
    have hul : usual l = 1048576 := by unfold usual; rw [if_pos hu]
    go_wp2_with fail
    clear hu
    generalize (1048576 : Int) = X at hul ⊢
  case' neg =>
    have hul : usual l = l.tdiv 8 := by unfold usual; rw [if_neg hu]
    go_wp2_with fail
    clear hu
    generalize l.tdiv 8 = X at hul ⊢
  all_goals
    have HU := hide hul
    clear hul
    go_loop [13, 14] (fun t i => ∃ k : Nat, k ≤ n ∧ t = .int .i64 ((sel D X k).length : Nat) ∧ i = .int .i64 k) (fun _ i => n - (intOf i).toNat)
    case atStart => exact ⟨0, by omega, rfl, rfl⟩
    case round =>
      obtain ⟨k, hk, rfl, rfl⟩ := hrel
      by_cases hlt : k < n
      · obtain ⟨b, off, hco, _, hc⟩ := hV3 k hlt
        obtain ⟨a', hv, _, hl, hcc, _, _⟩ := hDV k hlt
        have hcell : w3.cell? ⟨b, off + k, none⟩ = some (.slice a' (D k).l (D k).c) := by rw [hc, hv]
        have hsl := sel_le D X k
        clear hc hv
        cases hh : (((D k).c : Int) == X) with
        | true =>
          have hs := sel_hit hh
          have hs2 : (sel D X (k + 1)).length = (sel D X k).length + 1 := by rw [hs]; simp
          have HS := hide hs2
          clear hs hs2
          go_wp2_with fail
          go_round
          case rel => exact ⟨k + 1, by omega, by rw [HS.out]; go_num, by go_num⟩
          case measure => simp [intOf]; omega
        | false =>
          have hs := sel_miss hh
          have HS := hide hs
          clear hs
          go_wp2_with fail
          go_round
          case rel => exact ⟨k + 1, by omega, by rw [HS.out], by go_num⟩
          case measure => simp [intOf]; omega
      · obtain rfl : n = k := by omega
        have hb := bulk_all w3 w1.heap.size w.heap.size n cc l ud q co vo m mc ((List.range m).map U) V D h0 h1 hq2 hq3 (by omega) (by omega) hch hDV hownU hsz3 hne
        rw [HU.out] at hb
        have HB := hide hb
        clear hb
        go_wp2_with fail
        refine HB.out.mono ?_
        rintro e w4 ⟨so, sc, rfl, B4⟩
        have F := fin5 C1 C2 C3 B4
        have hsl := sel_le D X n
        obtain ⟨N, hN⟩ : ∃ N, N = (sel D X n).length := ⟨_, rfl⟩
        have hFh := F.has
        have hFk := F.keep
        have hFU := F.eltU
        have hFK := F.eltK
        have hFb := F.bel
        have hhi : ∀ i, m ≤ i → i < m + N → ∃ r a, r < n ∧ ((D r).c : Int) = X ∧ (outs m U V D X n).getD i (.bool false) = .slice a 0 (D r).c := fun i hi1 hi2 => by
          obtain ⟨r, a, g1, g2, _, g3⟩ := outs_high (U := U) hDV hi1 (by rw [← hN]; exact hi2)
          exact ⟨r, a, g1, g2, g3⟩
        have hlo : ∀ i, i < m → (outs m U V D X n).getD i (.bool false) = U i := fun i hi => outs_low hi
        rw [← hN] at hFh hsl ⊢
        generalize outs m U V D X n = os at hFh hhi hlo
        have HLo := hide hlo
        have HHi := hide hhi
        clear hlo hhi F B4 HB HU C1 C2 C3 hch hownU hsz3 hne hU3 hEU hbel3 hV3 hA hB hE hna hnb hN
        go_wp2_with fail
        obtain ⟨T, hT⟩ : ∃ T, T = m + N := ⟨_, rfl⟩
        have hmT : m ≤ T := by omega
        have hTb : T ≤ 8192 := by omega
        rw [← hT] at hFh HHi ⊢
        clear hT
        go_loopw [19] (fun i wr => ∃ k : Nat, k ≤ m ∧ i = .int .i64 k ∧ ∃ dq, wr = w4.drewN dq) (fun i _ => m - (intOf i).toNat)
        case atStart => exact ⟨0, by omega, rfl, 0, rfl⟩
        case round =>
          obtain ⟨k, hk, rfl, dq, hwr⟩ := hrel
          have HWR := hide hwr
          by_cases hlt : k < m
          · obtain ⟨b, off, hso, _, hc⟩ := hFh k (by omega)
            obtain ⟨b2, off2, hko, _, hc2⟩ := hFk k hlt
            obtain ⟨aU, hvU, hnU, hlU, hcU, _, hzU⟩ := hFU k hlt
            obtain ⟨aK, hvK, hnK, _, _, _, hzK⟩ := hFK k hlt
            have hcell : wr.cell? ⟨b, off + k, none⟩ = some (.slice aU (E k).l (E k).c) := by
              rw [hwr, World.cell?_drewN]
              exact hc.trans (by show some (os.getD k _) = _; rw [HLo.out k hlt, hvU])
            have hcell2 : wr.cell? ⟨b2, off2 + k, none⟩ = some (.slice aK (E k).l (E k).c) := by rw [hwr, World.cell?_drewN, hc2, hvK]
            have hnn : ((E k).nil != (E k).nil) = false := by simp
            have hcc3 : (((E k).c : Int) != ((E k).c : Int)) = false := by simp
            have HSB := hide (fun dn => sameB_any (wr.drewN dn) 0 0 aU aK (E k).l (E k).c (E k).c (E k).z (by omega) ((hwr ▸ hzU.drewN dq : Has wr _ _ _ _).drewN dn) ((hwr ▸ hzK.drewN dq : Has wr _ _ _ _).drewN dn))
            clear hc hc2 hvU hvK hzU hzK hwr
            have hi1 : (0 : Int) ≤ (k : Int) := by omega
            have hi2 : (k : Int) < (T : Int) := by omega
            have hi3 : (k : Int) < (m : Int) := by omega
            go_wp2_with fail
            go_quiet ((go_at_call 13; exact Calls.quiet_of (HSB.out _)))
            go_wp2_with fail
            go_roundw
            case rel => exact ⟨k + 1, by omega, by go_num, dq + nq, by rw [HWR.out, World.drewN_drewN]⟩
            case measure => simp [intOf]; omega
          · obtain rfl : m = k := by omega
            have hbel : Below w.heap.size w wr := by rw [hwr]; exact below_drewN hFb dq
            have HBel := hide hbel
            have hFw : Has wr 0 so T (fun i => os.getD i (.bool false)) := by rw [hwr]; exact hFh.drewN dq
            clear hwr hbel hFh
            go_wp2_with fail
            go_loop [20] (fun i => ∃ j : Nat, m ≤ j ∧ j ≤ T ∧ i = .int .i64 j) (fun i => T - (intOf i).toNat)
            case atStart => exact ⟨m, by omega, by omega, rfl⟩
            case round =>
              obtain ⟨j, hj1, hj2, rfl⟩ := hrel
              by_cases hlt3 : j < T
              · obtain ⟨b, off, hso, _, hc⟩ := hFw j hlt3
                obtain ⟨r, a, hr, hx, hov⟩ := HHi.out j hj1 hlt3
                have hcell : wr.cell? ⟨b, off + j, none⟩ = some (.slice a 0 (D r).c) := hc.trans (by show some (os.getD j _) = _; rw [hov])
                have hx2 : (((D r).c : Int) != X) = false := by rw [hx]; simp
                clear hc hov hx
                go_wp2_with fail
                go_round
                case rel => exact ⟨j + 1, by omega, by omega, by go_num⟩
                case measure => simp [intOf]; omega
              · go_wp2_with fail
                go_ret
                exact ⟨rfl, HBel.out⟩
end Go.Proofs.Qxb6001055aMods
