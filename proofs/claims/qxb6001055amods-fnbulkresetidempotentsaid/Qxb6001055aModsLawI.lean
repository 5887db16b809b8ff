/-
  The walks of zzSameList (15) and FnBulkResetIdempotent (6).
-/
import Derived.Test.Qxb6001055aModsAll
import Derived.Test.Qxb6001055aModsSums
import Derived.Test.Qxb6001055aModsSameB
import Derived.WalkSmall
import Derived.Deep.Slices
namespace Go.Proofs.Qxb6001055aMods
open Go.RowKit

theorem Has.drawn {w : World} {lo : Nat} {ao : Option Addr} {n : Nat} {f : Nat → Value} (h : Has w lo ao n f) (d : Nat) : Has (w.drewN d) lo ao n f := h

set_option maxRecDepth 100000 in
set_option maxHeartbeats 2000000 in
theorem sameL_any (w : World) (ao bo : Option Addr) (n cap cap' : Nat) (G K : Nat → Value) (E : Nat → Ck) (hn : n ≤ 16384) (hab : ao.isNone = bo.isNone) (hG : Has w 0 ao n G) (hK : Has w 0 bo n K) (hEG : ∀ r, r < n → Elt w 0 (G r) (E r)) (hEK : ∀ r, r < n → Elt w 0 (K r) (E r)) :
    Calls Trym.prog 15 #[.slice ao n cap, .slice bo n cap'] w fun e w' => e = .returned (.bool true) ∧ ∃ dq, w' = w.drewN dq := by
  have hqn := fun (w : World) (a : Option Addr) (n c n' c' : Nat) => Lib.run_eql_slice_nil (P := Trym.prog) w 32 5 a n c n' c' Trym.underlying32
  have hqm := fun (w : World) (a : Option Addr) (n c n' c' : Nat) => Lib.run_eql_slice_nil (P := Trym.prog) w 28 32 a n c n' c' Trym.underlying28
  have hbb : (bo.isNone != bo.isNone) = false := by simp
  have hnn2 : ((n : Int) != (n : Int)) = false := by simp
  go_enter Trym.func15, Trym.ntmps15
  go_wp2_with fail
  have HAB := hide hab
  clear hab hbb
  go_loopw [5] (fun i wr => ∃ k : Nat, k ≤ n ∧ i = .int .i64 k ∧ ∃ dq, wr = w.drewN dq) (fun i _ => n - (intOf i).toNat)
  case atStart => exact ⟨0, by omega, rfl, 0, rfl⟩
  case round =>
    obtain ⟨k, hk, rfl, dq, hwr⟩ := hrel
    have HWR := hide hwr
    by_cases hlt : k < n
    · obtain ⟨b, off, hso, _, hc⟩ := hG k hlt
      obtain ⟨b2, off2, hko, _, hc2⟩ := hK k hlt
      obtain ⟨aU, hvU, hnU, hlU, hcU, _, hzU⟩ := hEG k hlt
      obtain ⟨aK, hvK, hnK, _, _, _, hzK⟩ := hEK k hlt
      have hcell : wr.cell? ⟨b, off + k, none⟩ = some (.slice aU (E k).l (E k).c) := by rw [hwr, World.cell?_drewN, hc, hvU]
      have hcell2 : wr.cell? ⟨b2, off2 + k, none⟩ = some (.slice aK (E k).l (E k).c) := by rw [hwr, World.cell?_drewN, hc2, hvK]
      have hnn : ((E k).nil != (E k).nil) = false := by simp
      have hcc3 : (((E k).c : Int) != ((E k).c : Int)) = false := by simp
      have HSB := hide (fun dn => sameB_any (wr.drewN dn) 0 0 aU aK (E k).l (E k).c (E k).c (E k).z (by omega) ((hwr ▸ hzU.drawn dq : Has wr _ _ _ _).drawn dn) ((hwr ▸ hzK.drawn dq : Has wr _ _ _ _).drawn dn))
      clear hc hc2 hvU hvK hzU hzK hwr
      have hi1 : (0 : Int) ≤ (k : Int) := by omega
      have hi2 : (k : Int) < (n : Int) := by omega
      go_wp2_with fail
      go_quiet ((go_at_call 13; exact Calls.quiet_of (HSB.out _)))
      go_wp2_with fail
      subst hso hko
      go_roundw
      case rel => exact ⟨k + 1, by omega, by go_num, dq + nq, by rw [HWR.out, World.drewN_drewN]⟩
      case measure => simp [intOf]; omega
    · clear hwr
      go_wp2_with fail
      go_ret
      exact ⟨rfl, dq, HWR.out⟩

/-- What the spare holds behind the reset, told anew for the copy: each element is some chunk. -/
theorem outs_elt {w w1 w2 w3 : World} {ao bo co vo so : Option Addr} {n m cc mc sc : Nat} {V U : Nat → Value} {D E : Nat → Ck} {u : Int} (h1 : Copied w w1 ao n D co cc V) (h2 : Copied w1 w2 bo m E vo mc U)
    (h4 : Bulked w2 w3 w1.heap.size w.heap.size (.slice vo m mc) m n ((List.range m).map U) V D u so sc) :
    Below w.heap.size w w3 ∧ ∃ (G : Nat → Value) (F : Nat → Ck), Has w3 0 so (m + (sel D u n).length) G ∧ ∀ i, i < m + (sel D u n).length → Elt w3 0 (G i) (F i) := by
  obtain ⟨_, hDV, _, _, _, _, hE3, hb3⟩ := handed h1 h2 (Below.refl _ w2)
  have hs1 : Same (w1.heap.size + 1) w2 w3 := same_wrote h1 h2 h4.wrote (Nat.le_refl _)
  refine ⟨hb3.trans (h4.wrote.below hb3.size fun j hx => ?_), ?_⟩
  · rcases hx with e | ⟨_, e⟩
    · rcases h2.blk with e' | e'
      · rw [e'] at e; cases e
      · rw [e'] at e
        simp only [Option.some.injEq] at e
        have := h1.bel.size
        omega
    · omega
  · have each : ∀ i, i < m + (sel D u n).length → ∃ f : Bool × Nat × Nat × (Nat → Int), Elt w3 0 ((outs m U V D u n).getD i (.bool false)) ⟨f.1, f.2.1, f.2.2.1, f.2.2.2⟩ := by
      intro i hi
      by_cases hm : i < m
      · refine ⟨((E i).nil, (E i).l, (E i).c, (E i).z), ?_⟩
        rw [outs_low hm]
        exact ((hE3 i hm).same hs1).mono (Nat.zero_le _)
      · obtain ⟨r, a, hr, _, ha, hv⟩ := outs_high (U := U) hDV (Nat.le_of_not_lt hm) hi
        obtain ⟨_, _, _, _, g4, g5, _⟩ := hDV r hr
        refine ⟨((D r).nil, 0, (D r).c, fun _ => 0), ?_⟩
        rw [hv]
        exact ⟨a, rfl, ha, Nat.zero_le _, g4, g5, fun i hi => absurd hi (Nat.not_lt_zero i)⟩
    obtain ⟨f, hf⟩ := Go.Deep.choose_lt each
    exact ⟨fun i => (outs m U V D u n).getD i (.bool false), fun i => ⟨(f i).1, (f i).2.1, (f i).2.2.1, (f i).2.2.2⟩, (has_of_owns h4.own).mono (Nat.zero_le _), hf⟩

set_option maxRecDepth 100000 in
set_option maxHeartbeats 2000000 in
theorem lawI_walk (w : World) (ao bo : Option Addr) (n m cap cap' : Nat) (A B : Nat → Value) (D E : Nat → Ck) (l q ud : Int) (hn : n ≤ 140737488355328) (hm : m ≤ 140737488355328)
    (h0 : -9223372036854775808 ≤ l) (h1 : l ≤ 9223372036854775807) (hq0 : -9223372036854775808 ≤ q) (hq1 : q ≤ 9223372036854775807)
    (hA : Has w 0 ao n A) (hD : ∀ r, r < n → Elt w 0 (A r) (D r)) (hB : Has w 0 bo m B) (hE : ∀ r, r < m → Elt w 0 (B r) (E r)) (hna : ao.isNone = true → n = 0) (hnb : bo.isNone = true → m = 0) :
    Calls Trym.prog 6 #[.int .i64 l, .slice ao n cap, .slice bo m cap', .int .i64 q, .int .i64 ud] w fun e w' => e = .returned (.bool true) ∧ Below w.heap.size w w' := by
  go_enter Trym.func6, Trym.ntmps6
  go_wp2_with fail
  refine (bytes14_any w 0 ao bo n m cap cap' A B D E l q ud hn hm hA hD hB hE).mono ?_
  rintro e w1 ⟨⟨x, rfl⟩, rfl⟩
  cases x with
  | false =>
    go_wp2_with fail
    go_ret
    exact ⟨rfl, Below.refl _ _⟩
  | true =>
  go_wp2_with fail
  refine (tooBig_any _ 0 ao bo n m cap cap' A B D E q hn hm hq0 hq1 hA hD hB hE).mono ?_
  rintro e w2 ⟨hx, rfl⟩
  rcases hx with rfl | ⟨rfl, hn2, hm2, hq2, hq3⟩
  · go_wp2_with fail
    go_ret
    exact ⟨rfl, Below.refl _ _⟩
  go_wp2_with fail
  refine (copy_all _ 0 ao n cap A D (by omega) hA hD hna).mono ?_
  rintro e w1 ⟨co, cc, V, rfl, C1⟩
  go_wp2_with fail
  refine (copy_all _ 0 bo m cap' B E (by omega) (hB.same (Same.of_below C1.bel)) (fun r hr => (hE r hr).same (Same.of_below C1.bel)) hnb).mono ?_
  rintro e w2 ⟨vo, mc, U, rfl, C2⟩
  obtain ⟨hch, hDV, hownU, hsz3, hne, hU3, hEU, hbel3⟩ := handed C1 C2 (Below.refl _ w2)
  have HB := hide (bulk_all w2 w1.heap.size w.heap.size n cc l ud q co vo m mc ((List.range m).map U) V D h0 h1 hq2 hq3 (by omega) (by omega) hch hDV hownU hsz3 hne)
  go_wp2_with fail
  refine HB.out.mono ?_
  rintro e w3 ⟨so, sc, rfl, B4⟩
  obtain ⟨hb3, G, F, hHs, hF⟩ := outs_elt C1 C2 B4
  have hnil := nil_of_owns B4.own
  have hsl := sel_le D (usual l) n
  clear HB C1 C2 B4 hch hDV hownU hsz3 hne hU3 hEU hbel3 hA hD hB hE hna hnb
  obtain ⟨T, hT⟩ : ∃ T, T = m + (sel D (usual l) n).length := ⟨_, rfl⟩
  have hTb : T ≤ 8192 := by omega
  rw [← hT] at hHs hF hnil ⊢
  clear hT
  go_wp2_with fail
  refine (copy_all w3 0 so T sc G F (by omega) hHs hF hnil).mono ?_
  rintro e w4 ⟨ko, kc, K, rfl, C3⟩
  go_wp2_with fail
  refine (bulk_zero w4 cc l 0 0 co so T sc (by omega) (by omega)).mono ?_
  rintro e w5 ⟨rfl, hb5⟩
  have hb35 := copied_mono C3.bel hb5
  have hL := sameL_any w5 so ko T sc kc G K F (by omega) C3.nil.symm (hHs.same (Same.of_below hb35)) ((C3.has.same (Same.of_below hb5)).mono (Nat.zero_le _))
    (fun r hr => (hF r hr).same (Same.of_below hb35)) (fun r hr => ((C3.elt r hr).same (Same.of_below hb5)).mono (Nat.zero_le _))
  have HL := hide hL
  have HBel := hide (hb3.trans (hb35.mono hb3.size))
  clear hL C3 hHs hF hnil hb35 hb5 hb3
  go_wp2_with fail
  refine HL.out.mono ?_
  rintro e w6 ⟨rfl, dq, rfl⟩
  go_wp2_with fail
  go_ret
  exact ⟨rfl, below_drewN HBel.out dq⟩

end Go.Proofs.Qxb6001055aMods
