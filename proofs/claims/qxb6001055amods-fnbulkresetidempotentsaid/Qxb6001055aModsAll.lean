/-
  The contracts of zzCopyChunks and ZZBulkReset in one form for nil, empty and any other slice.
-/
import Derived.Test.Qxb6001055aModsCopy
import Derived.Test.Qxb6001055aModsBulk
namespace Go.Proofs.Qxb6001055aMods
open Go.RowKit

/-- A row of one's own, of n cells, as 'ownsRow' has it. -/
theorem owns_of_row {w : World} {g n : Nat} {U : Nat → Value} (h : w.rowIs g 32 n U) (hn : n ≤ 16384) (base : Nat) (hb : base ≤ g) : w.ownsRow base 32 1 (.slice (some ⟨g, 0, none⟩) n n) n ((List.range n).map U) := by
  obtain ⟨c, hc, hs, hv⟩ := h
  refine ⟨by simp, .inr ⟨g, n, c, rfl, hb, hc, Nat.le_refl _, by unfold maxLen; omega, by omega, ?_⟩⟩
  apply List.ext_getElem
  · simp [hs]
  · intro i h1 h2
    simp at h1 h2
    have := hv i (by omega)
    rw [Array.getElem?_eq_getElem (by omega)] at this
    simp at this
    simpa using this

theorem has_of_row {w : World} {g n : Nat} {U : Nat → Value} (h : w.rowIs g 32 n U) (lo : Nat) (hb : lo ≤ g) : Has w lo (some ⟨g, 0, none⟩) n U :=
  fun i hi => ⟨g, 0, rfl, hb, by rw [Nat.zero_add]; exact h.cell hi⟩

/-- What zzCopyChunks leaves. -/
structure Copied (w w' : World) (ao : Option Addr) (n : Nat) (D : Nat → Ck) (co : Option Addr) (cc : Nat) (U : Nat → Value) : Prop where
  nil : co.isNone = ao.isNone
  bel : Below w.heap.size w w'
  has : Has w' w.heap.size co n U
  elt : ∀ r, r < n → Elt w' (w.heap.size + 1) (U r) (D r)
  own : w'.ownsRow w.heap.size 32 1 (.slice co n cc) n ((List.range n).map U)
  blk : (Value.slice co n cc).ownBlock = none ∨ (Value.slice co n cc).ownBlock = some w.heap.size
  row : 0 < n → co = some ⟨w.heap.size, 0, none⟩ ∧ w'.rowIs w.heap.size 32 n U

theorem copy_all (w : World) (lo : Nat) (ao : Option Addr) (n cap : Nat) (V : Nat → Value) (D : Nat → Ck) (hn : n ≤ 16384) (hV : Has w lo ao n V) (hD : ∀ r, r < n → Elt w lo (V r) (D r)) (hnil : ao.isNone = true → n = 0) :
    Calls Trym.prog 11 #[.slice ao n cap] w fun e w' => ∃ co cc U, e = .returned (.slice co n cc) ∧ Copied w w' ao n D co cc U := by
  cases hao : ao.isNone with
  | true =>
    obtain rfl : ao = none := by simpa using hao
    have hz := hnil rfl
    subst hz
    refine (copy_nil w 0 cap).mono ?_
    rintro e w' ⟨rfl, rfl⟩
    exact ⟨none, 0, V, rfl, rfl, Below.refl _ _, fun i hi => absurd hi (Nat.not_lt_zero i), fun i hi => absurd hi (Nat.not_lt_zero i), World.ownsRow_nil _ _ _ _, .inl rfl, fun h => absurd h (Nat.lt_irrefl 0)⟩
  | false =>
    refine (copy_any w lo ao n cap V D hn hV hD hao).mono ?_
    rintro e w' ⟨rfl, hb, hs, U, hrow, helt, _⟩
    exact ⟨some ⟨w.heap.size, 0, none⟩, n, U, rfl, by rw [hao]; rfl, hb, has_of_row hrow _ (Nat.le_refl _), helt, owns_of_row hrow hn _ (Nat.le_refl _), .inr rfl, fun _ => ⟨rfl, hrow⟩⟩

/-- What ZZBulkReset leaves. -/
structure Bulked (w w' : World) (base gc : Nat) (vs : Value) (m n : Nat) (xs : List Value) (V : Nat → Value) (D : Nat → Ck) (u : Int) (so : Option Addr) (sc : Nat) : Prop where
  own : w'.ownsRow base 32 1 (.slice so (m + (sel D u n).length) sc) (m + (sel D u n).length) (xs ++ (sel D u n).map fun r => cut0 (V r))
  lies : (Value.slice so (m + (sel D u n).length) sc).ownBlock = vs.ownBlock ∨ ∃ g, (Value.slice so (m + (sel D u n).length) sc).ownBlock = some g ∧ w.heap.size ≤ g
  wrote : Wrote (fun j => vs.ownBlock = some j ∨ (0 < n ∧ j = gc)) w w'

theorem bulk_all (w : World) (base gc cn cc : Nat) (l ud q : Int) (co vo : Option Addr) (m mc : Nat) (xs : List Value) (V : Nat → Value) (D : Nat → Ck)
    (h0 : -9223372036854775808 ≤ l) (h1 : l ≤ 9223372036854775807) (hq0 : 0 ≤ q) (hq1 : q ≤ 65536) (hcn2 : cn ≤ 16384) (hm : m ≤ 16384)
    (hch : 0 < cn → co = some ⟨gc, 0, none⟩ ∧ w.rowIs gc 32 cn V) (hD : ∀ r, r < cn → Elt w 0 (V r) (D r)) (hown : w.ownsRow base 32 1 (.slice vo m mc) m xs) (hbase : base ≤ w.heap.size) (hne2 : 0 < cn → (Value.slice vo m mc).ownBlock ≠ some gc) :
    Calls Trym.prog 12 #[.int .i64 l, .slice co cn cc, .slice vo m mc, .int .i64 q, .int .i64 ud] w fun e w' => ∃ so sc,
      e = .returned (.tuple #[.slice co 0 cc, .slice so (m + (sel D (usual l) cn).length) sc, .int .i64 0, .int .i64 0]) ∧ Bulked w w' base gc (.slice vo m mc) m cn xs V D (usual l) so sc := by
  by_cases hz : 0 < cn
  · obtain ⟨rfl, hrow⟩ := hch hz
    refine (bulk_any w base gc cn cc l ud q vo m mc xs V D h0 h1 hq0 hq1 hz hcn2 hm hrow hD hown hbase (hne2 hz)).mono ?_
    rintro e w' ⟨v, rfl, ho, hl, hw⟩
    obtain ⟨so, sc, rfl⟩ : ∃ so sc, v = .slice so (m + (sel D (usual l) cn).length) sc := by
      rcases ho.2 with ⟨h, hn⟩ | ⟨g, cap, cur, h, _⟩
      · exact ⟨none, 0, by rw [h, hn]⟩
      · exact ⟨_, _, h⟩
    exact ⟨so, sc, rfl, ho, hl, hw.mono fun j hj => by rcases hj with h | h; exact .inl h; exact .inr ⟨hz, h⟩⟩
  · have : cn = 0 := by omega
    subst this
    refine (bulk_zero w cc l ud q co vo m mc hq0 hq1).mono ?_
    rintro e w' ⟨rfl, hb⟩
    have hs : (sel D (usual l) 0) = [] := rfl
    refine ⟨vo, mc, by rw [hs]; rfl, ?_, ?_, ?_⟩
    · rw [hs]
      simp only [List.length_nil, Nat.add_zero, List.map_nil, List.append_nil]
      exact hown.kept (row := none) ⟨hb.os, hb.tape, hb.output, hb.size, fun k hk _ => hb.block k hk⟩ (by cases h : (Value.slice vo m mc).ownBlock <;> simp)
    · exact .inl rfl
    · exact ⟨hb.os, hb.tape, hb.output, hb.size, fun j hj _ => hb.block j hj⟩

theorem has_of_owns {w : World} {base n cap : Nat} {ao : Option Addr} {xs : List Value} (h : w.ownsRow base 32 1 (.slice ao n cap) n xs) : Has w base ao n (fun i => xs.getD i (.bool false)) := by
  rcases h.2 with ⟨h', hn⟩ | ⟨g, cap', cur, h', hb, hg, hnc, hm, hcs, ht⟩
  · exact fun i hi => absurd hi (by omega)
  · simp only [Value.slice.injEq] at h'
    obtain ⟨rfl, _, rfl⟩ := h'
    intro i hi
    refine ⟨g, 0, rfl, hb, ?_⟩
    rw [Nat.zero_add, World.ownsRow.cellAt h i (by omega)]
    have hl : i < xs.length := by rw [h.1]; omega
    show _ = some (xs.getD i (.bool false))
    rw [List.getD_eq_getElem?_getD, List.getElem?_eq_getElem hl]
    rfl

theorem nil_of_owns {w : World} {base n cap : Nat} {ao : Option Addr} {xs : List Value} (h : w.ownsRow base 32 1 (.slice ao n cap) n xs) : ao.isNone = true → n = 0 := by
  intro ha
  rcases h.2 with ⟨_, hn⟩ | ⟨g, cap', cur, h', _⟩
  · exact hn
  · simp only [Value.slice.injEq] at h'
    rw [h'.1] at ha
    simp at ha

/-- The elements of the spare behind the reset. -/
def outs (m : Nat) (U V : Nat → Value) (D : Nat → Ck) (u : Int) (n : Nat) : List Value := (List.range m).map U ++ (sel D u n).map fun r => cut0 (V r)

theorem outs_low {m n i : Nat} {U V : Nat → Value} {D : Nat → Ck} {u : Int} (h : i < m) : (outs m U V D u n).getD i (.bool false) = U i := by
  unfold outs
  rw [List.getD_eq_getElem?_getD, List.getElem?_append_left (by simpa using h)]
  simp [h]

theorem sel_mem {D : Nat → Ck} {u : Int} {n r : Nat} (h : r ∈ sel D u n) : r < n ∧ ((D r).c : Int) = u := by
  unfold sel at h
  rw [List.mem_filter, List.mem_range, beq_iff_eq] at h
  exact h

theorem outs_high {w : World} {lo m n i : Nat} {U V : Nat → Value} {D : Nat → Ck} {u : Int} (hD : ∀ r, r < n → Elt w lo (V r) (D r)) (h : m ≤ i) (h2 : i < m + (sel D u n).length) :
    ∃ r a, r < n ∧ ((D r).c : Int) = u ∧ a.isNone = (D r).nil ∧ (outs m U V D u n).getD i (.bool false) = .slice a 0 (D r).c := by
  unfold outs
  rw [List.getD_eq_getElem?_getD, List.getElem?_append_right (by simpa using h)]
  simp only [List.length_map, List.length_range]
  have hl : i - m < (sel D u n).length := by omega
  obtain ⟨hr, hc⟩ := sel_mem (List.getElem_mem hl)
  rw [List.getElem?_map, List.getElem?_eq_getElem hl]
  obtain ⟨a, hv, ha, _⟩ := hD _ hr
  refine ⟨_, a, hr, hc, ha, ?_⟩
  show cut0 (V (sel D u n)[i - m]) = _
  rw [hv]
  rfl

/-- What the law finds behind the three copies and the reset. -/
structure Fin5 (w w4 : World) (m n : Nat) (U V K : Nat → Value) (D E : Nat → Ck) (u : Int) (so ko : Option Addr) (sc : Nat) : Prop where
  bel : Below w.heap.size w w4
  has : Has w4 0 so (m + (sel D u n).length) (fun i => (outs m U V D u n).getD i (.bool false))
  keep : Has w4 0 ko m K
  eltU : ∀ r, r < m → Elt w4 0 (U r) (E r)
  eltK : ∀ r, r < m → Elt w4 0 (K r) (E r)

theorem copied_mono {w w1 w2 : World} (h : Below w.heap.size w w1) (h' : Below w1.heap.size w1 w2) : Below w.heap.size w w2 := h.trans (h'.mono h.size)

/-- What the reset is handed: the chunks' and the spare's copies as they lie in the world behind the third copy (or the second). -/
theorem handed {w w1 w2 w3 : World} {ao bo co vo : Option Addr} {n m cc mc : Nat} {V U : Nat → Value} {D E : Nat → Ck} (h1 : Copied w w1 ao n D co cc V) (h2 : Copied w1 w2 bo m E vo mc U) (h3 : Below w2.heap.size w2 w3) :
    (0 < n → co = some ⟨w.heap.size, 0, none⟩ ∧ w3.rowIs w.heap.size 32 n V) ∧ (∀ r, r < n → Elt w3 0 (V r) (D r)) ∧ w3.ownsRow w1.heap.size 32 1 (.slice vo m mc) m ((List.range m).map U) ∧ w1.heap.size ≤ w3.heap.size ∧
      (0 < n → (Value.slice vo m mc).ownBlock ≠ some w.heap.size) ∧ Has w3 w1.heap.size vo m U ∧ (∀ r, r < m → Elt w3 (w1.heap.size + 1) (U r) (E r)) ∧ Below w.heap.size w w3 := by
  have h13 : Below w1.heap.size w1 w3 := copied_mono h2.bel h3
  refine ⟨fun hn => ?_, fun r hr => ((h1.elt r hr).mono (Nat.zero_le _)).same (Same.of_below h13), ?_, h13.size, fun hn e => ?_, h2.has.same (Same.of_below h3), fun r hr => (h2.elt r hr).same (Same.of_below h3), copied_mono h1.bel h13⟩
  · obtain ⟨e, hrow⟩ := h1.row hn
    exact ⟨e, hrow.of_block (h13.block _ hrow.lt)⟩
  · exact h2.own.kept (row := none) ⟨h3.os, h3.tape, h3.output, h3.size, fun k hk _ => h3.block k hk⟩ (by cases h : (Value.slice vo m mc).ownBlock <;> simp)
  · obtain ⟨_, hrow⟩ := h1.row hn
    have := hrow.lt
    rcases h2.blk with e' | e'
    · rw [e'] at e; cases e
    · rw [e'] at e
      simp only [Option.some.injEq] at e
      omega

theorem same_wrote {w w1 w2 w3 w4 : World} {ao bo co vo : Option Addr} {n m cc mc lo : Nat} {V U : Nat → Value} {D E : Nat → Ck} (h1 : Copied w w1 ao n D co cc V) (h2 : Copied w1 w2 bo m E vo mc U)
    (hw : Wrote (fun j => (Value.slice vo m mc).ownBlock = some j ∨ (0 < n ∧ j = w.heap.size)) w3 w4) (hlo : w1.heap.size + 1 ≤ lo) : Same lo w3 w4 := by
  intro j hj hj2
  refine hw.block j hj2 fun hx => ?_
  rcases hx with e | ⟨hn, e⟩
  · rcases h2.blk with e' | e'
    · rw [e'] at e; cases e
    · rw [e'] at e
      simp only [Option.some.injEq] at e
      omega
  · have := (h1.row hn).2.lt
    omega

theorem fin5 {w w1 w2 w3 w4 : World} {ao bo co vo ko so : Option Addr} {n m cc mc kc sc : Nat} {V U K : Nat → Value} {D E : Nat → Ck} {u : Int} (h1 : Copied w w1 ao n D co cc V) (h2 : Copied w1 w2 bo m E vo mc U) (h3 : Copied w2 w3 vo m E ko kc K)
    (h4 : Bulked w3 w4 w1.heap.size w.heap.size (.slice vo m mc) m n ((List.range m).map U) V D u so sc) : Fin5 w w4 m n U V K D E u so ko sc := by
  obtain ⟨_, _, _, _, _, _, hE3, hb3⟩ := handed h1 h2 h3.bel
  have hs1 : ∀ lo, w1.heap.size + 1 ≤ lo → Same lo w3 w4 := fun lo hlo => same_wrote h1 h2 h4.wrote hlo
  refine ⟨hb3.trans (h4.wrote.below hb3.size fun j hx => ?_), ?_, ?_, fun r hr => ((hE3 r hr).same (hs1 _ (Nat.le_refl _))).mono (Nat.zero_le _), fun r hr => ?_⟩
  · rcases hx with e | ⟨_, e⟩
    · rcases h2.blk with e' | e'
      · rw [e'] at e; cases e
      · rw [e'] at e
        simp only [Option.some.injEq] at e
        have := h1.bel.size
        omega
    · omega
  · exact (has_of_owns h4.own).mono (Nat.zero_le _)
  · by_cases hm : 0 < m
    · have hlt := ((h2.row hm).2).lt
      exact (h3.has.same (hs1 _ (by omega))).mono (Nat.zero_le _)
    · exact fun i hi => absurd hi (by omega)
  · have hlt := ((h2.row (by omega)).2).lt
    exact ((h3.elt r hr).same (hs1 _ (by omega))).mono (Nat.zero_le _)

end Go.Proofs.Qxb6001055aMods
