/-
  What the walks say of memory: slices of byte slices, told by descriptors. No program in sight.
-/
import Derived.WalkKit
import Derived.Deep.OwnRows
namespace Go.Proofs.Qxb6001055aMods
open Go.RowKit

theorem hide {p : Prop} (h : p) : Hid p := h

/-- The first n cells behind a slice's address hold f; they lie in a block from lo on. -/
def Has (w : World) (lo : Nat) (ao : Option Addr) (n : Nat) (f : Nat → Value) : Prop :=
  ∀ i, i < n → ∃ b off, ao = some ⟨b, off, none⟩ ∧ lo ≤ b ∧ w.cell? ⟨b, off + i, none⟩ = some (f i)

/-- One chunk as it is told: is it nil, its length, its capacity, its bytes. -/
structure Ck where
  nil : Bool
  l : Nat
  c : Nat
  z : Nat → Int

/-- The value v is a byte slice as d tells it. -/
def Elt (w : World) (lo : Nat) (v : Value) (d : Ck) : Prop :=
  ∃ ao : Option Addr, v = .slice ao d.l d.c ∧ ao.isNone = d.nil ∧ d.l ≤ d.c ∧ d.c ≤ 140737488355328 ∧ (d.nil = true → d.c = 0) ∧ Has w lo ao d.l (fun i => .int .u8 (d.z i))

theorem Has.pos {w : World} {lo : Nat} {ao : Option Addr} {n : Nat} {f : Nat → Value} (h : Has w lo ao n f) (hn : 0 < n) :
    ∃ b off, ao = some ⟨b, off, none⟩ ∧ lo ≤ b ∧ ∀ i, i < n → w.cell? ⟨b, off + i, none⟩ = some (f i) := by
  obtain ⟨b, off, rfl, hb, _⟩ := h 0 hn
  refine ⟨b, off, rfl, hb, fun i hi => ?_⟩
  obtain ⟨b', off', e, _, hc⟩ := h i hi
  simp only [Option.some.injEq, Addr.mk.injEq] at e
  obtain ⟨rfl, rfl, _⟩ := e
  exact hc

/-- What was there, and lies from lo on, is as it was. -/
def Same (lo : Nat) (w w' : World) : Prop := ∀ k, lo ≤ k → k < w.heap.size → w'.heap[k]? = w.heap[k]?

theorem Has.same {w w' : World} {lo : Nat} {ao : Option Addr} {n : Nat} {f : Nat → Value} (h : Has w lo ao n f) (hs : Same lo w w') : Has w' lo ao n f := by
  intro i hi
  obtain ⟨b, off, e, hb, hc⟩ := h i hi
  refine ⟨b, off, e, hb, ?_⟩
  rw [← hc]
  exact World.cell?_of_block (w := w) (hs b hb (World.block_lt_of_cell? w _ hc))

theorem Has.mono {w : World} {lo lo' : Nat} {ao : Option Addr} {n : Nat} {f : Nat → Value} (h : Has w lo ao n f) (hl : lo' ≤ lo) : Has w lo' ao n f := by
  intro i hi
  obtain ⟨b, off, e, hb, hc⟩ := h i hi
  exact ⟨b, off, e, Nat.le_trans hl hb, hc⟩

theorem Elt.same {w w' : World} {lo : Nat} {v : Value} {d : Ck} (h : Elt w lo v d) (hs : Same lo w w') : Elt w' lo v d := by
  obtain ⟨ao, h1, h2, h3, h4, h5, h6⟩ := h
  exact ⟨ao, h1, h2, h3, h4, h5, h6.same hs⟩

theorem Elt.mono {w : World} {lo lo' : Nat} {v : Value} {d : Ck} (h : Elt w lo v d) (hl : lo' ≤ lo) : Elt w lo' v d := by
  obtain ⟨ao, h1, h2, h3, h4, h5, h6⟩ := h
  exact ⟨ao, h1, h2, h3, h4, h5, h6.mono hl⟩

theorem Same.of_below {w w' : World} {lo : Nat} (h : Below w.heap.size w w') : Same lo w w' := fun k _ hk => h.block k hk

/-- What a copy holds behind k rounds: the outer row lies in block B; the first k elements are as D tells; the others are nil yet. -/
def Cop (w : World) (n : Nat) (D : Nat → Ck) (k : Nat) (wr : World) : Prop :=
  Below w.heap.size w wr ∧ w.heap.size < wr.heap.size ∧ ∃ U : Nat → Value, wr.rowIs w.heap.size 32 n U ∧ (∀ r, r < k → Elt wr (w.heap.size + 1) (U r) (D r)) ∧ ∀ r, k ≤ r → U r = .slice none 0 0

theorem Cop.start (w : World) (n : Nat) (D : Nat → Ck) : Cop w n D 0 (w.alloc (.cells (madeCells #[.slice none 0 0] n) 32)) :=
  ⟨(Below.refl _ _).alloc (Nat.le_refl _) _, by simp, fun _ => .slice none 0 0, World.rowIs_made _ _ _ _, fun r hr => absurd hr (Nat.not_lt_zero r), fun _ _ => rfl⟩

theorem Elt.nilOf {w w' : World} {lo lo' : Nat} {v : Value} {d : Ck} (h : Elt w lo v d) (hn : d.nil = true) : Elt w' lo' (.slice none 0 0) d := by
  obtain ⟨ao, rfl, h2, h3, h4, h5, h6⟩ := h
  have hc := h5 hn
  have hl : d.l = 0 := by omega
  exact ⟨none, by rw [hc, hl], by rw [hn]; rfl, h3, h4, h5, fun i hi => absurd hi (by omega)⟩

theorem Cop.skip {w wr : World} {n k lo : Nat} {D : Nat → Ck} {v : Value} (h : Cop w n D k wr) (he : Elt w lo v (D k)) (hn : (D k).nil = true) : Cop w n D (k + 1) wr := by
  obtain ⟨h1, h2, U, h3, h4, h5⟩ := h
  refine ⟨h1, h2, U, h3, fun r hr => ?_, fun r hr => h5 r (by omega)⟩
  by_cases e : r = k
  · subst e
    rw [h5 r (Nat.le_refl _)]
    exact he.nilOf hn
  · exact h4 r (by omega)

theorem Cop.put {w wr w2 : World} {n k lo : Nat} {D : Nat → Ck} {v : Value} {g : Nat → Value} (h : Cop w n D k wr) (he : Elt w lo v (D k)) (hn : (D k).nil = false)
    (hb : Below wr.heap.size wr w2) (hr : w2.rowIs wr.heap.size 5 (D k).c g) (hg : ∀ i, i < (D k).l → g i = .int .u8 ((D k).z i)) :
    Cop w n D (k + 1) (w2.setCell ⟨w.heap.size, k, none⟩ (.slice (some ⟨wr.heap.size, 0, none⟩) (D k).l (D k).c)) := by
  obtain ⟨h1, h2, U, h3, h4, h5⟩ := h
  obtain ⟨ao, _, _, e3, e4, e5, _⟩ := he
  have hsz : (w2.setCell ⟨w.heap.size, k, none⟩ (.slice (some ⟨wr.heap.size, 0, none⟩) (D k).l (D k).c)).heap.size = w2.heap.size := by simp [World.setCell]
  refine ⟨((h1.trans (hb.mono (by omega)))).setCell (Nat.le_refl _) _, by rw [hsz]; have := hb.size; omega, _, (h3.of_block (hb.block _ h2)).set k _, fun r hr' => ?_, fun r hr' => ?_⟩
  · by_cases e : r = k
    · subst e
      rw [if_pos rfl]
      refine ⟨some ⟨wr.heap.size, 0, none⟩, rfl, by rw [hn]; rfl, e3, e4, e5, fun i hi => ⟨wr.heap.size, 0, rfl, by omega, ?_⟩⟩
      have := (hr.setOther (a := ⟨w.heap.size, r, none⟩) (by show wr.heap.size ≠ w.heap.size; omega) (.slice (some ⟨wr.heap.size, 0, none⟩) (D r).l (D r).c)).cell (i := i) (by omega)
      rw [Nat.zero_add, this, hg i hi]
    · rw [if_neg e]
      refine (h4 r (by omega)).same fun j hj1 hj2 => ?_
      rw [Go.RowKit.Below.heap_setCell _ _ _ _ (by show j ≠ w.heap.size; omega)]
      exact hb.block j hj2
  · show (if r = k then _ else U r) = _
    rw [if_neg (by omega)]
    exact h5 r (by omega)

end Go.Proofs.Qxb6001055aMods
