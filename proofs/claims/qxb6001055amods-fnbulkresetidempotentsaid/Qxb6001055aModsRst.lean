/-
  What reset's loop holds behind k rounds, and what a round does to it. No program in sight.
-/
import Derived.Test.Qxb6001055aModsMat
import Derived.OneCell
import Derived.Deep.AppendLies
namespace Go.Proofs.Qxb6001055aMods
open Go.RowKit

/-- 'c[:0]' -/
def cut0 : Value → Value
  | .slice a _ c => .slice a 0 c
  | v => v

/-- Which of the first k chunks are of the usual size. -/
def sel (D : Nat → Ck) (u : Int) (k : Nat) : List Nat := (List.range k).filter (fun r => ((D r).c : Int) == u)

theorem sel_hit {D : Nat → Ck} {u : Int} {k : Nat} (h : (((D k).c : Int) == u) = true) : sel D u (k + 1) = sel D u k ++ [k] := by
  unfold sel
  rw [List.range_succ, List.filter_append]
  simp [h]

theorem sel_miss {D : Nat → Ck} {u : Int} {k : Nat} (h : (((D k).c : Int) == u) = false) : sel D u (k + 1) = sel D u k := by
  unfold sel
  rw [List.range_succ, List.filter_append]
  simp [h]

theorem sel_le (D : Nat → Ck) (u : Int) (k : Nat) : (sel D u k).length ≤ k := by
  unfold sel
  have := List.length_filter_le (fun r => ((D r).c : Int) == u) (List.range k)
  simpa using this

/-- Only blocks of X, and new ones, have been written. -/
structure Wrote (X : Nat → Prop) (w w' : World) : Prop where
  os : w'.os = w.os
  tape : w'.tape = w.tape
  output : w'.output = w.output
  size : w.heap.size ≤ w'.heap.size
  block : ∀ j, j < w.heap.size → ¬ X j → w'.heap[j]? = w.heap[j]?

theorem Wrote.refl (X : Nat → Prop) (w : World) : Wrote X w w := ⟨rfl, rfl, rfl, Nat.le_refl _, fun _ _ _ => rfl⟩
theorem Wrote.drew {X : Nat → Prop} {w w' : World} (h : Wrote X w w') : Wrote X w w'.drew := ⟨h.os, h.tape, h.output, h.size, h.block⟩
theorem Wrote.mono {X Y : Nat → Prop} {w w' : World} (h : Wrote X w w') (hxy : ∀ j, X j → Y j) : Wrote Y w w' :=
  ⟨h.os, h.tape, h.output, h.size, fun j hj hn => h.block j hj (fun hx => hn (hxy j hx))⟩
theorem Wrote.grown {X : Nat → Prop} {w w' w'' : World} {row : Option Nat} (h : Wrote X w w') (hg : w'.grownBy w'' row) (hr : ∀ j, j < w.heap.size → row = some j → X j) : Wrote X w w'' :=
  ⟨hg.os.trans h.os, hg.tape.trans h.tape, hg.output.trans h.output, Nat.le_trans h.size hg.size,
    fun j hj hn => (hg.block j (Nat.lt_of_lt_of_le hj h.size) (fun e => hn (hr j hj e.symm))).trans (h.block j hj hn)⟩
theorem Wrote.setCell {X : Nat → Prop} {w w' : World} (h : Wrote X w w') {a : Addr} (ha : a.block < w.heap.size → X a.block) (v : Value) : Wrote X w (w'.setCell a v) :=
  ⟨h.os, h.tape, h.output, by simpa [World.setCell] using h.size, fun j hj hn => by
    rw [Below.heap_setCell _ _ _ _ (fun e => hn (by subst e; exact ha hj))]
    exact h.block j hj hn⟩
theorem Wrote.below {X : Nat → Prop} {w w' : World} {B : Nat} (h : Wrote X w w') (hB : B ≤ w.heap.size) (hx : ∀ j, X j → B ≤ j) : Below B w w' :=
  ⟨h.os, h.tape, h.output, h.size, fun j hj => h.block j (Nat.lt_of_lt_of_le hj hB) (fun hX => by have := hx j hX; omega)⟩

/-- What reset's loop holds behind k rounds: the struct lies in block sb, its cells F but for the spare's; the spare is v, which owns what it owned and the emptied chunks of the usual size. -/
structure Rst (w : World) (sb base : Nat) (F : Nat → Value) (vs : Value) (m : Nat) (xs : List Value) (V : Nat → Value) (D : Nat → Ck) (u : Int) (k : Nat) (wr : World) (v : Value) : Prop where
  row : wr.rowIs sb 45 5 (fun i => if i = 2 then v else F i)
  own : wr.ownsRow base 32 1 v (m + (sel D u k).length) (xs ++ (sel D u k).map fun r => cut0 (V r))
  lies : v.ownBlock = vs.ownBlock ∨ ∃ g, v.ownBlock = some g ∧ w.heap.size ≤ g
  wrote : Wrote (fun j => j = sb ∨ vs.ownBlock = some j) w wr

theorem Rst.start {w : World} {sb base : Nat} {F : Nat → Value} {vs : Value} {m : Nat} {xs : List Value} {V : Nat → Value} {D : Nat → Ck} {u : Int} (h : w.rowIs sb 45 5 F) (h2 : F 2 = vs) (ho : w.ownsRow base 32 1 vs m xs) :
    Rst w sb base F vs m xs V D u 0 w vs :=
  ⟨h.congr (fun i _ => by by_cases e : i = 2 <;> simp [e, h2]), by simpa [sel] using ho, .inl rfl, Wrote.refl _ _⟩

theorem Rst.miss {w wr : World} {sb base : Nat} {F : Nat → Value} {vs v : Value} {m : Nat} {xs : List Value} {V : Nat → Value} {D : Nat → Ck} {u : Int} {k : Nat} (h : Rst w sb base F vs m xs V D u k wr v) (hm : (((D k).c : Int) == u) = false) :
    Rst w sb base F vs m xs V D u (k + 1) wr v :=
  ⟨h.row, by rw [sel_miss hm]; exact h.own, h.lies, h.wrote⟩

/-- The spare's row is not the struct's block. -/
theorem Rst.apart {w wr : World} {sb base : Nat} {F : Nat → Value} {vs v : Value} {m : Nat} {xs : List Value} {V : Nat → Value} {D : Nat → Ck} {u : Int} {k : Nat} (h : Rst w sb base F vs m xs V D u k wr v) (hsb : sb < w.heap.size) (hne : vs.ownBlock ≠ some sb) : v.ownBlock ≠ some sb := by
  rcases h.lies with e | ⟨g, e, hg⟩
  · rw [e]; exact hne
  · rw [e]
    intro h'
    simp only [Option.some.injEq] at h'
    omega

theorem Rst.hit {w wr w1 : World} {sb base : Nat} {F : Nat → Value} {vs v : Value} {m : Nat} {xs : List Value} {V : Nat → Value} {D : Nat → Ck} {u : Int} {k : Nat} {g cap : Nat} (h : Rst w sb base F vs m xs V D u k wr v) (hm : (((D k).c : Int) == u) = true)
    (hsb : sb < w.heap.size) (hne : vs.ownBlock ≠ some sb)
    (hg : wr.grownBy w1 v.ownBlock) (hat : v.ownBlock = some g ∨ wr.heap.size ≤ g)
    (ho : w1.ownsRow base 32 1 (.slice (some ⟨g, 0, none⟩) (m + (sel D u k).length + 1) cap) (m + (sel D u k).length + 1) ((xs ++ (sel D u k).map fun r => cut0 (V r)) ++ [cut0 (V k)])) :
    Rst w sb base F vs m xs V D u (k + 1) (w1.setCell ⟨sb, 2, none⟩ (.slice (some ⟨g, 0, none⟩) (m + (sel D u k).length + 1) cap)) (.slice (some ⟨g, 0, none⟩) (m + (sel D u k).length + 1) cap) := by
  have hap := h.apart hsb hne
  have hsz := h.wrote.size
  have hgsb : g ≠ sb := by
    rintro rfl
    rcases hat with e | e
    · exact hap e
    · omega
  refine ⟨?_, ?_, ?_, ?_⟩
  · have hr := h.row.of_block (w' := w1) (hg.block sb (by omega) (fun e => hap e.symm))
    refine (hr.set 2 _).congr fun i _ => ?_
    by_cases e : i = 2 <;> simp [e]
  · rw [sel_hit hm]
    have := Go.ownsRow_setCell_other ho (a := ⟨sb, 2, none⟩) (by simp [Value.ownBlock, hgsb]) (.slice (some ⟨g, 0, none⟩) (m + (sel D u k).length + 1) cap)
    simpa [List.map_append, List.append_assoc, Nat.add_assoc] using this
  · rcases hat with e | e
    · rcases h.lies with e' | ⟨g', e', hg'⟩
      · exact .inl (by rw [← e', e]; rfl)
      · rw [e'] at e
        simp only [Option.some.injEq] at e
        exact .inr ⟨g, rfl, by omega⟩
    · exact .inr ⟨g, rfl, by omega⟩
  · refine (h.wrote.grown hg fun j hj e => ?_).setCell (fun _ => .inl rfl) _
    rcases h.lies with e' | ⟨g', e', hg'⟩
    · exact .inr (by rw [← e', e])
    · rw [e'] at e
      simp only [Option.some.injEq] at e
      omega

theorem heap_setCells (b : Nat) : ∀ (vs : List Value) (o : Nat) (w : World), (∀ k, k ≠ b → (w.setCells b o vs).heap[k]? = w.heap[k]?) ∧ (w.setCells b o vs).heap.size = w.heap.size ∧ (w.setCells b o vs).os = w.os ∧ (w.setCells b o vs).tape = w.tape ∧ (w.setCells b o vs).output = w.output
  | [], _, _ => ⟨fun _ _ => rfl, rfl, rfl, rfl, rfl⟩
  | v :: vs, o, w => by
    have ih := heap_setCells b vs (o + 1) (w.setCell ⟨b, o, none⟩ v)
    refine ⟨fun k hk => ?_, ?_, ?_, ?_, ?_⟩
    · exact (ih.1 k hk).trans (Below.heap_setCell _ _ _ _ hk)
    · exact ih.2.1.trans (by simp [World.setCell])
    · exact ih.2.2.1
    · exact ih.2.2.2.1
    · exact ih.2.2.2.2

/-- What the last lines of reset find behind 'clear'. -/
structure Cleared (w : World) (sb base gc : Nat) (F : Nat → Value) (vs : Value) (n : Nat) (xs : List Value) (wr : World) (v : Value) : Prop where
  row : wr.rowIs sb 45 5 (fun i => if i = 2 then v else F i)
  own : wr.ownsRow base 32 1 v n xs
  lies : v.ownBlock = vs.ownBlock ∨ ∃ g, v.ownBlock = some g ∧ w.heap.size ≤ g
  wrote : Wrote (fun j => j = sb ∨ vs.ownBlock = some j ∨ j = gc) w wr

theorem Rst.cleared {w wr : World} {sb base gc n : Nat} {F : Nat → Value} {vs v : Value} {m : Nat} {xs : List Value} {V : Nat → Value} {D : Nat → Ck} {u : Int} {k : Nat} (h : Rst w sb base F vs m xs V D u k wr v) (hne : gc ≠ sb) (hne2 : v.ownBlock ≠ some gc) :
    Cleared w sb base gc F vs (m + (sel D u k).length) (xs ++ (sel D u k).map fun r => cut0 (V r)) (wr.setCells gc 0 (List.replicate n (.slice none 0 0))) v := by
  obtain ⟨a1, a2, a3, a4, a5⟩ := heap_setCells gc (List.replicate n (.slice none 0 0)) 0 wr
  refine ⟨h.row.of_block (a1 sb hne.symm), ?_, h.lies, ⟨a3.trans h.wrote.os, a4.trans h.wrote.tape, a5.trans h.wrote.output, by rw [a2]; exact h.wrote.size, fun j hj hn => ?_⟩⟩
  · exact h.own.kept (row := some gc) ⟨a3, a4, a5, by rw [a2]; exact Nat.le_refl _, fun k _ hk => a1 k (fun e => hk (by rw [e]))⟩ (.inr hne2)
  · rw [a1 j (fun e => hn (.inr (.inr e)))]
    exact h.wrote.block j hj (fun hX => hn (by rcases hX with e | e; exact .inl e; exact .inr (.inl e)))

theorem Cleared.done {w wc : World} {sb base gc n : Nat} {F : Nat → Value} {vs v c1 c3 c4 : Value} {xs : List Value} (h : Cleared w sb base gc F vs n xs wc v) (hap : v.ownBlock ≠ some sb) :
    (((wc.setCell ⟨sb, 1, none⟩ c1).setCell ⟨sb, 3, none⟩ c3).setCell ⟨sb, 4, none⟩ c4).rowIs sb 45 5 (fun i => if i = 0 then F 0 else if i = 1 then c1 else if i = 2 then v else if i = 3 then c3 else c4) ∧
    (((wc.setCell ⟨sb, 1, none⟩ c1).setCell ⟨sb, 3, none⟩ c3).setCell ⟨sb, 4, none⟩ c4).ownsRow base 32 1 v n xs ∧
    (v.ownBlock = vs.ownBlock ∨ ∃ g, v.ownBlock = some g ∧ w.heap.size ≤ g) ∧
    Wrote (fun j => j = sb ∨ vs.ownBlock = some j ∨ j = gc) w (((wc.setCell ⟨sb, 1, none⟩ c1).setCell ⟨sb, 3, none⟩ c3).setCell ⟨sb, 4, none⟩ c4) := by
  refine ⟨(((h.row.set 1 c1).set 3 c3).set 4 c4).congr fun i hi => ?_, ?_, h.lies, ((h.wrote.setCell (fun _ => .inl rfl) _).setCell (fun _ => .inl rfl) _).setCell (fun _ => .inl rfl) _⟩
  · match i, hi with
    | 0, _ => simp
    | 1, _ => simp
    | 2, _ => simp
    | 3, _ => simp
    | 4, _ => simp
  · exact Go.ownsRow_setCell_other (Go.ownsRow_setCell_other (Go.ownsRow_setCell_other h.own hap _) hap _) hap _

end Go.Proofs.Qxb6001055aMods
