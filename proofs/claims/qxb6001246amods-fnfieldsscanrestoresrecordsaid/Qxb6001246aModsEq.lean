/-
  '==' on two records of eleven strings, and a whole record read out of its block.
-/
import Derived.Test.Qxb6001246aModsVal
import Derived.Laws.StructEq
namespace Go.Proofs.Qxb6001246aMods
open Go.RowKit

theorem part0 (L : Nat → ByteArray) (w : World) : (part 9 (recd L) 0).run Trym.prog w = .ok (.string (L 0)) w := by kernel_rfl
theorem part1 (L : Nat → ByteArray) (w : World) : (part 9 (recd L) 1).run Trym.prog w = .ok (.string (L 1)) w := by kernel_rfl
theorem part2 (L : Nat → ByteArray) (w : World) : (part 9 (recd L) 2).run Trym.prog w = .ok (.string (L 2)) w := by kernel_rfl
theorem part3 (L : Nat → ByteArray) (w : World) : (part 9 (recd L) 3).run Trym.prog w = .ok (.string (L 3)) w := by kernel_rfl
theorem part4 (L : Nat → ByteArray) (w : World) : (part 9 (recd L) 4).run Trym.prog w = .ok (.string (L 4)) w := by kernel_rfl
theorem part5 (L : Nat → ByteArray) (w : World) : (part 9 (recd L) 5).run Trym.prog w = .ok (.string (L 5)) w := by kernel_rfl
theorem part6 (L : Nat → ByteArray) (w : World) : (part 9 (recd L) 6).run Trym.prog w = .ok (.string (L 6)) w := by kernel_rfl
theorem part7 (L : Nat → ByteArray) (w : World) : (part 9 (recd L) 7).run Trym.prog w = .ok (.string (L 7)) w := by kernel_rfl
theorem part8 (L : Nat → ByteArray) (w : World) : (part 9 (recd L) 8).run Trym.prog w = .ok (.string (L 8)) w := by kernel_rfl
theorem part9 (L : Nat → ByteArray) (w : World) : (part 9 (recd L) 9).run Trym.prog w = .ok (.string (L 9)) w := by kernel_rfl
theorem part10 (L : Nat → ByteArray) (w : World) : (part 9 (recd L) 10).run Trym.prog w = .ok (.string (L 10)) w := by kernel_rfl
theorem part_recd (L : Nat → ByteArray) (w : World) : ∀ i, i < 11 → (part 9 (recd L) i).run Trym.prog w = .ok (.string (L i)) w
  | 0, _ => part0 L w
  | 1, _ => part1 L w
  | 2, _ => part2 L w
  | 3, _ => part3 L w
  | 4, _ => part4 L w
  | 5, _ => part5 L w
  | 6, _ => part6 L w
  | 7, _ => part7 L w
  | 8, _ => part8 L w
  | 9, _ => part9 L w
  | 10, _ => part10 L w

theorem eqFields_recd (L M : Nat → ByteArray) (d : Nat) (w : World) : ∀ fs : List Field, (∀ f ∈ fs, f.name ≠ "_" ∧ f.type = 9 ∧ f.offset < 11) →
    (Op.eqFields (d + 1) (recd L) (recd M) fs).run Trym.prog w = .ok (fs.all fun f => (L f.offset).toList == (M f.offset).toList) w
  | [], _ => by simp [Op.eqFields]
  | f :: fs, h => by
    obtain ⟨h1, h2, h3⟩ := h f (List.mem_cons_self ..)
    have ih := eqFields_recd L M d w fs (fun g hg => h g (List.mem_cons_of_mem _ hg))
    simp only [Op.eqFields, h1, ne_eq, not_false_eq_true, if_true, Sem.run_bind, h2, part_recd L w _ h3, part_recd M w _ h3, Result.andThen_ok, run_equalIn_string w d 9 _ _ Trym.underlying9, List.all_cons]
    cases hb : ((L f.offset).toList == (M f.offset).toList) with
    | true => simpa using ih
    | false => simp

theorem fields23 : (Trym.prog.fieldsOf 23).toList.map (fun f => (f.name == "_", f.type, f.offset)) = (List.range 11).map (fun i => (false, 9, i)) := by kernel_rfl

theorem eq_recd (L M : Nat → ByteArray) (w : World) : (binOp .eql 23 (.agg (recd L)) (.agg (recd M))).run Trym.prog w = .ok (.bool (eqs L M 11)) w := by
  have hS : Trym.prog.underlying 23 = some (.struct (Trym.prog.fieldsOf 23)) := by kernel_rfl
  have hp : Trym.prog.stoodInHeld 23 = false := by kernel_rfl
  have hall : ∀ f ∈ (Trym.prog.fieldsOf 23).toList, f.name ≠ "_" ∧ f.type = 9 ∧ f.offset < 11 := by
    intro f hf
    have hm : (f.name == "_", f.type, f.offset) ∈ (Trym.prog.fieldsOf 23).toList.map (fun f => (f.name == "_", f.type, f.offset)) := List.mem_map.2 ⟨f, hf, rfl⟩
    rw [fields23] at hm
    obtain ⟨i, hi, e⟩ := List.mem_map.1 hm
    simp only [Prod.mk.injEq] at e
    obtain ⟨e1, e2, e3⟩ := e
    exact ⟨by simpa using e1.symm, e2.symm, by have := List.mem_range.1 hi; omega⟩
  have hoff : (Trym.prog.fieldsOf 23).toList.map (fun f => f.offset) = List.range 11 := by
    have := congrArg (List.map (fun p : Bool × TypeId × Nat => p.2.2)) fields23
    simpa [List.map_map, Function.comp_def] using this
  rw [run_eql_struct, show (10000 : Nat) = 9998 + 1 + 1 from rfl, run_equalIn_agg w (9998 + 1) 23 _ _ hS hp, eqFields_recd L M 9998 w _ hall, Result.andThen_ok]
  unfold eqs
  rw [← hoff, List.all_map]
  rfl
/-- The eleven cells of a record's block, one by one. -/
theorem cells_of_row {w : World} {g : Nat} {t : TypeId} {L : Nat → ByteArray} (h : w.rowIs g t 11 (fun i => .string (L i))) :
    w.cell? ⟨g, 0, none⟩ = some (.string (L 0)) ∧ w.cell? ⟨g, 1, none⟩ = some (.string (L 1)) ∧ w.cell? ⟨g, 2, none⟩ = some (.string (L 2)) ∧ w.cell? ⟨g, 3, none⟩ = some (.string (L 3)) ∧ w.cell? ⟨g, 4, none⟩ = some (.string (L 4)) ∧ w.cell? ⟨g, 5, none⟩ = some (.string (L 5)) ∧ w.cell? ⟨g, 6, none⟩ = some (.string (L 6)) ∧ w.cell? ⟨g, 7, none⟩ = some (.string (L 7)) ∧ w.cell? ⟨g, 8, none⟩ = some (.string (L 8)) ∧ w.cell? ⟨g, 9, none⟩ = some (.string (L 9)) ∧ w.cell? ⟨g, 10, none⟩ = some (.string (L 10)) :=
  ⟨h.cell (by omega), h.cell (by omega), h.cell (by omega), h.cell (by omega), h.cell (by omega), h.cell (by omega), h.cell (by omega), h.cell (by omega), h.cell (by omega), h.cell (by omega), h.cell (by omega)⟩

theorem row_later {w w' : World} {g : Nat} {t : TypeId} {n : Nat} {f : Nat → Value} (h : w.rowIs g t n f) (hb : Below w.heap.size w w') : w'.rowIs g t n f := h.of_block (hb.block _ h.lt)
theorem below_later {w w1 w2 : World} (h : Below w.heap.size w w1) (h' : Below w1.heap.size w1 w2) : Below w.heap.size w w2 := h.trans (h'.mono h.size)
end Go.Proofs.Qxb6001246aMods
