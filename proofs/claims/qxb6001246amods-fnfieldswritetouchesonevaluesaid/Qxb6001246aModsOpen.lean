/-
  A record of eleven strings that came in by value, opened for the walks.
-/
import Derived.Test.Qxb6001246aModsRec
import Derived.Laws.StructEq
import Derived.ProofKit
import Derived.Deep.Slices
namespace Go.Proofs.Qxb6001246aMods
open Go.ChangeShapes Go.WideShapes Go.ChangeAt Go.RowKit Go.Deep

theorem c23 : Trym.prog.cellsOf 23 = 11 := by kernel_rfl
theorem c9 : Trym.prog.cellsOf 9 = 1 := by kernel_rfl
theorem kinds23 : (Trym.prog.fieldsOf 23).toList.map (fun f => (f.type, f.offset)) = (List.range 11).map (fun i => (9, i)) := by kernel_rfl

theorem recd_getElem? (L : Nat → ByteArray) : ∀ i, i < 11 → (recd L)[i]? = some (.string (L i))
  | 0, _ => rfl
  | 1, _ => rfl
  | 2, _ => rfl
  | 3, _ => rfl
  | 4, _ => rfl
  | 5, _ => rfl
  | 6, _ => rfl
  | 7, _ => rfl
  | 8, _ => rfl
  | 9, _ => rfl
  | 10, _ => rfl

theorem open_recd {H : Type} {enc : TypeId × Value → H} {W : World} {r : Reach} {b0 : Nat} {v : Value} {d : DataW H} {p : List MemPlace} (hv : Value.okWide Trym.prog W r b0 23 v)
    (h : DataW.Trod enc Trym.prog W 0 (fun _ => true) true 23 v d p) : ∃ L : Nat → ByteArray, v = .agg (recd L) ∧ ∀ i, (L i).size ≤ maxLen := by
  have hS : Trym.prog.underlying 23 = some (.struct (Trym.prog.fieldsOf 23)) := by kernel_rfl
  obtain ⟨cs, rfl, hsz⟩ := okWide_struct hS hv
  rw [c23] at hsz
  obtain ⟨fuel, hf⟩ := h
  obtain ⟨xs, n, _, _, hl, hlen, hf'⟩ := DataW.trod_struct hS hf
  have hfs : (Trym.prog.fieldsOf 23).size = 11 := by
    have := congrArg List.length kinds23
    simpa using this
  have each : ∀ i, i < 11 → ∃ s : ByteArray, cs[i]? = some (.string s) ∧ s.size ≤ maxLen := by
    intro i hi
    have hlt : i < (Trym.prog.fieldsOf 23).size := by omega
    have hk : ((Trym.prog.fieldsOf 23).toList.map (fun f => (f.type, f.offset)))[i]? = some (9, i) := by rw [kinds23]; simp [hi]
    rw [List.getElem?_map, Option.map_eq_some_iff] at hk
    obtain ⟨f, hf1, hf2⟩ := hk
    simp only [Prod.mk.injEq] at hf2
    obtain ⟨ht, ho⟩ := hf2
    have := hf' i f (by simpa using hf1)
    rw [ht, ho, c9, List.getElem?_eq_getElem (by omega)] at this
    obtain ⟨s, hs1, _, hs2⟩ := DataW.trod_string Trym.underlying9 this
    refine ⟨s, ?_, hs2⟩
    have h0 : ((Value.agg cs).cells.toList.drop i).take 1 = [.string s] := by simpa using hs1
    have h1 := congrArg (fun l => l[0]?) h0
    simpa [Value.cells] using h1
  obtain ⟨L, hL⟩ := choose_lt each
  refine ⟨fun i => if i < 11 then L i else ByteArray.empty, ?_, fun i => ?_⟩
  · congr 1
    apply Array.ext_getElem?
    intro i
    by_cases hi : i < 11
    · rw [(hL i hi).1, recd_getElem? _ i hi, if_pos hi]
    · rw [Array.getElem?_eq_none (by omega), Array.getElem?_eq_none (by show 11 ≤ i; omega)]
  · by_cases hi : i < 11
    · simp only [hi, if_true]
      exact (hL i hi).2
    · simp only [hi, if_false]
      exact Nat.zero_le _
end Go.Proofs.Qxb6001246aMods
