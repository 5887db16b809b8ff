/-
  A [][]byte that came in, opened for the walks; its sizes by the form's own reach.
-/
import Derived.Test.Qxb6001055aModsRows
import Derived.Test.Qxb6001055aModsMat
import Derived.ProofKit
import Derived.SizedLaws
import Derived.Deep.Matrix
namespace Go.Proofs.Qxb6001055aMods
open Go.ChangeShapes Go.WideShapes Go.ChangeAt Go.RowKit Go.Deep

theorem c32 : Trym.prog.cellsOf 32 = 1 := by kernel_rfl
theorem c5 : Trym.prog.cellsOf 5 = 1 := by kernel_rfl
theorem b32 : Trym.prog.bytesOf 32 = 24 := by kernel_rfl
theorem b5 : Trym.prog.bytesOf 5 = 1 := by kernel_rfl
theorem reach_eq : reachBytes = 140737488351232 := rfl

theorem weightsAll_mem {H : Type} {P : Program} {e : TypeId} : ∀ {l : List (DataW H)} {d : DataW H}, d ∈ l → ∀ n ∈ d.weights P e, n ∈ DataW.weightsAll P e l
  | d' :: r, d, hd, n, hn => by
    simp only [DataW.weightsAll, List.mem_append]
    rcases List.mem_cons.1 hd with rfl | h
    · exact Or.inl hn
    · exact Or.inr (weightsAll_mem h n hn)

theorem add_plain' {w : World} {a : Addr} {v : Value} (i : Nat) (h : w.cell? (a.add i) = some v) : ∃ b off, a.add i = ⟨b, off + i, none⟩ ∧ a.block = b ∧ a.off = off := by
  obtain ⟨b, off, s⟩ := a
  have hs := World.cell?_spot h
  refine ⟨b, off, ?_, rfl, rfl⟩
  unfold Addr.add at hs ⊢
  by_cases e : i = 0
  · simp only [e, if_true] at hs ⊢
    simp only [Nat.add_zero, Addr.mk.injEq, true_and]
    exact hs
  · simp only [e, if_false]

/-- The cells behind an address, told plainly. -/
theorem has_of_cells {w : World} {a : Addr} {n : Nat} {f : Nat → Value} (h : ∀ i, i < n → w.cell? (a.add i) = some (f i)) : Has w 0 (some a) n f := by
  intro i hi
  have h0 := h 0 (by omega)
  have hs : a.spot = none := by
    have := World.cell?_spot h0
    simpa [Addr.add] using this
  obtain ⟨b, off, s⟩ := a
  simp only at hs
  subst hs
  refine ⟨b, off, rfl, Nat.zero_le _, ?_⟩
  have := h i hi
  obtain ⟨b', off', e, e1, e2⟩ := add_plain' i this
  simp only at e1 e2
  subst e1 e2
  rw [e] at this
  exact this

set_option maxHeartbeats 400000 in
theorem open_mat {H : Type} {enc : TypeId × Value → H} {W : World} {ao : Option Addr} {n cap : Nat} {d : DataW H} {p : List MemPlace}
    (h : DataW.Trod enc Trym.prog W 0 (fun _ => true) true 28 (.slice ao n cap) d p) (hsz : ∀ x ∈ d.weights Trym.prog 28, x ≤ reachBytes) :
    ∃ (A : Nat → Value) (D : Nat → Ck), Has W 0 ao n A ∧ (∀ r, r < n → Elt W 0 (A r) (D r)) ∧ n ≤ 140737488355328 ∧ (ao.isNone = true → n = 0) := by
  obtain ⟨fuel, hf⟩ := h
  rcases open_int_rows Trym.underlying28 Trym.underlying32 Trym.underlying5 c32 c5 hf with ⟨hcs, _⟩ | ⟨a, len, cap', A, L, C, Z, hcs, _, hl, hm, hx, hrow⟩
  · simp [Value.cells] at hcs
    obtain ⟨rfl, rfl, rfl⟩ := hcs
    exact ⟨fun _ => .bool false, fun _ => ⟨true, 0, 0, fun _ => 0⟩, fun i hi => absurd hi (Nat.not_lt_zero i), fun i hi => absurd hi (Nat.not_lt_zero i), Nat.zero_le _, fun _ => rfl⟩
  · simp [Value.cells] at hcs
    obtain ⟨rfl, rfl, rfl⟩ := hcs
    simp only [Prod.mk.injEq] at hx
    obtain ⟨rfl, _⟩ := hx
    have hw := hsz _ (by simp [DataW.weights, Trym.underlying28]; exact .inl rfl)
    have hin : ∀ r, r < n → C r ≤ 140737488355328 := by
      intro r hr
      obtain ⟨_, h1, _, h3, _, h5, _⟩ := hrow r (by omega)
      cases hA : A r with
      | none => rw [h5 hA]; omega
      | some a' =>
        have hmem : (intRow .u8 (A r) (L r) (Z r) : DataW H) ∈ (List.range n).map (fun r => intRow .u8 (A r) (L r) (Z r)) := List.mem_map.2 ⟨r, List.mem_range.2 hr, rfl⟩
        have := hsz _ (by
          simp only [DataW.weights, Trym.underlying28, List.mem_cons, List.mem_append]
          exact Or.inr (Or.inl (weightsAll_mem hmem _ (by rw [hA]; simp only [intRow, DataW.weights, Trym.underlying32, List.mem_cons]; exact .inl rfl))))
        simp only [lits, List.length_map, List.length_take, List.length_drop, b5, reach_eq, h3] at this
        omega
    have hn : n ≤ 140737488355328 := by
      simp only [b32, reach_eq] at hw
      omega
    refine ⟨fun r => .slice (A r) (L r) (C r), fun r => ⟨(A r).isNone, L r, C r, fun i => (Z r).getD i 0⟩, has_of_cells fun r hr => (hrow r (by omega)).1, fun r hr => ?_, hn, fun h => by simp at h⟩
    obtain ⟨_, h1, _, _, _, h5, h6⟩ := hrow r (by omega)
    refine ⟨A r, rfl, rfl, h1, hin r hr, fun h => h5 (by simpa using h), ?_⟩
    cases hA : A r with
    | none =>
      intro i hi
      have := h5 hA
      simp only at hi
      omega
    | some a' =>
      exact has_of_cells fun c hc => (h6 a' hA).2 c (by simp only at hc; omega)

end Go.Proofs.Qxb6001055aMods
