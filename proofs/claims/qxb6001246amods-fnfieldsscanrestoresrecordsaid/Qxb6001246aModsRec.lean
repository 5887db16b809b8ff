/-
  Records of eleven strings: recBytes (9), fields (22), ZZFields (13), the three zzBytes over records (8, 12, 14).
-/
import Derived.Test.Qxb6001246aModsRows
import Derived.WalkKit
import Derived.WalkSpells
import Derived.WalkLawsBesides
import Derived.BigRegion
import Derived.Deep.OwnRows
namespace Go.Proofs.Qxb6001246aMods
open Go.RowKit

theorem hide {p : Prop} (h : p) : Hid p := h

/-- The cells of a record. -/
def recd (L : Nat → ByteArray) : Array Value := #[.string (L 0), .string (L 1), .string (L 2), .string (L 3), .string (L 4), .string (L 5), .string (L 6), .string (L 7), .string (L 8), .string (L 9), .string (L 10)]

/-- The row of the eleven fields' addresses, as 'fields' lays it. -/
theorem ptrs_row (w : World) (b : Nat) : (w.alloc (.cells #[.pointer (some ⟨b, 0, none⟩), .pointer (some ⟨b, 1, none⟩), .pointer (some ⟨b, 2, none⟩), .pointer (some ⟨b, 3, none⟩), .pointer (some ⟨b, 4, none⟩), .pointer (some ⟨b, 5, none⟩), .pointer (some ⟨b, 6, none⟩), .pointer (some ⟨b, 7, none⟩), .pointer (some ⟨b, 8, none⟩), .pointer (some ⟨b, 9, none⟩), .pointer (some ⟨b, 10, none⟩)] 34)).drew.rowIs w.heap.size 34 11 (fun i => .pointer (some ⟨b, i, none⟩)) :=
  World.rowIs_alloc w _ 34 _ fun i hi => by
    match i, hi with
    | 0, _ => rfl
    | 1, _ => rfl
    | 2, _ => rfl
    | 3, _ => rfl
    | 4, _ => rfl
    | 5, _ => rfl
    | 6, _ => rfl
    | 7, _ => rfl
    | 8, _ => rfl
    | 9, _ => rfl
    | 10, _ => rfl

theorem recd_row (w : World) (L : Nat → ByteArray) (t : TypeId) : (w.alloc (.cells (recd L) t)).rowIs w.heap.size t 11 (fun i => .string (L i)) :=
  World.rowIs_alloc w _ t _ fun i hi => by
    match i, hi with
    | 0, _ => rfl
    | 1, _ => rfl
    | 2, _ => rfl
    | 3, _ => rfl
    | 4, _ => rfl
    | 5, _ => rfl
    | 6, _ => rfl
    | 7, _ => rfl
    | 8, _ => rfl
    | 9, _ => rfl
    | 10, _ => rfl

/-- The call answers one of the two truth values. -/
def AnyBool (e : Ending) : Prop := ∃ x : Bool, e = .returned (.bool x)
theorem AnyBool.mk (x : Bool) : AnyBool (.returned (.bool x)) := ⟨x, rfl⟩

set_option maxRecDepth 100000 in
set_option maxHeartbeats 1000000 in
theorem fields_any (w : World) (b : Nat) :
    Calls Trym.prog 22 #[.pointer (some ⟨b, 0, none⟩)] w fun e w' => e = .returned (.slice (some ⟨w.heap.size, 0, none⟩) 11 11) ∧ w'.rowIs w.heap.size 34 11 (fun i => .pointer (some ⟨b, i, none⟩)) ∧ Below w.heap.size w w' := by
  go_enter Trym.func22, Trym.ntmps22
  go_wp2
  go_region
  go_wp2
  go_ret
  exact ⟨rfl, ptrs_row w b, ((Below.refl _ _).alloc (Nat.le_refl _) _).drew⟩

set_option maxRecDepth 100000 in
set_option maxHeartbeats 1000000 in
theorem recBytes_any (w : World) (L : Nat → ByteArray) :
    Calls Trym.prog 9 #[.agg (recd L)] w fun e w' => ∃ t : Int, e = .returned (.int .i64 t) ∧ Below w.heap.size w w' := by
  unfold recd
  go_enter Trym.func9, Trym.ntmps9
  go_wp2
  go_ret
  exact ⟨_, rfl, (Below.refl _ _).alloc (Nat.le_refl _) _⟩

set_option maxRecDepth 100000 in
set_option maxHeartbeats 1000000 in
theorem zzfields_any (w : World) (b : Nat) :
    Calls Trym.prog 13 #[.pointer (some ⟨b, 0, none⟩)] w fun e w' => e = .returned (.slice (some ⟨w.heap.size, 0, none⟩) 11 11) ∧ w'.rowIs w.heap.size 34 11 (fun i => .pointer (some ⟨b, i, none⟩)) ∧ Below w.heap.size w w' := by
  go_enter Trym.func13, Trym.ntmps13
  go_wp2_with fail
  refine (fields_any w b).mono ?_
  rintro e w1 ⟨rfl, h1, h2⟩
  go_wp2_with fail
  go_ret
  exact ⟨rfl, h1, h2⟩

set_option maxRecDepth 100000 in
set_option maxHeartbeats 4000000 in
theorem bytes12_any (w : World) (L : Nat → ByteArray) (hL : ∀ i, (L i).size ≤ maxLen) :
    Calls Trym.prog 12 #[.agg (recd L)] w fun e w' => AnyBool e ∧ Below w.heap.size w w' := by
  unfold recd
  have b0 := hL 0
  have b1 := hL 1
  have b2 := hL 2
  have b3 := hL 3
  have b4 := hL 4
  have b5 := hL 5
  have b6 := hL 6
  have b7 := hL 7
  have b8 := hL 8
  have b9 := hL 9
  have b10 := hL 10
  unfold maxLen at *
  clear hL
  go_enter Trym.func12, Trym.ntmps12
  go_wp2
  all_goals
    go_ret
    exact ⟨.mk _, (Below.refl _ _).alloc (Nat.le_refl _) _⟩
end Go.Proofs.Qxb6001246aMods
