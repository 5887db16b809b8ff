/-
  The walks over strings: rebuild (23), ZZrebuild (18), hasNewline (16), hasPrefix (20), hasSuffix (19), zzBytes (15).
-/
import Derived.Test.Qxb6001246aModsRows
import Derived.Test.Qxb6001246aModsSql
import Derived.WalkKit
import Derived.WalkSpells
import Derived.WalkLawsBesides
namespace Go.Proofs.Qxb6001246aMods
open Go.RowKit

theorem hideS {p : Prop} (h : p) : Hid p := h

set_option maxRecDepth 100000 in
set_option maxHeartbeats 1000000 in
theorem rebuild_any (w : World) (t c m v : ByteArray) (ht : t.size ≤ 262144) (hc : c.size ≤ 262144) (hm : m.size ≤ 262144) (hv : v.size ≤ 262144) :
    Calls Trym.prog 23 #[.string t, .string c, .string m, .string v] w fun e w' => e = .returned (.string (Sql t c m v)) ∧ w = w' := by
  unfold Sql
  go_enter Trym.func23, Trym.ntmps23
  go_wp2
  go_ret
  exact ⟨rfl, rfl⟩

set_option maxRecDepth 100000 in
set_option maxHeartbeats 1000000 in
theorem zzrebuild_any (w : World) (t c m v : ByteArray) (ht : t.size ≤ 262144) (hc : c.size ≤ 262144) (hm : m.size ≤ 262144) (hv : v.size ≤ 262144) :
    Calls Trym.prog 18 #[.string t, .string c, .string m, .string v] w fun e w' => e = .returned (.string (Sql t c m v)) ∧ w = w' := by
  go_enter Trym.func18, Trym.ntmps18
  go_wp2_with fail
  refine (rebuild_any w t c m v ht hc hm hv).mono ?_
  rintro e w1 ⟨rfl, rfl⟩
  go_wp2_with fail
  go_ret
  exact ⟨rfl, rfl⟩

theorem toList_self (a : ByteArray) : (a.toList == a.toList) = true := by simp

set_option maxRecDepth 100000 in
set_option maxHeartbeats 1000000 in
theorem pre_yes (w : World) (s p r : ByteArray) (_hs : s.size ≤ 16777216) (he : s = p ++ r) :
    Calls Trym.prog 20 #[.string s, .string p] w fun e w' => e = .returned (.bool true) ∧ w = w' := by
  have hsz : p.size ≤ s.size := by rw [he, ByteArray.size_append]; omega
  have hx : ((s.extract 0 p.size).toList == p.toList) = true := by rw [he, ByteArray.extract_append_eq_left rfl]; exact toList_self p
  clear he
  go_enter Trym.func20, Trym.ntmps20
  go_wp2
  go_ret
  exact ⟨rfl, rfl⟩

set_option maxRecDepth 100000 in
set_option maxHeartbeats 1000000 in
theorem suf_yes (w : World) (s p r : ByteArray) (hs : s.size ≤ 16777216) (he : s = r ++ p) :
    Calls Trym.prog 19 #[.string s, .string p] w fun e w' => e = .returned (.bool true) ∧ w = w' := by
  have hsz : p.size ≤ s.size := by rw [he, ByteArray.size_append]; omega
  have hx : ((s.extract (s.size - p.size) s.size).toList == p.toList) = true := by
    rw [he, ByteArray.extract_append_eq_right (by rw [ByteArray.size_append]; omega) (by rw [ByteArray.size_append])]
    exact toList_self p
  clear he
  go_enter Trym.func19, Trym.ntmps19
  go_wp2
  go_ret
  exact ⟨rfl, rfl⟩

/-- What the call says of newlines. -/
def NLsaid (s : ByteArray) (e : Ending) : Prop := ∃ b : Bool, e = .returned (.bool b) ∧ (b = false → NoNL s)

theorem nl_byte (s : ByteArray) (k : Nat) (hk : k < s.size) : (((s[k].toNat : Nat) : Int) == 10) = nlAt s k := by
  unfold nlAt
  have hd : s.data[k]? = some s[k] := by
    rw [Array.getElem?_eq_getElem (by rw [ByteArray.size_data]; exact hk)]
    rfl
  rw [hd, Bool.eq_iff_iff]
  simp only [beq_iff_eq, decide_eq_true_eq, Option.some.injEq]
  constructor
  · intro h
    apply UInt8.toNat_inj.1
    show s[k].toNat = 10
    omega
  · intro h
    rw [h]
    rfl

set_option maxHeartbeats 1000000 in
theorem hasNL_any (w : World) (s : ByteArray) (hs : s.size ≤ 262144) : Calls Trym.prog 16 #[.string s] w fun e w' => NLsaid s e ∧ w = w' := by
  go_enter Trym.func16, Trym.ntmps16
  go_wp2
  go_loop [3] (fun i => ∃ k : Nat, k ≤ s.size ∧ i = .int .i64 k ∧ ∀ j, j < k → s.data[j]? ≠ some 10) (fun i => s.size - (intOf i).toNat)
  case atStart => exact ⟨0, Nat.zero_le _, rfl, fun j hj => absurd hj (Nat.not_lt_zero j)⟩
  case round =>
    obtain ⟨k, hk, rfl, hno⟩ := hrel
    have HN := hideS hno
    clear hno
    by_cases hlt : k < s.size
    · have hb := nl_byte s k hlt
      have HB := hideS hb
      clear hb
      go_wp2
      · go_ret
        exact ⟨⟨true, rfl, fun h => by cases h⟩, rfl⟩
      · have hq : (((s[k].toNat : Nat) : Int) == 10) = false := by assumption
        go_round
        case rel =>
          refine ⟨k + 1, by omega, by go_num, fun j hj => ?_⟩
          by_cases e : j = k
          · subst e
            have := HB.out.symm.trans hq
            simpa [nlAt] using this
          · exact HN.out j (by omega)
        case measure => simp [intOf]; omega
    · go_wp2
      go_ret
      refine ⟨⟨false, rfl, fun _ j => ?_⟩, rfl⟩
      by_cases e : j < k
      · exact HN.out j e
      · rw [Array.getElem?_eq_none (by rw [ByteArray.size_data]; omega)]
        simp

def AnyBoolS (e : Ending) : Prop := ∃ x : Bool, e = .returned (.bool x)
theorem AnyBoolS.mk (x : Bool) : AnyBoolS (.returned (.bool x)) := ⟨x, rfl⟩

set_option maxRecDepth 100000 in
set_option maxHeartbeats 1000000 in
theorem bytes15_any (w : World) (t c m v : ByteArray) (ht : t.size ≤ maxLen) (hc : c.size ≤ maxLen) (hm : m.size ≤ maxLen) (hv : v.size ≤ maxLen) :
    Calls Trym.prog 15 #[.string t, .string c, .string m, .string v] w fun e w' => AnyBoolS e ∧ w = w' := by
  unfold maxLen at *
  go_enter Trym.func15, Trym.ntmps15
  go_wp2
  all_goals
    go_ret
    exact ⟨.mk _, rfl⟩
end Go.Proofs.Qxb6001246aMods
