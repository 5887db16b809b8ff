/-
  The plain law of the generator of heights: one turn keeps zero at zero, and nothing else comes to zero. No Go in sight.
-/
import Derived.Laws.BitsAllLaws
namespace Go.Proofs.Qxb6001055aMods

/-- One turn of the generator in three steps, in the walk's own form. -/
def rhA (t : Int) : Int := bits .xor .u64 t (IntKind.u64.wrap (t * 8192))
def rhB (t : Int) : Int := bits .xor .u64 t (t / 128)
def rhC (t : Int) : Int := bits .xor .u64 t (IntKind.u64.wrap (t * 131072))

theorem xor_ok (a b : Int) (h1 : 0 ≤ a) (h2 : a < 18446744073709551616) (h3 : 0 ≤ b) (h4 : b < 18446744073709551616) :
    0 ≤ bits .xor .u64 a b ∧ bits .xor .u64 a b < 18446744073709551616 ∧ (bits .xor .u64 a b = 0 ↔ a = b) := by
  rw [u64_xor a b h1 h2 h3 h4]
  have hx : a.toNat ^^^ b.toNat < 2 ^ 64 := Nat.xor_lt_two_pow (by omega) (by omega)
  refine ⟨by omega, by omega, ?_⟩
  constructor
  · intro h
    have : a.toNat ^^^ b.toNat = 0 := by omega
    have e : a.toNat = b.toNat := by
      have h := congrArg (fun x => x ^^^ b.toNat) this
      simpa [Nat.xor_assoc] using h
    omega
  · rintro rfl
    simp

theorem rhA_ok (t : Int) (h0 : 0 ≤ t) (h1 : t < 18446744073709551616) : 0 ≤ rhA t ∧ rhA t < 18446744073709551616 ∧ (rhA t = 0 ↔ t = 0) := by
  unfold rhA
  rw [IntKind.wrap_u64]
  have := xor_ok t (t * 8192 % 18446744073709551616) h0 h1 (by omega) (by omega)
  refine ⟨this.1, this.2.1, this.2.2.trans ?_⟩
  omega

theorem rhB_ok (t : Int) (h0 : 0 ≤ t) (h1 : t < 18446744073709551616) : 0 ≤ rhB t ∧ rhB t < 18446744073709551616 ∧ (rhB t = 0 ↔ t = 0) := by
  unfold rhB
  have := xor_ok t (t / 128) h0 h1 (by omega) (by omega)
  refine ⟨this.1, this.2.1, this.2.2.trans ?_⟩
  omega

theorem rhC_ok (t : Int) (h0 : 0 ≤ t) (h1 : t < 18446744073709551616) : 0 ≤ rhC t ∧ rhC t < 18446744073709551616 ∧ (rhC t = 0 ↔ t = 0) := by
  unfold rhC
  rw [IntKind.wrap_u64]
  have := xor_ok t (t * 131072 % 18446744073709551616) h0 h1 (by omega) (by omega)
  refine ⟨this.1, this.2.1, this.2.2.trans ?_⟩
  omega

end Go.Proofs.Qxb6001055aMods
