/-
  Cutting a text into lines: the plain law. No Go in sight.
-/
import Derived.Below
namespace Go.Proofs.Qxb6001246aMods

/-- Is byte k a newline? -/
def nlAt (s : ByteArray) (k : Nat) : Bool := decide (s.data[k]? = some 10)

/-- No byte of a is a newline. -/
def NoNL (a : ByteArray) : Prop := ∀ j : Nat, a.data[j]? ≠ some 10

/-- What has been cut behind k bytes: the whole lines, and where the next begins. -/
def cutTo (s : ByteArray) : Nat → List ByteArray × Nat
  | 0 => ([], 0)
  | k + 1 => if nlAt s k then ((cutTo s k).1 ++ [s.extract (cutTo s k).2 k], k + 1) else cutTo s k

def splitL (s : ByteArray) : List ByteArray := (cutTo s s.size).1 ++ [s.extract (cutTo s s.size).2 s.size]

theorem cutTo_hit {s : ByteArray} {k : Nat} (h : nlAt s k = true) : cutTo s (k + 1) = ((cutTo s k).1 ++ [s.extract (cutTo s k).2 k], k + 1) := by
  rw [cutTo, if_pos h]
theorem cutTo_miss {s : ByteArray} {k : Nat} (h : nlAt s k = false) : cutTo s (k + 1) = cutTo s k := by
  rw [cutTo, if_neg (by rw [h]; exact Bool.false_ne_true)]
theorem cutTo_le (s : ByteArray) : ∀ k, (cutTo s k).2 ≤ k ∧ (cutTo s k).1.length ≤ k
  | 0 => ⟨Nat.le_refl _, Nat.le_refl _⟩
  | k + 1 => by
    have ih := cutTo_le s k
    cases h : nlAt s k with
    | true => rw [cutTo_hit h]; simp; omega
    | false => rw [cutTo_miss h]; omega

/-- A newline, as a text. -/
def nl : ByteArray := ⟨#[10]⟩

theorem nlAt_mid {P a R : ByteArray} (ha : NoNL a) (j : Nat) (hj : j < a.size) : nlAt (P ++ a ++ R) (P.size + j) = false := by
  unfold nlAt
  have hd : (P ++ a ++ R).data[P.size + j]? = a.data[j]? := by
    rw [ByteArray.data_append, ByteArray.data_append]
    rw [Array.getElem?_append_left (by rw [Array.size_append, ByteArray.size_data, ByteArray.size_data]; omega), Array.getElem?_append_right (by rw [ByteArray.size_data]; omega), ByteArray.size_data]
    congr 1
    omega
  rw [hd]
  simpa using ha j

theorem nlAt_end {P a R : ByteArray} : nlAt (P ++ a ++ nl ++ R) (P.size + a.size) = true := by
  unfold nlAt
  have hd : (P ++ a ++ nl ++ R).data[P.size + a.size]? = some 10 := by
    rw [ByteArray.data_append, ByteArray.data_append]
    rw [Array.getElem?_append_left (by rw [Array.size_append, ByteArray.size_data, ByteArray.size_append]; show P.size + a.size < P.size + a.size + 1; omega), Array.getElem?_append_right (by rw [ByteArray.size_data, ByteArray.size_append]; omega), ByteArray.size_data, ByteArray.size_append, Nat.sub_self]
    rfl
  rw [hd]
  rfl

theorem cut_walk {P a R : ByteArray} {X : List ByteArray} (ha : NoNL a) (h0 : cutTo (P ++ a ++ R) P.size = (X, P.size)) : ∀ j, j ≤ a.size → cutTo (P ++ a ++ R) (P.size + j) = (X, P.size)
  | 0, _ => h0
  | j + 1, hj => by
    rw [← Nat.add_assoc, cutTo_miss (nlAt_mid ha j (by omega))]
    exact cut_walk ha h0 j (by omega)

/-- ONE LINE MORE. -/
theorem cut_line {P a R s : ByteArray} {X : List ByteArray} (hs : s = P ++ a ++ nl ++ R) (ha : NoNL a) (h0 : cutTo s P.size = (X, P.size)) : cutTo s (P ++ a ++ nl).size = (X ++ [a], (P ++ a ++ nl).size) := by
  subst hs
  have h1 : cutTo (P ++ a ++ nl ++ R) (P.size + a.size) = (X, P.size) := by
    have e : P ++ a ++ nl ++ R = P ++ a ++ (nl ++ R) := ByteArray.append_assoc
    rw [e] at h0 ⊢
    exact cut_walk ha h0 a.size (Nat.le_refl _)
  have hsz : (P ++ a ++ nl).size = P.size + a.size + 1 := by rw [ByteArray.size_append, ByteArray.size_append]; rfl
  rw [hsz, cutTo_hit nlAt_end, h1]
  have hx : (P ++ a ++ nl ++ R).extract P.size (P.size + a.size) = a := by
    have e : P ++ a ++ nl ++ R = P ++ (a ++ (nl ++ R)) := by rw [ByteArray.append_assoc, ByteArray.append_assoc]
    rw [e, ByteArray.extract_append, Nat.sub_self, Nat.add_sub_cancel_left, ByteArray.extract_append_eq_left rfl]
    have hz : P.extract P.size (P.size + a.size) = ByteArray.empty := by
      apply ByteArray.ext
      rw [ByteArray.data_extract]
      apply Array.ext_getElem?
      intro i
      rw [Array.getElem?_eq_none (by simp [ByteArray.size_data])]
      rfl
    rw [hz, ByteArray.empty_append]
  rw [hx]

theorem split_four (a b c d : ByteArray) (ha : NoNL a) (hb : NoNL b) (hc : NoNL c) (hd : NoNL d) : splitL (a ++ nl ++ b ++ nl ++ c ++ nl ++ d ++ nl) = [a, b, c, d, ByteArray.empty] := by
  generalize hs : a ++ nl ++ b ++ nl ++ c ++ nl ++ d ++ nl = s
  have h1 := cut_line (P := ByteArray.empty) (a := a) (R := b ++ nl ++ c ++ nl ++ d ++ nl) (s := s) (X := []) (by rw [← hs]; simp only [ByteArray.empty_append, ByteArray.append_assoc]) ha rfl
  have h2 := cut_line (P := ByteArray.empty ++ a ++ nl) (a := b) (R := c ++ nl ++ d ++ nl) (s := s) (by rw [← hs]; simp only [ByteArray.empty_append, ByteArray.append_assoc]) hb h1
  have h3 := cut_line (P := ByteArray.empty ++ a ++ nl ++ b ++ nl) (a := c) (R := d ++ nl) (s := s) (by rw [← hs]; simp only [ByteArray.empty_append, ByteArray.append_assoc]) hc h2
  have h4 := cut_line (P := ByteArray.empty ++ a ++ nl ++ b ++ nl ++ c ++ nl) (a := d) (R := ByteArray.empty) (s := s) (by rw [← hs]; simp only [ByteArray.empty_append, ByteArray.append_empty, ByteArray.append_assoc]) hd h3
  have e : ByteArray.empty ++ a ++ nl ++ b ++ nl ++ c ++ nl ++ d ++ nl = s := by rw [← hs]; simp only [ByteArray.empty_append]
  rw [e] at h4
  unfold splitL
  rw [h4]
  simp only [List.nil_append, List.cons_append]
  have hx : s.extract s.size s.size = ByteArray.empty := by
    apply ByteArray.ext
    rw [ByteArray.data_extract]
    apply Array.ext_getElem?
    intro i
    rw [Array.getElem?_eq_none (by simp)]
    rfl
  rw [hx]
end Go.Proofs.Qxb6001246aMods
