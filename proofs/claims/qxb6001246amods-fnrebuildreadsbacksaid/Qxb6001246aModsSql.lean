/-
  The text that rebuild makes, and its four lines: the plain law. No Go in sight.
-/
import Derived.Test.Qxb6001246aModsSplit
namespace Go.Proofs.Qxb6001246aMods

/-- The text, as the program adds it up. -/
def Sql (t c m v : ByteArray) : ByteArray :=
  ⟨#[65, 76, 84, 69, 82, 32, 84, 65, 66, 76, 69, 32]⟩ ++ t ++ ⟨#[32, 82, 69, 78, 65, 77, 69, 32, 84, 79, 32]⟩ ++ (⟨#[111, 108, 100, 95]⟩ ++ t) ++ ⟨#[59, 10]⟩ ++ c ++ ⟨#[59, 10]⟩ ++
    ⟨#[73, 78, 83, 69, 82, 84, 32, 73, 78, 84, 79, 32]⟩ ++ t ++ ⟨#[32, 40]⟩ ++ m ++ ⟨#[41, 32, 83, 69, 76, 69, 67, 84, 32]⟩ ++ v ++ ⟨#[32, 70, 82, 79, 77, 32]⟩ ++ (⟨#[111, 108, 100, 95]⟩ ++ t) ++ ⟨#[59, 10]⟩ ++
    ⟨#[68, 82, 79, 80, 32, 84, 65, 66, 76, 69, 32]⟩ ++ (⟨#[111, 108, 100, 95]⟩ ++ t) ++ ⟨#[59, 10]⟩

def line0 (t : ByteArray) : ByteArray := ⟨#[65, 76, 84, 69, 82, 32, 84, 65, 66, 76, 69, 32]⟩ ++ t ++ ⟨#[32, 82, 69, 78, 65, 77, 69, 32, 84, 79, 32]⟩ ++ (⟨#[111, 108, 100, 95]⟩ ++ t) ++ ⟨#[59]⟩
def line1 (c : ByteArray) : ByteArray := c ++ ⟨#[59]⟩
def line2 (t m v : ByteArray) : ByteArray := ⟨#[73, 78, 83, 69, 82, 84, 32, 73, 78, 84, 79, 32]⟩ ++ t ++ ⟨#[32, 40]⟩ ++ m ++ ⟨#[41, 32, 83, 69, 76, 69, 67, 84, 32]⟩ ++ v ++ ⟨#[32, 70, 82, 79, 77, 32]⟩ ++ (⟨#[111, 108, 100, 95]⟩ ++ t) ++ ⟨#[59]⟩
def line3 (t : ByteArray) : ByteArray := ⟨#[68, 82, 79, 80, 32, 84, 65, 66, 76, 69, 32]⟩ ++ (⟨#[111, 108, 100, 95]⟩ ++ t) ++ ⟨#[59]⟩

theorem lit_app {a b c : Array UInt8} (h : a ++ b = c) : (⟨c⟩ : ByteArray) = ⟨a⟩ ++ ⟨b⟩ := ByteArray.ext (by rw [ByteArray.data_append]; exact h.symm)

theorem semi : (⟨#[59, 10]⟩ : ByteArray) = ⟨#[59]⟩ ++ nl := lit_app rfl

theorem sql_lines (t c m v : ByteArray) : Sql t c m v = line0 t ++ nl ++ line1 c ++ nl ++ line2 t m v ++ nl ++ line3 t ++ nl := by
  unfold Sql line0 line1 line2 line3
  rw [semi]
  simp only [ByteArray.append_assoc]

theorem noNL_app {a b : ByteArray} (ha : NoNL a) (hb : NoNL b) : NoNL (a ++ b) := by
  intro j
  rw [ByteArray.data_append, Array.getElem?_append]
  split
  · exact ha j
  · exact hb _

theorem noNL_lit {l : List UInt8} (h : (10 : UInt8) ∉ l) : NoNL ⟨l.toArray⟩ := by
  intro j hj
  have := Array.mem_of_getElem? hj
  exact h (by simpa using this)

theorem lines_noNL {t c m v : ByteArray} (ht : NoNL t) (hc : NoNL c) (hm : NoNL m) (hv : NoNL v) : NoNL (line0 t) ∧ NoNL (line1 c) ∧ NoNL (line2 t m v) ∧ NoNL (line3 t) := by
  unfold line0 line1 line2 line3
  refine ⟨?_, ?_, ?_, ?_⟩
  · exact noNL_app (noNL_app (noNL_app (noNL_app (noNL_lit (by decide)) ht) (noNL_lit (by decide))) (noNL_app (noNL_lit (by decide)) ht)) (noNL_lit (by decide))
  · exact noNL_app hc (noNL_lit (by decide))
  · exact noNL_app (noNL_app (noNL_app (noNL_app (noNL_app (noNL_app (noNL_app (noNL_app (noNL_lit (by decide)) ht) (noNL_lit (by decide))) hm) (noNL_lit (by decide))) hv) (noNL_lit (by decide))) (noNL_app (noNL_lit (by decide)) ht)) (noNL_lit (by decide))
  · exact noNL_app (noNL_app (noNL_lit (by decide)) (noNL_app (noNL_lit (by decide)) ht)) (noNL_lit (by decide))

theorem sql_split {t c m v : ByteArray} (ht : NoNL t) (hc : NoNL c) (hm : NoNL m) (hv : NoNL v) : splitL (Sql t c m v) = [line0 t, line1 c, line2 t m v, line3 t, ⟨#[]⟩] := by
  obtain ⟨h0, h1, h2, h3⟩ := lines_noNL ht hc hm hv
  rw [sql_lines, split_four _ _ _ _ h0 h1 h2 h3]
  rfl

/-! ### What the law asks of the lines -/
theorem l0_pre (t : ByteArray) : line0 t = (⟨#[65, 76, 84, 69, 82, 32, 84, 65, 66, 76, 69, 32]⟩ ++ t ++ ⟨#[32]⟩) ++ (⟨#[82, 69, 78, 65, 77, 69, 32, 84, 79, 32]⟩ ++ (⟨#[111, 108, 100, 95]⟩ ++ t) ++ ⟨#[59]⟩) := by
  unfold line0
  rw [lit_app (a := #[32]) (b := #[82, 69, 78, 65, 77, 69, 32, 84, 79, 32]) (c := #[32, 82, 69, 78, 65, 77, 69, 32, 84, 79, 32]) rfl]
  simp only [ByteArray.append_assoc]
theorem l0_suf (t : ByteArray) : line0 t = (⟨#[65, 76, 84, 69, 82, 32, 84, 65, 66, 76, 69, 32]⟩ ++ t ++ ⟨#[32, 82, 69, 78, 65, 77, 69, 32, 84, 79]⟩) ++ (⟨#[32, 111, 108, 100, 95]⟩ ++ t ++ ⟨#[59]⟩) := by
  unfold line0
  rw [lit_app (a := #[32, 82, 69, 78, 65, 77, 69, 32, 84, 79]) (b := #[32]) (c := #[32, 82, 69, 78, 65, 77, 69, 32, 84, 79, 32]) rfl, lit_app (a := #[32]) (b := #[111, 108, 100, 95]) (c := #[32, 111, 108, 100, 95]) rfl]
  simp only [ByteArray.append_assoc]
theorem l2_pre (t m v : ByteArray) : line2 t m v = (⟨#[73, 78, 83, 69, 82, 84, 32, 73, 78, 84, 79, 32]⟩ ++ t ++ ⟨#[32, 40]⟩) ++ (m ++ ⟨#[41, 32, 83, 69, 76, 69, 67, 84, 32]⟩ ++ v ++ ⟨#[32, 70, 82, 79, 77, 32]⟩ ++ (⟨#[111, 108, 100, 95]⟩ ++ t) ++ ⟨#[59]⟩) := by
  unfold line2
  simp only [ByteArray.append_assoc]
theorem l2_suf (t m v : ByteArray) : line2 t m v = (⟨#[73, 78, 83, 69, 82, 84, 32, 73, 78, 84, 79, 32]⟩ ++ t ++ ⟨#[32, 40]⟩ ++ m ++ ⟨#[41, 32, 83, 69, 76, 69, 67, 84, 32]⟩ ++ v) ++ (⟨#[32, 70, 82, 79, 77, 32, 111, 108, 100, 95]⟩ ++ t ++ ⟨#[59]⟩) := by
  unfold line2
  rw [lit_app (a := #[32, 70, 82, 79, 77, 32]) (b := #[111, 108, 100, 95]) (c := #[32, 70, 82, 79, 77, 32, 111, 108, 100, 95]) rfl]
  simp only [ByteArray.append_assoc]
theorem l3_pre (t : ByteArray) : line3 t = ⟨#[68, 82, 79, 80, 32, 84, 65, 66, 76, 69, 32, 111, 108, 100, 95]⟩ ++ (t ++ ⟨#[59]⟩) := by
  unfold line3
  rw [lit_app (a := #[68, 82, 79, 80, 32, 84, 65, 66, 76, 69, 32]) (b := #[111, 108, 100, 95]) (c := #[68, 82, 79, 80, 32, 84, 65, 66, 76, 69, 32, 111, 108, 100, 95]) rfl]
  simp only [ByteArray.append_assoc]
theorem l3_size (t : ByteArray) : (line3 t).size = 15 + t.size + 1 := by
  rw [l3_pre, ByteArray.size_append, ByteArray.size_append]
  show 15 + (t.size + 1) = _
  omega
theorem l3_mid (t : ByteArray) : (line3 t).extract 15 (15 + t.size) = t := by
  have e2 : ((⟨#[68, 82, 79, 80, 32, 84, 65, 66, 76, 69, 32, 111, 108, 100, 95]⟩ : ByteArray) ++ t).extract 15 (15 + t.size) = t := ByteArray.extract_append_eq_right rfl rfl
  rw [l3_pre, ← ByteArray.append_assoc, ByteArray.extract_append, e2]
  have hz : (⟨#[59]⟩ : ByteArray).extract (15 - ((⟨#[68, 82, 79, 80, 32, 84, 65, 66, 76, 69, 32, 111, 108, 100, 95]⟩ : ByteArray) ++ t).size) (15 + t.size - ((⟨#[68, 82, 79, 80, 32, 84, 65, 66, 76, 69, 32, 111, 108, 100, 95]⟩ : ByteArray) ++ t).size) = ByteArray.empty := by
    have e : ((⟨#[68, 82, 79, 80, 32, 84, 65, 66, 76, 69, 32, 111, 108, 100, 95]⟩ : ByteArray) ++ t).size = 15 + t.size := by rw [ByteArray.size_append]; rfl
    rw [e, Nat.sub_self, show 15 - (15 + t.size) = 0 by omega]
    rfl
  rw [hz, ByteArray.append_empty]
theorem sizes (t c m v : ByteArray) (ht : t.size ≤ 262144) (hc : c.size ≤ 262144) (hm : m.size ≤ 262144) (hv : v.size ≤ 262144) :
    (Sql t c m v).size ≤ 16777216 ∧ (line0 t).size ≤ 16777216 ∧ (line1 c).size ≤ 16777216 ∧ (line2 t m v).size ≤ 16777216 ∧ (line3 t).size ≤ 16777216 := by
  unfold Sql line0 line1 line2 line3
  have k0 : (⟨#[65, 76, 84, 69, 82, 32, 84, 65, 66, 76, 69, 32]⟩ : ByteArray).size = 12 := rfl
  have k1 : (⟨#[32, 82, 69, 78, 65, 77, 69, 32, 84, 79, 32]⟩ : ByteArray).size = 11 := rfl
  have k2 : (⟨#[111, 108, 100, 95]⟩ : ByteArray).size = 4 := rfl
  have k3 : (⟨#[59, 10]⟩ : ByteArray).size = 2 := rfl
  have k4 : (⟨#[73, 78, 83, 69, 82, 84, 32, 73, 78, 84, 79, 32]⟩ : ByteArray).size = 12 := rfl
  have k5 : (⟨#[32, 40]⟩ : ByteArray).size = 2 := rfl
  have k6 : (⟨#[41, 32, 83, 69, 76, 69, 67, 84, 32]⟩ : ByteArray).size = 9 := rfl
  have k7 : (⟨#[32, 70, 82, 79, 77, 32]⟩ : ByteArray).size = 6 := rfl
  have k8 : (⟨#[68, 82, 79, 80, 32, 84, 65, 66, 76, 69, 32]⟩ : ByteArray).size = 11 := rfl
  have k9 : (⟨#[59]⟩ : ByteArray).size = 1 := rfl
  simp only [ByteArray.size_append, k0, k1, k2, k3, k4, k5, k6, k7, k8, k9]
  omega
end Go.Proofs.Qxb6001246aMods
