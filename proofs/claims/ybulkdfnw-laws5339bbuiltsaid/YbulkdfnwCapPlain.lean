/-
  Plain mathematics for isCaptureName: which bytes are allowed; nothing of the dump.
-/
import Derived.WalkKit
namespace Go.Proofs.Ybulkdfnw.Cap

/-- An ASCII letter or digit, as a number. -/
def AlN (c : Int) : Prop := (48 ≤ c ∧ c ≤ 57) ∨ (65 ≤ c ∧ c ≤ 90) ∨ (97 ≤ c ∧ c ≤ 122)

/-- An allowed byte. -/
def ok8 (b : UInt8) : Bool := (b.toNat == 95) || (decide (48 ≤ b.toNat) && decide (b.toNat ≤ 57)) || (decide (65 ≤ b.toNat) && decide (b.toNat ≤ 90)) || (decide (97 ≤ b.toNat) && decide (b.toNat ≤ 122))

theorem ok8_us {b : UInt8} (h : b.toNat = 95) : ok8 b = true := by simp [ok8, h]
theorem ok8_al {b : UInt8} (h : AlN (b.toNat : Int)) : ok8 b = true := by
  unfold AlN at h
  simp only [ok8, Bool.or_eq_true, Bool.and_eq_true, decide_eq_true_eq, beq_iff_eq]
  omega
theorem ok8_no {b : UInt8} (h : ¬ AlN (b.toNat : Int)) (h2 : ¬ b.toNat = 95) : ok8 b = false := by
  unfold AlN at h
  rw [Bool.eq_false_iff]
  intro hk
  simp only [ok8, Bool.or_eq_true, Bool.and_eq_true, decide_eq_true_eq, beq_iff_eq] at hk
  omega

theorem take_snoc (s : ByteArray) (k : Nat) (h : k < s.size) : s.data.toList.take (k + 1) = s.data.toList.take k ++ [s[k]] := by
  rw [List.take_succ_eq_append_getElem (by simpa using h)]; rfl

/-- What isCaptureName answers. -/
def capB (s : ByteArray) : Bool := !s.data.toList.isEmpty && s.data.toList.all ok8

theorem mem_at (s : ByteArray) (k : Nat) (h : k < s.size) : s[k] ∈ s.data.toList := by
  have : s[k] = s.data.toList[k]'(by simpa using h) := rfl
  rw [this]; exact List.getElem_mem _

theorem capB_bad {s : ByteArray} {k : Nat} (h : k < s.size) (hb : ok8 s[k] = false) : capB s = false := by
  unfold capB
  rw [Bool.and_eq_false_iff]
  right
  rw [List.all_eq_false]
  exact ⟨s[k], mem_at s k h, by simp [hb]⟩

theorem capB_good {s : ByteArray} {k : Nat} (hk : ¬ k < s.size) (hne : 0 < s.size) (h : (s.data.toList.take k).all ok8 = true) : capB s = true := by
  rw [List.take_of_length_le (by simp; omega)] at h
  unfold capB
  rw [h, Bool.and_true]
  cases hh : s.data.toList with
  | nil => have h2 : s.data.toList.length = 0 := by rw [hh]; rfl
           have h3 : s.size = s.data.toList.length := by simp
           omega
  | cons a l => rfl

theorem all_snoc {s : ByteArray} {k : Nat} (hk : k < s.size) (h : (s.data.toList.take k).all ok8 = true) (hb : ok8 s[k] = true) : (s.data.toList.take (k + 1)).all ok8 = true := by
  rw [take_snoc s k hk, List.all_append, h]
  simp [hb]

theorem capB_empty {s : ByteArray} (h : s.size = 0) : capB s = false := by
  have h3 : s.size = s.data.toList.length := by simp
  have h2 : s.data.toList = [] := List.eq_nil_of_length_eq_zero (by omega)
  simp [capB, h2]
end Go.Proofs.Ybulkdfnw.Cap
