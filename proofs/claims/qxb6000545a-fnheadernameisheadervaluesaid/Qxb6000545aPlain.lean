import Derived.Lib.Bytealg
namespace Go.Proofs.Qxb6000545a.Pl
open Go.Lib

def alnum (v : Int) : Prop := (97 ≤ v ∧ v ≤ 122) ∨ (65 ≤ v ∧ v ≤ 90) ∨ (48 ≤ v ∧ v ≤ 57)
def special (v : Int) : Prop := v = 33 ∨ v = 35 ∨ v = 36 ∨ v = 37 ∨ v = 38 ∨ v = 39 ∨ v = 42 ∨ v = 43 ∨ v = 45 ∨ v = 46 ∨ v = 94 ∨ v = 95 ∨ v = 96 ∨ v = 124 ∨ v = 126
/-- A byte that may stand in a field name, as validHeaderName tests it. -/
def tchar (v : Int) : Prop := alnum v ∨ special v
/-- The same, as the law's model tests it. -/
def rfc (v : Int) : Prop := 33 ≤ v ∧ v ≤ 126 ∧ v ≠ 34 ∧ v ≠ 40 ∧ v ≠ 41 ∧ v ≠ 44 ∧ v ≠ 47 ∧ v ≠ 58 ∧ v ≠ 59 ∧ v ≠ 60 ∧ v ≠ 61 ∧ v ≠ 62 ∧ v ≠ 63 ∧ v ≠ 64 ∧ v ≠ 91 ∧ v ≠ 92 ∧ v ≠ 93 ∧ v ≠ 123 ∧ v ≠ 125

theorem tchar_rfc (v : Int) : tchar v ↔ rfc v := by
  unfold tchar alnum special rfc
  omega

theorem not_alnum {v : Int} (h : ¬ alnum v) : v < 48 ∨ (57 < v ∧ v < 65) ∨ (90 < v ∧ v < 97) ∨ 122 < v := by
  unfold alnum at h
  omega

/-- All of the first k bytes. -/
def All (P : Int → Prop) (l : List UInt8) : Prop := ∀ c ∈ l, P (c.toNat : Int)

theorem all_nil (P : Int → Prop) : All P [] := by intro c hc; simp at hc

theorem all_snoc {P : Int → Prop} {s : ByteArray} {k : Nat} (h : k < s.size) (hn : All P (s.data.toList.take k)) {v : Int} (hv : v = s[k].toNat) (hc : P v) : All P (s.data.toList.take (k + 1)) := by
  have e : s.data.toList.take (k + 1) = s.data.toList.take k ++ [s[k]] := by
    rw [List.take_succ_eq_append_getElem (by simpa using h)]; rfl
  rw [e]
  intro c hm
  rw [List.mem_append, List.mem_singleton] at hm
  rcases hm with hm | hm
  · exact hn c hm
  · rw [hm, ← hv]; exact hc

theorem all_end {P : Int → Prop} {s : ByteArray} {k : Nat} (h : ¬ k < s.size) (hn : All P (s.data.toList.take k)) : All P s.data.toList := by
  have e : s.data.toList.take k = s.data.toList := List.take_of_length_le (by rw [← Lib.size_eq]; omega)
  rw [← e]; exact hn

theorem not_all {P : Int → Prop} {s : ByteArray} {k : Nat} (h : k < s.size) {v : Int} (hv : v = s[k].toNat) (hc : ¬ P v) : ¬ All P s.data.toList := by
  intro ha
  apply hc
  rw [hv]
  exact ha _ (List.getElem_mem (l := s.data.toList) (by rw [← Lib.size_eq]; exact h))

/-- A field name. -/
def Name (l : List UInt8) : Prop := l ≠ [] ∧ All tchar l

open Classical in
theorem name_rfc (l : List UInt8) : Name l ↔ l ≠ [] ∧ All rfc l := by
  unfold Name All
  simp only [tchar_rfc]

theorem indexByte_mem (l : List UInt8) (c : UInt8) : 0 ≤ indexByte l c ↔ c ∈ l := by
  induction l with
  | nil => simp [indexByte]
  | cons b l ih =>
    have hg := indexByte_ge l c
    unfold indexByte
    by_cases hb : b = c
    · subst hb; simp
    · have hb' : (b == c) = false := by simpa using hb
      rw [hb']
      simp only [Bool.false_eq_true, if_false, List.mem_cons]
      have hne : ¬ c = b := fun e => hb e.symm
      by_cases hm : indexByte l c = -1
      · have : (indexByte l c == -1) = true := by simpa using hm
        rw [this]
        simp only [if_true]
        have : ¬ c ∈ l := by rw [← ih]; omega
        simp [hne, this]
      · have : (indexByte l c == -1) = false := by simpa using hm
        rw [this]
        simp only [Bool.false_eq_true, if_false]
        have : c ∈ l := by rw [← ih]; omega
        simp [this]
        omega

theorem special_mem (c : UInt8) : c ∈ ([33, 35, 36, 37, 38, 39, 42, 43, 45, 46, 94, 95, 96, 124, 126] : List UInt8) ↔ special (c.toNat : Int) := by
  have h : ∀ n : UInt8, c = n ↔ (c.toNat : Int) = (n.toNat : Int) := by
    intro n
    constructor
    · intro e; rw [e]
    · intro e; exact UInt8.toNat.inj (by omega)
  unfold special
  simp only [List.mem_cons, List.not_mem_nil, or_false, h]
  exact Iff.rfl

end Go.Proofs.Qxb6000545a.Pl
