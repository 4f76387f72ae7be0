import Derived.Lib.Strings
namespace Go.Proofs.Qxb6000614a.Pl

/-- The text with its escapes. -/
def esc : List UInt8 → List UInt8
  | [] => []
  | c :: l => (if c = 34 ∨ c = 92 then [92, c] else [c]) ++ esc l

/-- What is read behind the opening quote: the value and what is left; none where no quote closes it. -/
def lex : List UInt8 → List UInt8 → Option (List UInt8 × List UInt8)
  | [], _ => none
  | c :: l, acc =>
    if c = 34 then some (acc, l)
    else if c = 92 then
      match l with
      | [] => none
      | d :: l' => lex l' (acc ++ [d])
    else lex l (acc ++ [c])

theorem lex_quote (l acc : List UInt8) : lex (34 :: l) acc = some (acc, l) := by
  rw [lex.eq_def]
  simp
theorem lex_esc (d : UInt8) (l acc : List UInt8) : lex (92 :: d :: l) acc = lex l (acc ++ [d]) := by
  rw [lex, if_neg (by decide), if_pos rfl]
theorem lex_lone (acc : List UInt8) : lex [92] acc = none := by
  rw [lex, if_neg (by decide), if_pos rfl]
theorem lex_byte (c : UInt8) (l acc : List UInt8) (h1 : c ≠ 34) (h2 : c ≠ 92) : lex (c :: l) acc = lex l (acc ++ [c]) := by
  rw [lex.eq_def]
  simp [h1, h2]
theorem lex_nil (acc : List UInt8) : lex [] acc = none := by rw [lex]

theorem lex_escaped : ∀ (x t acc : List UInt8), lex (esc x ++ t) acc = lex t (acc ++ x)
  | [], t, acc => by simp [esc]
  | c :: x, t, acc => by
    by_cases h : c = 34 ∨ c = 92
    · rw [esc, if_pos h]
      show lex (92 :: c :: (esc x ++ t)) acc = _
      rw [lex_esc, lex_escaped x t, List.append_assoc]
      rfl
    · rw [esc, if_neg h]
      show lex (c :: (esc x ++ t)) acc = _
      rw [lex_byte _ _ _ (fun e => h (.inl e)) (fun e => h (.inr e)), lex_escaped x t, List.append_assoc]
      rfl

theorem lex_round (x rest : List UInt8) : lex (esc x ++ 34 :: rest) [] = some (x, rest) := by
  rw [lex_escaped, lex_quote]
  simp

theorem lex_open (x : List UInt8) : lex (esc x) [] = none := by
  have := lex_escaped x [] []
  rw [List.append_nil] at this
  rw [this, lex_nil]

theorem lex_open_lone (x : List UInt8) : lex (esc x ++ [92]) [] = none := by
  rw [lex_escaped, lex_lone]

theorem esc_snoc (l : List UInt8) (c : UInt8) : esc (l ++ [c]) = esc l ++ (if c = 34 ∨ c = 92 then [92, c] else [c]) := by
  induction l with
  | nil => simp [esc]
  | cons d l ih => rw [List.cons_append, esc, ih, esc, List.append_assoc]

theorem esc_length (l : List UInt8) : (esc l).length ≤ 2 * l.length := by
  induction l with
  | nil => simp [esc]
  | cons d l ih =>
    rw [esc, List.length_append, List.length_cons]
    split
    · simp; omega
    · simp; omega

theorem lex_rest : ∀ (n : Nat) (l acc : List UInt8), l.length ≤ n → ∀ v r, lex l acc = some (v, r) → r.length ≤ l.length ∧ v.length ≤ acc.length + l.length
  | 0, l, acc, hn, v, r, h => by
    have : l = [] := List.length_eq_zero_iff.1 (by omega)
    subst this
    rw [lex_nil] at h
    cases h
  | n + 1, [], acc, hn, v, r, h => by rw [lex_nil] at h; cases h
  | n + 1, c :: l, acc, hn, v, r, h => by
    by_cases h1 : c = 34
    · subst h1
      rw [lex_quote] at h
      cases h
      simp
    · by_cases h2 : c = 92
      · subst h2
        cases l with
        | nil => rw [lex_lone] at h; cases h
        | cons d l' =>
          rw [lex_esc] at h
          have := lex_rest n l' (acc ++ [d]) (by simp at hn; omega) v r h
          simp at this ⊢
          omega
      · rw [lex_byte _ _ _ h1 h2] at h
        have := lex_rest n l (acc ++ [c]) (by simp at hn; omega) v r h
        simp at this ⊢
        omega

end Go.Proofs.Qxb6000614a.Pl
