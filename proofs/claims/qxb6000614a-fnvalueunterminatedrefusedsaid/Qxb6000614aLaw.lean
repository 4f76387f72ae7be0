import Derived.Test.Qxb6000614aEsc
namespace Go.Proofs.Qxb6000614a
open Go.RowKit Go.Lib

theorem zzLex_at (P T : List UInt8) (S : ByteArray) (hS : S.data.toList = P ++ 34 :: T) (k : Nat) (hk : k = P.length) (hs : S.size ≤ 1099511627776) (w : World) :
    Calls Try.prog 9 #[.string S, .int .i64 k] w (LexPost S (Pl.lex T []) w) := by
  subst hk
  have hat : S.data.toList[P.length]? = some 34 := by rw [hS]; simp
  obtain ⟨hlt, he⟩ := byte_at hat
  have hd : S.data.toList.drop (P.length + 1) = T := by
    rw [hS, ← List.drop_drop, List.drop_left]; rfl
  have := zzLex_any S P.length w hlt he hs
  rw [hd] at this
  exact this

/-- The round trip's reading. -/
theorem lex_good (a0 a1 a2 : ByteArray) (l5 : List UInt8) (n : Nat) (h : l5 = ((a0.data.toList ++ [34]) ++ Pl.esc a1.data.toList ++ [34]) ++ a2.data.toList) (hn : n = ((a0.data.toList ++ [34]) ++ Pl.esc a1.data.toList ++ [34]).length) (hs : l5.length ≤ 1099511627776) (w : World) :
    Calls Try.prog 9 #[.string ⟨l5.toArray⟩, .int .i64 a0.size] w fun e w' => e = .returned (.tuple #[.string a1, .bool true, .int .i64 n]) ∧ Below w.heap.size w w' := by
  have e : (⟨l5.toArray⟩ : ByteArray).data.toList = a0.data.toList ++ 34 :: (Pl.esc a1.data.toList ++ 34 :: a2.data.toList) := by rw [h]; simp
  have hsz : (⟨l5.toArray⟩ : ByteArray).size = l5.length := by rw [Lib.size_eq]
  refine (zzLex_at a0.data.toList _ ⟨l5.toArray⟩ e a0.size (Lib.size_eq a0) (by rw [hsz]; exact hs) w).mono ?_
  rintro e w' ⟨⟨hz, _⟩ | ⟨v, r, k', hz, rfl, hk⟩, hb⟩
  · rw [Pl.lex_round] at hz; cases hz
  · rw [Pl.lex_round] at hz
    cases hz
    refine ⟨?_, hb⟩
    rw [hsz, h, List.length_append, ← hn] at hk
    have : k' = n := by omega
    rw [this, Lib.mk_data]

/-- The refusal's reading. -/
theorem lex_bad (a0 : ByteArray) (T l : List UInt8) (h : l = (a0.data.toList ++ [34]) ++ T) (hT : Pl.lex T [] = none) (hs : l.length ≤ 1099511627776) (w : World) :
    Calls Try.prog 9 #[.string ⟨l.toArray⟩, .int .i64 a0.size] w fun e w' => e = .returned (.tuple #[.string ⟨#[]⟩, .bool false, .int .i64 l.length]) ∧ Below w.heap.size w w' := by
  have e : (⟨l.toArray⟩ : ByteArray).data.toList = a0.data.toList ++ 34 :: T := by rw [h]; simp
  have hsz : (⟨l.toArray⟩ : ByteArray).size = l.length := by rw [Lib.size_eq]
  refine (zzLex_at a0.data.toList T ⟨l.toArray⟩ e a0.size (Lib.size_eq a0) (by rw [hsz]; exact hs) w).mono ?_
  rintro e w' ⟨⟨_, rfl⟩ | ⟨v, r, k', hz, _⟩, hb⟩
  · exact ⟨by rw [hsz], hb⟩
  · rw [hT] at hz; cases hz

theorem own_open {w : World} {B : Nat} {v : Value} {n : Nat} {xs : List Value} (h : w.ownsRow B 5 1 v n xs) : ∃ a c, v = .slice a n c := by
  obtain ⟨_, ⟨rfl, hn⟩ | ⟨g, cap, cur, rfl, _⟩⟩ := h
  · exact ⟨none, 0, by rw [hn]⟩
  · exact ⟨_, cap, rfl⟩

theorem own_str {w : World} {B : Nat} {v : Value} {l : List UInt8} {s : ByteArray} (h : w.ownsRow B 5 1 v (l.length + s.size) (Lib.byteCells l ++ Lib.strCells s)) : w.ownsRow B 5 1 v (l ++ s.data.toList).length (Lib.byteCells (l ++ s.data.toList)) := by
  rw [Lib.byteCells_append, List.length_append, ← Lib.size_eq]
  exact h

end Go.Proofs.Qxb6000614a
