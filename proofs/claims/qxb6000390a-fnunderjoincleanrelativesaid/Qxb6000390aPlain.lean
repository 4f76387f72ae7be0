import Derived.Lib.PathFns
namespace Go.Proofs.Qxb6000390a.Pl
open Go.Lib

/-- What one segment does to the stack. -/
def push (st : List (List UInt8)) (seg : List UInt8) : List (List UInt8) :=
  if seg = [] then st else if seg = [46] then st else if seg = [46, 46] then st.dropLast else st ++ [seg]

def step (a : List (List UInt8) × List UInt8) (c : UInt8) : List (List UInt8) × List UInt8 :=
  if c = 47 then (push a.1 a.2, []) else (a.1, a.2 ++ [c])

def run (p : List UInt8) : List (List UInt8) × List UInt8 := p.foldl step ([], [])

/-- The segments that remain, read forward with a stack. -/
def norm (p : List UInt8) : List (List UInt8) := push (run p).1 (run p).2

theorem foldl_noslash : ∀ (seg : List UInt8) (a : List (List UInt8) × List UInt8), (∀ c ∈ seg, c ≠ 47) → seg.foldl step a = (a.1, a.2 ++ seg)
  | [], a, _ => by simp
  | c :: l, a, h => by
    have hc : c ≠ 47 := h c (List.mem_cons_self ..)
    rw [List.foldl_cons, foldl_noslash l _ (fun x hx => h x (List.mem_cons_of_mem _ hx))]
    simp [step, hc]

theorem norm_nil : norm [] = [] := rfl

theorem norm_noslash (seg : List UInt8) (h : ∀ c ∈ seg, c ≠ 47) : norm seg = push [] seg := by
  unfold norm run
  rw [foldl_noslash seg _ h]
  simp

theorem norm_cut (r seg : List UInt8) (h : ∀ c ∈ seg, c ≠ 47) : norm (r ++ 47 :: seg) = push (norm r) seg := by
  have e : run (r ++ 47 :: seg) = (norm r, seg) := by
    unfold run
    rw [List.foldl_append, List.foldl_cons, foldl_noslash seg _ h]
    simp [step, norm, run]
  rw [norm, e]

/-- Joining by a slash: the second path's steps begin on the first's segments. -/
def over (st : List (List UInt8)) (p : List UInt8) : List (List UInt8) := push (p.foldl step (st, [])).1 (p.foldl step (st, [])).2

theorem norm_join (p q : List UInt8) : norm (p ++ 47 :: q) = over (norm p) q := by
  have e : run (p ++ 47 :: q) = q.foldl step (norm p, []) := by
    unfold run
    rw [List.foldl_append, List.foldl_cons]
    simp [step, norm, run]
  rw [norm, e, over]

theorem norm_over (p : List UInt8) : norm p = over [] p := rfl

/-- The iterator's list: what is still to come, last first. -/
def lst (rest : List UInt8) (k : Nat) : List (List UInt8) := (norm rest).reverse.drop k

def isDot (seg : List UInt8) : Bool := seg == [] || seg == [46]

theorem push_dot (st : List (List UInt8)) (seg : List UInt8) (h : isDot seg = true) : push st seg = st := by
  unfold isDot at h
  simp at h
  unfold push
  rcases h with h | h <;> simp [h]

theorem push_dd (st : List (List UInt8)) : push st [46, 46] = st.dropLast := by
  simp [push]

theorem push_seg (st : List (List UInt8)) (seg : List UInt8) (h : isDot seg = false) (h2 : (seg == [46, 46]) = false) : push st seg = st ++ [seg] := by
  unfold isDot at h
  simp at h h2
  simp [push, h, h2]

theorem rev_dropLast {α : Type} (l : List α) (k : Nat) : l.dropLast.reverse.drop k = l.reverse.drop (k + 1) := by
  rw [← List.tail_reverse, ← List.drop_one, List.drop_drop]
  congr 1
  omega

/-- One cut of the path at its last slash. -/
def cutRest (l : List UInt8) : List UInt8 := if 0 ≤ Pa.lastIndexByte l 47 then l.take (Pa.lastIndexByte l 47).toNat else []
def cutSeg (l : List UInt8) : List UInt8 := if 0 ≤ Pa.lastIndexByte l 47 then l.drop (Pa.lastIndexByte l 47 + 1).toNat else l

theorem norm_last (l : List UInt8) : norm l = push (norm (cutRest l)) (cutSeg l) := by
  rcases Pa.lastIndexByte_spec l 47 with ⟨h, hn⟩ | ⟨i, h, hi, hn⟩
  · have e1 : cutRest l = [] := by simp [cutRest, h]
    have e2 : cutSeg l = l := by simp [cutSeg, h]
    rw [e1, e2, norm_nil, norm_noslash]
    intro c hc e
    obtain ⟨j, hj, he⟩ := List.mem_iff_getElem.1 hc
    exact hn j (by rw [List.getElem?_eq_getElem hj, he, e])
  · have e1 : cutRest l = l.take i := by simp [cutRest, h]
    have e2 : cutSeg l = l.drop (i + 1) := by
      have : ((i : Int) + 1).toNat = i + 1 := by omega
      simp [cutSeg, h, this]
    have hlt : i < l.length := by
      rcases Nat.lt_or_ge i l.length with hl | hl
      · exact hl
      · rw [List.getElem?_eq_none hl] at hi; cases hi
    have e3 : l = l.take i ++ 47 :: l.drop (i + 1) := by
      have : l[i] = 47 := by rw [List.getElem?_eq_getElem hlt] at hi; exact Option.some.inj hi
      rw [← this, ← List.drop_eq_getElem_cons hlt, List.take_append_drop]
    rw [e1, e2]
    conv => lhs; rw [e3]
    apply norm_cut
    intro c hc e
    obtain ⟨j, hj, he⟩ := List.mem_iff_getElem.1 hc
    refine hn (i + 1 + j) (by omega) ?_
    rw [← List.getElem?_drop, List.getElem?_eq_getElem hj, he, e]

theorem cutRest_lt (l : List UInt8) (h : l ≠ []) : (cutRest l).length < l.length := by
  have hb := Pa.lastIndexByte_bounds l 47
  have hl : 0 < l.length := List.length_pos_iff.2 h
  unfold cutRest
  split
  · rw [List.length_take]; omega
  · simpa using hl

theorem lst_nil (k : Nat) : lst [] k = [] := by simp [lst, norm_nil]

theorem lst_dot (l : List UInt8) (k : Nat) (h : isDot (cutSeg l) = true) : lst l k = lst (cutRest l) k := by
  rw [lst, norm_last, push_dot _ _ h, lst]

theorem lst_dd (l : List UInt8) (k : Nat) (h : (cutSeg l == [46, 46]) = true) : lst l k = lst (cutRest l) (k + 1) := by
  have h' : cutSeg l = [46, 46] := by simpa using h
  rw [lst, norm_last, h', push_dd, rev_dropLast, lst]

theorem lst_skip (l : List UInt8) (k : Nat) (h : isDot (cutSeg l) = false) (h2 : (cutSeg l == [46, 46]) = false) (hk : 0 < k) : lst l k = lst (cutRest l) (k - 1) := by
  rw [lst, norm_last, push_seg _ _ h h2, lst]
  obtain ⟨m, rfl⟩ : ∃ m, k = m + 1 := ⟨k - 1, by omega⟩
  simp

theorem lst_hit (l : List UInt8) (h : isDot (cutSeg l) = false) (h2 : (cutSeg l == [46, 46]) = false) : lst l 0 = cutSeg l :: lst (cutRest l) 0 := by
  rw [lst, norm_last, push_seg _ _ h h2, lst]
  simp

theorem lst_zero (l : List UInt8) : lst l 0 = (norm l).reverse := by simp [lst]

theorem push_length (st : List (List UInt8)) (seg : List UInt8) : (push st seg).length ≤ st.length + 1 := by
  unfold push
  split
  · omega
  · split
    · omega
    · split
      · simp; omega
      · simp

theorem run_length : ∀ (p : List UInt8) (a : List (List UInt8) × List UInt8), (p.foldl step a).1.length ≤ a.1.length + p.length
  | [], a => by simp
  | c :: l, a => by
    rw [List.foldl_cons]
    have h := run_length l (step a c)
    have : (step a c).1.length ≤ a.1.length + 1 := by
      unfold step
      split
      · exact push_length _ _
      · simp
    simp only [List.length_cons]
    omega

theorem norm_length (p : List UInt8) : (norm p).length ≤ p.length + 1 := by
  have h1 := run_length p ([], [])
  have h2 := push_length (run p).1 (run p).2
  unfold norm
  unfold run at h2 ⊢
  simp at h1
  omega

end Go.Proofs.Qxb6000390a.Pl
