import Derived.Test.Qxb6000390aUnder
namespace Go.Proofs.Qxb6000390a
open Go.RowKit Go.Lib

set_option maxHeartbeats 1000000 in
theorem bytes16_any (a b : ByteArray) (w : World) (ha : a.size ≤ maxLen) (hb : b.size ≤ maxLen) :
    Calls Try.prog 16 #[.string a, .string b] w fun e w' => (e = .returned (.bool true) ∨ e = .returned (.bool false)) ∧ w' = w := by
  unfold maxLen at ha hb
  go_enter Try.func16, Try.ntmps16
  go_wp2
  all_goals (go_ret; first | exact ⟨.inl rfl, rfl⟩ | exact ⟨.inr rfl, rfl⟩)

set_option maxHeartbeats 1000000 in
theorem bytes20_any (a b c : ByteArray) (w : World) (ha : a.size ≤ maxLen) (hb : b.size ≤ maxLen) (hc : c.size ≤ maxLen) :
    Calls Try.prog 20 #[.string a, .string b, .string c] w fun e w' => (e = .returned (.bool true) ∨ e = .returned (.bool false)) ∧ w' = w := by
  unfold maxLen at ha hb hc
  go_enter Try.func20, Try.ntmps20
  go_wp2
  all_goals (go_ret; first | exact ⟨.inl rfl, rfl⟩ | exact ⟨.inr rfl, rfl⟩)

set_option maxHeartbeats 1000000 in
theorem bytes22_any (a b : ByteArray) (w : World) (ha : a.size ≤ maxLen) (hb : b.size ≤ maxLen) :
    Calls Try.prog 22 #[.string a, .string b] w fun e w' => (e = .returned (.bool true) ∨ e = .returned (.bool false)) ∧ w' = w := by
  unfold maxLen at ha hb
  go_enter Try.func22, Try.ntmps22
  go_wp2
  all_goals (go_ret; first | exact ⟨.inl rfl, rfl⟩ | exact ⟨.inr rfl, rfl⟩)

theorem zero_of (c : UInt8) (h : ((c.toNat : Int) == 0) = false) : c ≠ 0 := by
  intro e
  subst e
  simp at h

/-- No NUL among the first k bytes. -/
def NoNul (l : List UInt8) : Prop := ∀ c ∈ l, c ≠ 0

theorem noNul_snoc (s : ByteArray) (k : Nat) (h : k < s.size) (hn : NoNul (s.data.toList.take k)) (hc : s[k] ≠ 0) : NoNul (s.data.toList.take (k + 1)) := by
  have e : s.data.toList.take (k + 1) = s.data.toList.take k ++ [s[k]] := by
    rw [List.take_succ_eq_append_getElem (by simpa using h)]; rfl
  rw [e]
  intro c hm
  rw [List.mem_append, List.mem_singleton] at hm
  rcases hm with hm | hm
  · exact hn c hm
  · rw [hm]; exact hc

set_option maxHeartbeats 1000000 in
theorem hasNul_any (s : ByteArray) (w : World) (hs : s.size ≤ 1099511627776) :
    Calls Try.prog 21 #[.string s] w fun e w' => (e = .returned (.bool true) ∨ (e = .returned (.bool false) ∧ NoNul s.data.toList)) ∧ w' = w := by
  go_enter Try.func21, Try.ntmps21
  go_wp2
  go_loop [3] (fun i => ∃ k : Nat, k ≤ s.size ∧ i = .int .i64 k ∧ Hid (NoNul (s.data.toList.take k))) (fun i => s.size - (intOf i).toNat)
  case atStart => exact ⟨0, Nat.zero_le _, rfl, by intro c hc; simp at hc⟩
  case round =>
    obtain ⟨k, hk, rfl, hn⟩ := hrel
    by_cases hlt : k < s.size
    · go_wp2
      · go_ret
        exact ⟨.inl rfl, rfl⟩
      · have hz := zero_of s[k] (by assumption)
        go_round
        case rel => exact ⟨k + 1, by omega, by go_num, noNul_snoc s k hlt hn.out hz⟩
        case measure => simp [intOf]; omega
    · go_wp2
      go_ret
      have e : s.data.toList.take k = s.data.toList := List.take_of_length_le (by rw [← Lib.size_eq]; omega)
      exact ⟨.inr ⟨rfl, by rw [← e]; exact hn.out⟩, rfl⟩

theorem cutN_id : ∀ (l : List UInt8), NoNul l → cutN l = l
  | [], _ => rfl
  | c :: l, h => by
    have h1 : c ≠ 0 := h c (List.mem_cons_self ..)
    have h2 := cutN_id l (fun x hx => h x (List.mem_cons_of_mem _ hx))
    unfold cutN at h2 ⊢
    rw [List.takeWhile_cons, if_pos (by simpa using h1), h2]

theorem underB_refl (a : List UInt8) (h : NoNul a) : underB a a = true := by
  rw [underB, cutN_id a h, List.isPrefixOf_iff_prefix]
  exact List.prefix_refl _

theorem underB_trans (a b c : List UInt8) (hb : NoNul b) (h1 : underB a b = true) (h2 : underB b c = true) : underB a c = true := by
  rw [underB, List.isPrefixOf_iff_prefix] at h1 h2 ⊢
  rw [cutN_id b hb] at h2
  exact h2.trans h1

end Go.Proofs.Qxb6000390a
