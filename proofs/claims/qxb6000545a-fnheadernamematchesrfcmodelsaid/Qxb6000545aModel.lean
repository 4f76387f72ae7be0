import Derived.Test.Qxb6000545aName
namespace Go.Proofs.Qxb6000545a
open Go.RowKit Go.Lib

set_option maxHeartbeats 4000000 in
set_option maxRecDepth 100000 in
theorem rfc_any (v : Int) (h0 : 0 ≤ v) (h1 : v ≤ 255) (w : World) :
    Calls Try.prog 33 #[.int .u8 v] w fun e w' => ((e = .returned (.bool true) ∧ Pl.rfc v) ∨ (e = .returned (.bool false) ∧ ¬ Pl.rfc v)) ∧ w' = w := by
  go_enter Try.func33, Try.ntmps33
  go_wp2
  all_goals first
    | (have hr : ¬ Pl.rfc v := by
         unfold Pl.rfc
         try simp only [beq_iff_eq, beq_eq_false_iff_ne, ne_eq] at *
         omega
       go_ret
       exact ⟨.inr ⟨rfl, hr⟩, rfl⟩)
    | (have hr : Pl.rfc v := by
         unfold Pl.rfc
         try simp only [beq_eq_false_iff_ne, ne_eq] at *
         omega
       go_ret
       exact ⟨.inl ⟨rfl, hr⟩, rfl⟩)

set_option maxHeartbeats 4000000 in
set_option maxRecDepth 100000 in
theorem model_any (s : ByteArray) (w : World) (hs : s.size ≤ 1099511627776) :
    Calls Try.prog 25 #[.string s] w fun e w' => ((e = .returned (.bool true) ∧ Pl.Name s.data.toList) ∨ (e = .returned (.bool false) ∧ ¬ Pl.Name s.data.toList)) ∧ w' = w := by
  obtain ⟨N, hN⟩ : ∃ N, N = Pl.Name s.data.toList := ⟨_, rfl⟩
  rw [← hN]
  have HN : Hid (N ↔ s.data.toList ≠ [] ∧ Pl.All Pl.rfc s.data.toList) := by rw [hN]; exact Pl.name_rfc _
  clear hN
  by_cases hz : s.size = 0
  · have hn : ¬ N := by
      intro h
      exact (HN.out.1 h).1 (List.length_eq_zero_iff.1 (by rw [← Lib.size_eq]; exact hz))
    have HNN := (show Hid _ from hn)
    clear hn
    have hzb : ((s.size : Int) == 0) = true := by rw [hz]; rfl
    go_enter Try.func25, Try.ntmps25
    go_wp2_with fail
    go_ret
    exact ⟨.inr ⟨rfl, HNN.out⟩, rfl⟩
  · have hzb : ((s.size : Int) == 0) = false := by rw [beq_eq_false_iff_ne]; omega
    have HNE : Hid (s.data.toList ≠ []) := by
      intro e
      apply hz
      rw [Lib.size_eq, e]; rfl
    clear hz
    go_enter Try.func25, Try.ntmps25
    go_wp2_with fail
    go_loopg [3] s.size (fun n i wr => ∃ k : Nat, n + k = s.size ∧ i = .int .i64 k ∧ wr = w ∧ Hid (Pl.All Pl.rfc (s.data.toList.take k)))
    case atStart => exact ⟨0, rfl, rfl, rfl, Pl.all_nil _⟩
    case round =>
      obtain ⟨k, hk, rfl, hwr, HA⟩ := hrel
      subst hwr
      by_cases hlt : k < s.size
      · have hv1 : (s[k].toNat : Int) ≤ 255 := by have := s[k].toNat_lt; omega
        go_wp2_with fail
        refine (rfc_any (s[k].toNat : Int) (by omega) hv1 _).mono ?_
        rintro e w' ⟨⟨rfl, hr⟩ | ⟨rfl, hr⟩, rfl⟩
        · have hall := Pl.all_snoc hlt HA.out rfl hr
          clear hr
          go_wp2_with fail
          go_roundg (gk - 1)
          case rel => exact ⟨k + 1, by omega, by go_num, rfl, hall⟩
          case measure => omega
        · have hn : ¬ N := by
            intro h
            exact Pl.not_all hlt rfl hr (HN.out.1 h).2
          have HNN := (show Hid _ from hn)
          clear hr hn
          go_wp2_with fail
          go_ret
          exact ⟨.inr ⟨rfl, HNN.out⟩, rfl⟩
      · have hn : N := HN.out.2 ⟨HNE.out, Pl.all_end hlt HA.out⟩
        have HNN := (show Hid _ from hn)
        clear hn
        go_wp2_with fail
        go_ret
        exact ⟨.inl ⟨rfl, HNN.out⟩, rfl⟩

set_option maxHeartbeats 1000000 in
theorem bytes24_any (a : ByteArray) (w : World) (ha : a.size ≤ maxLen) :
    Calls Try.prog 24 #[.string a] w fun e w' => (e = .returned (.bool true) ∨ e = .returned (.bool false)) ∧ w' = w := by
  unfold maxLen at ha
  go_enter Try.func24, Try.ntmps24
  go_wp2
  all_goals (go_ret; first | exact ⟨.inl rfl, rfl⟩ | exact ⟨.inr rfl, rfl⟩)

set_option maxHeartbeats 1000000 in
theorem zzName_any (s : ByteArray) (w : World) (hs : s.size ≤ 1099511627776) :
    Calls Try.prog 23 #[.string s] w fun e w' => ((e = .returned (.bool true) ∧ Pl.Name s.data.toList) ∨ (e = .returned (.bool false) ∧ ¬ Pl.Name s.data.toList)) ∧ Below w.heap.size w w' := by
  obtain ⟨N, hN⟩ : ∃ N, N = Pl.Name s.data.toList := ⟨_, rfl⟩
  have c := fun w => name_any s w hs
  rw [← hN] at c ⊢
  have C := (show Hid _ from c)
  clear c hN
  go_enter Try.func23, Try.ntmps23
  go_wp2_with fail
  refine (C.out _).mono ?_
  rintro e w1 ⟨⟨rfl, hn⟩ | ⟨rfl, hn⟩, hb⟩
  · have HN := (show Hid _ from hn)
    clear hn
    go_wp2_with fail
    go_ret
    exact ⟨.inl ⟨rfl, HN.out⟩, hb⟩
  · have HN := (show Hid _ from hn)
    clear hn
    go_wp2_with fail
    go_ret
    exact ⟨.inr ⟨rfl, HN.out⟩, hb⟩

end Go.Proofs.Qxb6000545a
