import Derived.Test.Qxb6000545aName
namespace Go.Proofs.Qxb6000545a
open Go.RowKit Go.Lib

/-- A byte that may stand anywhere in a field value. -/
def plainC (v : Int) : Prop := 33 ≤ v ∧ v ≠ 127
/-- A byte of an event type. -/
def evC (v : Int) : Prop := v = 46 ∨ v = 95 ∨ Pl.alnum v

theorem tchar_plain (v : Int) (h : Pl.tchar v) : plainC v := by
  unfold Pl.tchar Pl.alnum Pl.special at h; unfold plainC; omega
theorem ev_tchar (v : Int) (h : evC v) : Pl.tchar v := by
  unfold evC Pl.alnum at h; unfold Pl.tchar Pl.alnum Pl.special; omega

theorem all_imp {P Q : Int → Prop} (h : ∀ v, P v → Q v) {l : List UInt8} (ha : Pl.All P l) : Pl.All Q l := fun c hc => h _ (ha c hc)

theorem all_at {P : Int → Prop} {s : ByteArray} {k : Nat} (h : k < s.size) (ha : Pl.All P s.data.toList) : P (s[k].toNat : Int) :=
  ha _ (List.getElem_mem (l := s.data.toList) (by rw [← Lib.size_eq]; exact h))

set_option maxHeartbeats 4000000 in
set_option maxRecDepth 100000 in
/-- validHeaderValue takes every string of such bytes. -/
theorem value_any (s : ByteArray) (w : World) (hs : s.size ≤ 1099511627776) (ha : Pl.All plainC s.data.toList) :
    Calls Try.prog 30 #[.string s] w fun e w' => e = .returned (.bool true) ∧ Below w.heap.size w w' := by
  obtain ⟨cap, W1, hcv, hcell, hbel⟩ := bytes_of s w
  have HCELL := (show Hid _ from hcell)
  have HA := (show Hid _ from ha)
  clear hcell ha
  go_enter Try.func30, Try.ntmps30
  go_wp2
  go_loopg [8] s.size (fun n i wr => ∃ k : Nat, n + k = s.size ∧ i = .int .i64 k ∧ wr = W1)
  case atStart => exact ⟨0, rfl, rfl, rfl⟩
  case round =>
    obtain ⟨k, hk, rfl, hwr⟩ := hrel
    subst hwr
    by_cases hlt : k < s.size
    · obtain ⟨v, hv⟩ : ∃ v : Int, v = (s[k].toNat : Int) := ⟨_, rfl⟩
      have hcl := HCELL.out k hlt
      have hp := all_at hlt HA.out
      rw [← hv] at hcl hp
      have hv1 : v ≤ 255 := by have := s[k].toNat_lt; omega
      obtain ⟨hp1, hp2⟩ := hp
      have e1 : (v == 32) = false := by rw [beq_eq_false_iff_ne]; omega
      have e2 : (v == 9) = false := by rw [beq_eq_false_iff_ne]; omega
      have e3 : (v == 127) = false := by rw [beq_eq_false_iff_ne]; omega
      clear hv hp2
      go_wp2
      go_roundg (gk - 1)
      case rel => exact ⟨k + 1, by omega, by go_num, rfl⟩
      case measure => omega
    · go_wp2
      go_ret
      exact ⟨rfl, hbel⟩

set_option maxHeartbeats 4000000 in
set_option maxRecDepth 100000 in
/-- validEventType refuses, or every byte is one of an event type's. -/
theorem event_any (s : ByteArray) (w : World) (hs : s.size ≤ 1099511627776) :
    Calls Try.prog 28 #[.string s] w fun e w' => ((e = .returned (.bool true) ∧ s.data.toList ≠ [] ∧ Pl.All evC s.data.toList) ∨ e = .returned (.bool false)) ∧ Below w.heap.size w w' := by
  obtain ⟨cap, W1, hcv, hcell, hbel⟩ := bytes_of s w
  have HCELL := (show Hid _ from hcell)
  clear hcell
  by_cases hz : s.size = 0
  · have hzb : ((s.size : Int) == 0) = true := by rw [hz]; rfl
    clear hz
    go_enter Try.func28, Try.ntmps28
    go_wp2
    go_ret
    exact ⟨.inr rfl, Below.refl _ _⟩
  · have hzb : ((s.size : Int) == 0) = false := by rw [beq_eq_false_iff_ne]; omega
    have HNE : Hid (s.data.toList ≠ []) := by
      intro e
      apply hz
      rw [Lib.size_eq, e]; rfl
    clear hz
    by_cases hbig : (128 : Int) < s.size
    · go_enter Try.func28, Try.ntmps28
      go_wp2
      go_ret
      exact ⟨.inr rfl, Below.refl _ _⟩
    · go_enter Try.func28, Try.ntmps28
      go_wp2
      go_loopg [3, 17] s.size (fun n t i wr => ∃ (k : Nat) (b : Bool), n + k = s.size ∧ i = .int .i64 k ∧ t = .bool b ∧ wr = W1 ∧ Hid (Pl.All evC (s.data.toList.take k)))
      case atStart => exact ⟨0, true, rfl, rfl, rfl, rfl, Pl.all_nil _⟩
      case round =>
        obtain ⟨k, b, hk, rfl, rfl, hwr, HA⟩ := hrel
        subst hwr
        by_cases hlt : k < s.size
        · obtain ⟨v, hv⟩ : ∃ v : Int, v = (s[k].toNat : Int) := ⟨_, rfl⟩
          have hcl := HCELL.out k hlt
          rw [← hv] at hcl
          have hv0 : 0 ≤ v := by omega
          have hv1 : v ≤ 255 := by have := s[k].toNat_lt; omega
          have HV := (show Hid _ from hv)
          clear hv
          go_wp2
          all_goals first
            | (go_ret
               exact ⟨.inr rfl, hbel⟩)
            | (have hev : evC v := by
                 unfold evC Pl.alnum
                 try simp only [beq_iff_eq] at *
                 omega
               have hall := Pl.all_snoc hlt HA.out HV.out hev
               clear hev
               go_roundg (gk - 1)
               case rel => exact ⟨k + 1, _, by omega, by go_num, rfl, rfl, hall⟩
               case measure => omega)
        · have hall := Pl.all_end hlt HA.out
          cases b
          · go_wp2
            go_ret
            exact ⟨.inl ⟨rfl, HNE.out, hall⟩, hbel⟩
          · go_wp2
            go_ret
            exact ⟨.inr rfl, hbel⟩

set_option maxHeartbeats 1000000 in
theorem zzValue_any (s : ByteArray) (w : World) (hs : s.size ≤ 1099511627776) (ha : Pl.All plainC s.data.toList) :
    Calls Try.prog 17 #[.string s] w fun e w' => e = .returned (.bool true) ∧ Below w.heap.size w w' := by
  have C := (show Hid _ from fun w => value_any s w hs ha)
  clear ha
  go_enter Try.func17, Try.ntmps17
  go_wp2_with fail
  refine (C.out _).mono ?_
  rintro e w1 ⟨rfl, hb⟩
  go_wp2_with fail
  go_ret
  exact ⟨rfl, hb⟩

set_option maxHeartbeats 1000000 in
theorem zzEvent_any (s : ByteArray) (w : World) (hs : s.size ≤ 1099511627776) :
    Calls Try.prog 13 #[.string s] w fun e w' => ((e = .returned (.bool true) ∧ s.data.toList ≠ [] ∧ Pl.All evC s.data.toList) ∨ e = .returned (.bool false)) ∧ Below w.heap.size w w' := by
  obtain ⟨N, hN⟩ : ∃ N, N = (s.data.toList ≠ [] ∧ Pl.All evC s.data.toList) := ⟨_, rfl⟩
  have c := fun w => event_any s w hs
  rw [← hN] at c ⊢
  have C := (show Hid _ from c)
  clear c hN
  go_enter Try.func13, Try.ntmps13
  go_wp2_with fail
  refine (C.out _).mono ?_
  rintro e w1 ⟨⟨rfl, hn⟩ | rfl, hb⟩
  · have HN := (show Hid _ from hn)
    clear hn
    go_wp2_with fail
    go_ret
    exact ⟨.inl ⟨rfl, HN.out⟩, hb⟩
  · go_wp2_with fail
    go_ret
    exact ⟨.inr rfl, hb⟩

set_option maxHeartbeats 1000000 in
theorem zzName_yes (s : ByteArray) (w : World) (hs : s.size ≤ 1099511627776) :
    Calls Try.prog 23 #[.string s] w fun e w' => ((e = .returned (.bool true) ∧ Pl.Name s.data.toList) ∨ (e = .returned (.bool false) ∧ ¬ Pl.Name s.data.toList)) ∧ Below w.heap.size w w' := by
  obtain ⟨N, hN⟩ : ∃ N, N = Pl.Name s.data.toList := ⟨_, rfl⟩
  have c := fun w => name_any s w hs
  rw [← hN] at c ⊢
  have C := (show Hid _ from c)
  clear c hN
  go_enter Try.func23, Try.ntmps23
  go_wp2_with fail
  refine (C.out _).mono ?_
  rintro e w1 ⟨⟨rfl, hn⟩ | ⟨rfl, hn⟩, hb⟩
  · have HN := (show Hid _ from hn)
    clear hn
    go_wp2_with fail
    go_ret
    exact ⟨.inl ⟨rfl, HN.out⟩, hb⟩
  · have HN := (show Hid _ from hn)
    clear hn
    go_wp2_with fail
    go_ret
    exact ⟨.inr ⟨rfl, HN.out⟩, hb⟩

set_option maxHeartbeats 1000000 in
theorem bytes27_any (a : ByteArray) (w : World) (ha : a.size ≤ maxLen) :
    Calls Try.prog 27 #[.string a] w fun e w' => (e = .returned (.bool true) ∨ e = .returned (.bool false)) ∧ w' = w := by
  unfold maxLen at ha
  go_enter Try.func27, Try.ntmps27
  go_wp2
  all_goals (go_ret; first | exact ⟨.inl rfl, rfl⟩ | exact ⟨.inr rfl, rfl⟩)

set_option maxHeartbeats 1000000 in
theorem bytes22_any (a : ByteArray) (w : World) (ha : a.size ≤ maxLen) :
    Calls Try.prog 22 #[.string a] w fun e w' => (e = .returned (.bool true) ∨ e = .returned (.bool false)) ∧ w' = w := by
  unfold maxLen at ha
  go_enter Try.func22, Try.ntmps22
  go_wp2
  all_goals (go_ret; first | exact ⟨.inl rfl, rfl⟩ | exact ⟨.inr rfl, rfl⟩)

end Go.Proofs.Qxb6000545a
