import Derived.Test.Qxb6000545aRows
import Derived.Test.Qxb6000545aPlain
import Derived.WalkKit
import Derived.Below
import Derived.Laws.IdiomStrings
import Derived.Deep.LoopGhost
namespace Go.Proofs.Qxb6000545a
open Go.RowKit Go.Lib

set_option maxHeartbeats 1000000 in
set_option maxRecDepth 100000 in
theorem lite_indexByte (s : ByteArray) (c : Int) (w : World) :
    Calls Try.prog 35 #[.string s, .int .u8 c] w fun e w' => e = .returned (.int .i64 (Lib.indexByte s.data.toList c.toNat.toUInt8)) ∧ w' = w := by
  go_enter Try.func35, Try.ntmps35
  go_wp2
  rw [run_callFunc_extern Try.func36 (by kernel_rfl) (by kernel_rfl) (by kernel_rfl) (e := Extern.BytealgIndexByte.indexByte) (by kernel_rfl), Lib.run_indexByteString]
  simp only [Result.andThen]
  rw [Oper.upon_value]
  go_wp2
  go_ret
  exact ⟨rfl, rfl⟩

set_option maxHeartbeats 1000000 in
theorem str_indexByte (s : ByteArray) (c : Int) (w : World) :
    Calls Try.prog 34 #[.string s, .int .u8 c] w fun e w' => e = .returned (.int .i64 (Lib.indexByte s.data.toList c.toNat.toUInt8)) ∧ w' = w := by
  go_enter Try.func34, Try.ntmps34
  go_wp2_with (go_at_call 35; refine (lite_indexByte _ _ _).mono ?_; rintro e w' ⟨rfl, rfl⟩)
  go_ret
  exact ⟨rfl, rfl⟩

/-- The special signs, by IndexByte. -/
theorem idx_any (v : Int) (h0 : 0 ≤ v) (h1 : v ≤ 255) (w : World) :
    Calls Try.prog 34 #[.string { data := #[33, 35, 36, 37, 38, 39, 42, 43, 45, 46, 94, 95, 96, 124, 126] }, .int .u8 v] w fun e w' => (∃ i : Int, e = .returned (.int .i64 i) ∧ (0 ≤ i ↔ Pl.special v)) ∧ w' = w := by
  refine (str_indexByte _ v w).mono ?_
  rintro e w' ⟨rfl, rfl⟩
  refine ⟨⟨_, rfl, ?_⟩, rfl⟩
  have hv : ((v.toNat.toUInt8).toNat : Int) = v := by
    rw [Nat.toUInt8_eq, UInt8.toNat_ofNat']
    omega
  have h := Pl.special_mem v.toNat.toUInt8
  rw [hv] at h
  rw [Pl.indexByte_mem]
  exact h

/-- '[]byte(s)': a row of the call's own that holds the bytes. -/
theorem bytes_of (s : ByteArray) (w : World) : ∃ cap W1, (convert 9 26 (.string s)).run Try.prog w = .ok (.slice (some ⟨w.heap.size, 0, none⟩) s.size cap) W1 ∧
    (∀ k (h : k < s.size), W1.cell? ⟨w.heap.size, k, none⟩ = some (.int .u8 (s[k].toNat : Int))) ∧ Below w.heap.size w W1 := by
  refine ⟨_, _, run_bytes_of_string w 9 26 5 s Try.underlying9 Try.underlying26 Try.underlying5, ?_, ?_⟩
  · intro k h
    have := World.cell?_alloc_mark w.drew (bytesRow s (grownCap w s.size 0 5)) 5 ((bytesRow s (grownCap w s.size 0 5)).size, (bytesRow s (grownCap w s.size 0 5)).size + 1) k
    refine this.trans ?_
    exact bytesRow_at s _ k h
  · exact ((Below.refl _ _).drew).alloc (Nat.le_refl _) _

theorem empty_of (s : ByteArray) (h : s.toList.isEmpty = true) : s.data.toList = [] := by
  rw [Lib.toList_data] at h
  exact List.isEmpty_iff.1 h

theorem nonempty_of (s : ByteArray) (h : s.toList.isEmpty = false) : s.data.toList ≠ [] := by
  rw [Lib.toList_data] at h
  intro e
  rw [e] at h
  cases h

set_option maxHeartbeats 4000000 in
set_option maxRecDepth 100000 in
theorem name_any (s : ByteArray) (w : World) (hs : s.size ≤ 1099511627776) :
    Calls Try.prog 32 #[.string s] w fun e w' => ((e = .returned (.bool true) ∧ Pl.Name s.data.toList) ∨ (e = .returned (.bool false) ∧ ¬ Pl.Name s.data.toList)) ∧ Below w.heap.size w w' := by
  obtain ⟨cap, W1, hcv, hcell, hbel⟩ := bytes_of s w
  have HCELL := (show Hid _ from hcell)
  clear hcell
  obtain ⟨N, hN⟩ : ∃ N, N = Pl.Name s.data.toList := ⟨_, rfl⟩
  rw [← hN]
  have HN := (show Hid _ from hN)
  clear hN
  cases hemp : s.toList.isEmpty
  case true =>
    have hn : ¬ N := by rw [HN.out, empty_of s hemp]; intro h; exact h.1 rfl
    have HNN := (show Hid _ from hn)
    clear hn
    go_enter Try.func32, Try.ntmps32
    go_wp2
    go_ret
    exact ⟨.inr ⟨rfl, HNN.out⟩, Below.refl _ _⟩
  case false =>
    have HNE := (show Hid _ from nonempty_of s hemp)
    go_enter Try.func32, Try.ntmps32
    go_wp2
    clear hemp
    go_loopg [11] s.size (fun n i wr => ∃ k : Nat, n + k = s.size ∧ i = .int .i64 k ∧ wr = W1 ∧ Hid (Pl.All Pl.tchar (s.data.toList.take k)))
    case atStart => exact ⟨0, rfl, rfl, rfl, Pl.all_nil _⟩
    case round =>
      obtain ⟨k, hk, rfl, hwr, HA⟩ := hrel
      subst hwr
      by_cases hlt : k < s.size
      · obtain ⟨v, hv⟩ : ∃ v : Int, v = (s[k].toNat : Int) := ⟨_, rfl⟩
        have hcl := HCELL.out k hlt
        rw [← hv] at hcl
        have hv0 : 0 ≤ v := by omega
        have hv1 : v ≤ 255 := by have := s[k].toNat_lt; omega
        have HV := (show Hid _ from hv)
        clear hv
        by_cases hal : Pl.alnum v
        · have hall := Pl.all_snoc hlt HA.out HV.out (Or.inl hal)
          rcases hal with ⟨h1, h2⟩ | ⟨h1, h2⟩ | ⟨h1, h2⟩
          all_goals
            go_wp2
            go_roundg (gk - 1)
            case rel => exact ⟨k + 1, by omega, by go_num, rfl, hall⟩
            case measure => omega
        · have HAL := (show Hid _ from hal)
          rcases Pl.not_alnum hal with h1 | ⟨h1, h2⟩ | ⟨h1, h2⟩ | h1
          all_goals
            clear hal
            try have d1 : decide (v ≤ 57) = false := by rw [decide_eq_false_iff_not]; omega
            try have d2 : decide (v ≤ 90) = false := by rw [decide_eq_false_iff_not]; omega
            try have d3 : decide (v ≤ 122) = false := by rw [decide_eq_false_iff_not]; omega
            go_wp2_with fail
            refine (idx_any v hv0 hv1 _).mono ?_
            rintro e w' ⟨⟨i, rfl, hi⟩, rfl⟩
            by_cases hi0 : 0 ≤ i
            · have hall := Pl.all_snoc hlt HA.out HV.out (Or.inr (hi.1 hi0))
              clear hi
              go_wp2
              go_roundg (gk - 1)
              case rel => exact ⟨k + 1, by omega, by go_num, rfl, hall⟩
              case measure => omega
            · have hn : ¬ N := by
                rw [HN.out]
                intro h
                exact Pl.not_all (P := Pl.tchar) hlt HV.out (by intro ht; rcases ht with ht | ht; · exact HAL.out ht
                                                                · exact hi0 (hi.2 ht)) h.2
              have HNN := (show Hid _ from hn)
              clear hi hn
              go_wp2
              go_ret
              exact ⟨.inr ⟨rfl, HNN.out⟩, hbel⟩
      · have hn : N := by rw [HN.out]; exact ⟨HNE.out, Pl.all_end hlt HA.out⟩
        have HNN := (show Hid _ from hn)
        clear hn
        go_wp2
        go_ret
        exact ⟨.inl ⟨rfl, HNN.out⟩, hbel⟩

end Go.Proofs.Qxb6000545a
