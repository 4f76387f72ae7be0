import Derived.Test.Qxb6000390aRows
import Derived.WalkKit
import Derived.Lib.Strings
import Derived.Lib.Bytealg
import Derived.Lib.PathFns
import Derived.Below
namespace Go.Proofs.Qxb6000390a
open Go.RowKit Go.Lib

set_option maxHeartbeats 1000000 in
set_option maxRecDepth 100000 in
theorem lite_indexByte (s : ByteArray) (c : Int) (w : World) :
    Calls Try.prog 30 #[.string s, .int .u8 c] w fun e w' => e = .returned (.int .i64 (Lib.indexByte s.data.toList c.toNat.toUInt8)) ∧ w' = w := by
  go_enter Try.func30, Try.ntmps30
  go_wp2
  rw [run_callFunc_extern Try.func31 (by kernel_rfl) (by kernel_rfl) (by kernel_rfl) (e := Extern.BytealgIndexByte.indexByte) (by kernel_rfl), Lib.run_indexByteString]
  simp only [Result.andThen]
  rw [Oper.upon_value]
  go_wp2
  go_ret
  exact ⟨rfl, rfl⟩

set_option maxHeartbeats 1000000 in
theorem str_indexByte (s : ByteArray) (c : Int) (w : World) :
    Calls Try.prog 28 #[.string s, .int .u8 c] w fun e w' => e = .returned (.int .i64 (Lib.indexByte s.data.toList c.toNat.toUInt8)) ∧ w' = w := by
  go_enter Try.func28, Try.ntmps28
  go_wp2_with (go_at_call 30; refine (lite_indexByte _ _ _).mono ?_; rintro e w' ⟨rfl, rfl⟩)
  go_ret
  exact ⟨rfl, rfl⟩

set_option maxHeartbeats 1000000 in
set_option maxRecDepth 100000 in
theorem alg_lastIndexByte (s : ByteArray) (c : UInt8) (w : World) (hs : s.size ≤ 9223372036854775807) :
    Calls Try.prog 29 #[.string s, .int .u8 c.toNat] w fun e w' => e = .returned (.int .i64 (Pa.lastIndexByte s.data.toList c)) ∧ w' = w := by
  go_enter Try.func29, Try.ntmps29
  go_wp2
  go_loop [5] (fun vi => ∃ k : Nat, k ≤ s.size ∧ vi = .int .i64 ((k : Int) - 1) ∧ Hid (Pa.lastIdx s.data.toList c k = Pa.lastIndexByte s.data.toList c)) (fun vi => (RowKit.intOf vi + 1).toNat)
  case atStart => exact ⟨s.size, Nat.le_refl _, rfl, by show _ = _; rw [Pa.lastIndexByte, Lib.size_eq]⟩
  case round =>
    obtain ⟨k, hk, rfl, hh⟩ := hrel
    go_wp2
    · have h1 : (1 : Int) ≤ k := by assumption
      have ht : (((s[k - 1]'(by omega)).toNat : Int) == (c.toNat : Int)) = true := by assumption
      go_ret
      exact ⟨by rw [← hh.out, Pa.lastIdx_hit _ c k _ (by omega) (Pa.at_eq s (k - 1) (by omega)) ht]; rfl, rfl⟩
    · have h1 : (1 : Int) ≤ k := by assumption
      have ht : (((s[k - 1]'(by omega)).toNat : Int) == (c.toNat : Int)) = false := by assumption
      go_round
      case rel => exact ⟨k - 1, by omega, by first | go_num | (congr 1; omega), (Pa.lastIdx_miss _ c k _ (by omega) (Pa.at_eq s (k - 1) (by omega)) ht).symm.trans hh.out⟩
      case measure => simp [RowKit.intOf]; omega
    · have h0 : k = 0 := by omega
      subst h0
      go_ret
      exact ⟨by rw [← hh.out]; rfl, rfl⟩

set_option maxHeartbeats 1000000 in
theorem str_lastSlash (s : ByteArray) (w : World) (hs : s.size ≤ 9223372036854775807) :
    Calls Try.prog 27 #[.string s, .int .u8 47] w fun e w' => e = .returned (.int .i64 (Pa.lastIndexByte s.data.toList 47)) ∧ w' = w := by
  go_enter Try.func27, Try.ntmps27
  go_wp2_with (go_at_call 29; refine (alg_lastIndexByte _ 47 _ hs).mono ?_; rintro e w' ⟨rfl, rfl⟩)
  go_ret
  exact ⟨rfl, rfl⟩

end Go.Proofs.Qxb6000390a
