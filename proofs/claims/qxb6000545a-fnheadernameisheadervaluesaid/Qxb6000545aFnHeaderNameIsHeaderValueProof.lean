/-
  THE SHELL OF A PROOF OF 'Rows.FnHeaderNameIsHeaderValueSaid' ('example.com/nuncio/nuncio/zzlaws_internal_api_b1.FnHeaderNameIsHeaderValue'), WRITTEN BY PROGRAM (proof-skeleton.mjs) off the guide's own print for that function. Not trusted: Lean checks it.
  The shell was laid by program; the walk is ours; the world behind the call is told by Below.
-/
import Derived.Test.Qxb6000545aValue
import Derived.WalkKit
import Derived.ProofKit
import Derived.OpenShut
import Derived.ShutString
namespace Go.Proofs.Qxb6000545a.fnHeaderNameIsHeaderValue
open Go.ChangeShapes Go.WideShapes Go.ChangeAt Go.RowKit
open Go.ChangeMaps (open_string shut_string)
set_option linter.unusedVariables false      -- a walk need not use every 'w<i>' (that an integer argument fits its kind)

theorem own : ownKnob Try.prog.godebug = none := by kernel_rfl

set_option maxHeartbeats 2000000 in
/-- The walk: the Go text returns true, and writes nothing that was there. -/
theorem walk (a0 : ByteArray) (w0 : a0.size ≤ maxLen) (w : World) :
    Calls Try.prog 11 #[.string a0] w fun e w' => e = .returned (.bool true) ∧ Below w.heap.size w w' := by
  have W0 : Hid (a0.size ≤ maxLen) := w0
  unfold maxLen at w0
  go_enter Try.func11, Try.ntmps11
  go_wp2_with fail
  refine (bytes27_any a0 _ W0.out).mono ?_
  rintro e w' ⟨he | he, rfl⟩ <;> subst he
  · by_cases h0 : (65536 : Int) < a0.size
    · go_wp2_with fail
      go_ret; exact ⟨rfl, Below.refl _ _⟩
    go_wp2_with fail
    refine (zzName_yes a0 _ (by omega)).mono ?_
    rintro e x1 ⟨⟨rfl, hn⟩ | ⟨rfl, hn⟩, b1⟩
    · have HP := (show Hid _ from all_imp tchar_plain hn.2)
      clear hn
      go_wp2_with fail
      refine (zzValue_any a0 _ (by omega) HP.out).mono ?_
      rintro e x2 ⟨rfl, b2⟩
      go_wp2_with fail
      go_ret; exact ⟨rfl, b1.trans (b2.mono b1.size)⟩
    · clear hn
      go_wp2_with fail
      go_ret; exact ⟨rfl, b1⟩
  · go_wp2_with fail
    go_ret; exact ⟨rfl, Below.refl _ _⟩

/-! ### THE ROW's STEP: WRITTEN OUT: LEAVE IT -/
set_option maxRecDepth 100000 in
theorem lifted (os : Os) (started : os.Started) (H : Type) (enc : TypeId × Value → H) :
    ReturnsInHanded {} Try.checked os 11 .any (Rows.fnHeaderNameIsHeaderValueSpec.pre6 enc Try.prog Try.f11 Rows.fnHeaderNameIsHeaderValueRow.domain false) (Rows.fnHeaderNameIsHeaderValueSpec.post enc Try.prog Try.f11 false true false false) := by
  refine returnsInHanded_of_change (C := Try.checked) own started (by kernel_rfl) Try.func11
    (ChangeSpec.witness6 (enc := enc) (C := Try.checked) false ⟨#[], #[.string ByteArray.empty], []⟩ 8 (by kernel_rfl) (by kernel_rfl) (by kernel_rfl) (by kernel_rfl)) ?_
  intro W base args ds gs before hval0 hW hcnd _
  have hval : ∀ (j : Nat) t v, Try.f11.params[j]? = some t → args[j]? = some v → Value.okWide Try.prog W .any base t v := hval0
  have hW' := hW
  obtain ⟨p, q, hA0, hV, rfl, hfz, hnd⟩ := hW
  have hA : DataW.TrodAll enc Try.prog W 0 (fun _ => true) true Try.f11.params.toList args.toList ds p := hA0
  rw [Try.params11] at hA hval
  obtain ⟨v0, vs0, d0, ds0, p0, q0, hargs, rfl, rfl, h0, r0⟩ := trodAll_cons hA
  obtain ⟨rfl, rfl, rfl⟩ := trodAll_nil r0
  obtain rfl : args = #[v0] := by cases args; simp_all
  obtain ⟨rfl, rfl⟩ := trodVars_none hV
  obtain ⟨a0, rfl, rfl, rfl, w0⟩ := open_string Try.underlying9 (hval 0 9 v0 rfl rfl) h0
  clear hA0 hval0
  simp only [List.append_nil] at hW'
  refine (walk a0 w0 W).mono fun e W' ⟨he, bel⟩ => ?_
  subst he
  exact ⟨_, rfl, _, _, _, [], [], [], hW', trodAll_mk1 (shut_bool Try.underlying4 _), (trodAll_cons_mk (shut_string Try.underlying9 w0) trodAll_mk0), rfl, bel.frame _, fun h => by cases h⟩

theorem over : Rows.fnHeaderNameIsHeaderValueRow.holds Try.pinned (OpenSpec.ofChange Rows.fnHeaderNameIsHeaderValueSpec) :=
  OpenClaim.holds_of_wide 11 Try.f11 rfl rfl rfl rfl rfl rfl rfl ⟨rfl, rfl, rfl, rfl, rfl⟩ rfl rfl rfl rfl rfl (by kernel_rfl) Try.func11 (by kernel_rfl)
    (of_decide_eq_true (by kernel_rfl)) (by unfold Func.isWrapper; first | (rw [if_pos (by decide +kernel)]; kernel_rfl) | (rw [if_neg (by decide +kernel)]; exact ⟨rfl, rfl⟩))
    (fun os started H enc _ => lifted os started H enc)

/-- ████ THE STATEMENT ████ -/
theorem proved : Rows.FnHeaderNameIsHeaderValueSaid :=
  over
#print axioms proved
end Go.Proofs.Qxb6000545a.fnHeaderNameIsHeaderValue
