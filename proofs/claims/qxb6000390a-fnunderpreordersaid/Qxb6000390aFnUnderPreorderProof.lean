/-
  THE SHELL OF A PROOF OF 'Rows.FnUnderPreorderSaid' ('example.com/writ-of-access/writ-of-access/zzlaws_internal_policy_b1.FnUnderPreorder'), WRITTEN BY PROGRAM (proof-skeleton.mjs) off the guide's own print for that function. Not trusted: Lean checks it.
  The shell was laid by program; the walk is ours; the world behind the call is told by Below.
-/
import Derived.Test.Qxb6000390aSmall
import Derived.WalkKit
import Derived.ProofKit
import Derived.OpenShut
import Derived.ShutString
namespace Go.Proofs.Qxb6000390a.fnUnderPreorder
open Go.ChangeShapes Go.WideShapes Go.ChangeAt Go.RowKit
open Go.ChangeMaps (open_string shut_string)
set_option linter.unusedVariables false      -- a walk need not use every 'w<i>' (that an integer argument fits its kind)

theorem own : ownKnob Try.prog.godebug = none := by kernel_rfl

set_option maxHeartbeats 2000000 in
/-- The walk: the Go text returns true, and writes nothing that was there. -/
theorem walk (a0 : ByteArray) (a1 : ByteArray) (a2 : ByteArray) (w0 : a0.size ≤ maxLen) (w1 : a1.size ≤ maxLen) (w2 : a2.size ≤ maxLen) (w : World) :
    Calls Try.prog 7 #[.string a0, .string a1, .string a2] w fun e w' => e = .returned (.bool true) ∧ Below w.heap.size w w' := by
  have W0 : Hid (a0.size ≤ maxLen) := w0
  have W1 : Hid (a1.size ≤ maxLen) := w1
  have W2 : Hid (a2.size ≤ maxLen) := w2
  unfold maxLen at w0 w1 w2
  go_enter Try.func7, Try.ntmps7
  go_wp2_with fail
  refine (bytes20_any a0 a1 a2 _ W0.out W1.out W2.out).mono ?_
  rintro e w' ⟨he | he, rfl⟩ <;> subst he
  · by_cases h0 : (65536 : Int) < a0.size
    · go_wp2_with fail
      go_ret; exact ⟨rfl, Below.refl _ _⟩
    by_cases h1 : (65536 : Int) < a1.size
    · go_wp2_with fail
      go_ret; exact ⟨rfl, Below.refl _ _⟩
    by_cases h2 : (65536 : Int) < a2.size
    · go_wp2_with fail
      go_ret; exact ⟨rfl, Below.refl _ _⟩
    go_wp2_with fail
    refine (hasNul_any a0 _ (by omega)).mono ?_
    rintro e w' ⟨he | ⟨he, hn0⟩, rfl⟩ <;> subst he
    · go_wp2_with fail
      go_ret; exact ⟨rfl, Below.refl _ _⟩
    go_wp2_with fail
    refine (hasNul_any a1 _ (by omega)).mono ?_
    rintro e w' ⟨he | ⟨he, hn1⟩, rfl⟩ <;> subst he
    · go_wp2_with fail
      go_ret; exact ⟨rfl, Below.refl _ _⟩
    have hr := underB_refl a0.data.toList hn0
    have ht := underB_trans a0.data.toList a1.data.toList a2.data.toList hn1
    clear hn0 hn1
    go_wp2_with fail
    refine (zzUnder_any a0 a0 _ (by omega) (by omega)).mono ?_
    rintro e w1 ⟨rfl, b1⟩
    rw [hr]
    clear hr
    go_wp2_with fail
    refine (zzUnder_any a0 a1 _ (by omega) (by omega)).mono ?_
    rintro e w2 ⟨rfl, b2⟩
    have b12 := b1.trans (b2.mono b1.size)
    cases h01 : underB a0.data.toList a1.data.toList
    · clear ht h01
      go_wp2_with fail
      go_ret; exact ⟨rfl, b12⟩
    · have ht := (show Hid _ from ht h01)
      clear h01
      go_wp2_with fail
      refine (zzUnder_any a1 a2 _ (by omega) (by omega)).mono ?_
      rintro e w3 ⟨rfl, b3⟩
      have b13 := b12.trans (b3.mono b12.size)
      cases h12 : underB a1.data.toList a2.data.toList
      · clear ht h12
        go_wp2_with fail
        go_ret; exact ⟨rfl, b13⟩
      · have hu := ht.out h12
        clear ht h12
        go_wp2_with fail
        refine (zzUnder_any a0 a2 _ (by omega) (by omega)).mono ?_
        rintro e w4 ⟨rfl, b4⟩
        rw [hu]
        go_wp2_with fail
        go_ret; exact ⟨rfl, b13.trans (b4.mono b13.size)⟩
  · go_wp2_with fail
    go_ret; exact ⟨rfl, Below.refl _ _⟩

/-! ### THE ROW's STEP: WRITTEN OUT: LEAVE IT -/
set_option maxRecDepth 100000 in
theorem lifted (os : Os) (started : os.Started) (H : Type) (enc : TypeId × Value → H) :
    ReturnsInHanded {} Try.checked os 7 .any (Rows.fnUnderPreorderSpec.pre6 enc Try.prog Try.f7 Rows.fnUnderPreorderRow.domain false) (Rows.fnUnderPreorderSpec.post enc Try.prog Try.f7 false true false false) := by
  refine returnsInHanded_of_change (C := Try.checked) own started (by kernel_rfl) Try.func7
    (ChangeSpec.witness6 (enc := enc) (C := Try.checked) false ⟨#[], #[.string ByteArray.empty, .string ByteArray.empty, .string ByteArray.empty], []⟩ 8 (by kernel_rfl) (by kernel_rfl) (by kernel_rfl) (by kernel_rfl)) ?_
  intro W base args ds gs before hval0 hW hcnd _
  have hval : ∀ (j : Nat) t v, Try.f7.params[j]? = some t → args[j]? = some v → Value.okWide Try.prog W .any base t v := hval0
  have hW' := hW
  obtain ⟨p, q, hA0, hV, rfl, hfz, hnd⟩ := hW
  have hA : DataW.TrodAll enc Try.prog W 0 (fun _ => true) true Try.f7.params.toList args.toList ds p := hA0
  rw [Try.params7] at hA hval
  obtain ⟨v0, vs0, d0, ds0, p0, q0, hargs, rfl, rfl, h0, r0⟩ := trodAll_cons hA
  obtain ⟨v1, vs1, d1, ds1, p1, q1, rfl, rfl, rfl, h1, r1⟩ := trodAll_cons r0
  obtain ⟨v2, vs2, d2, ds2, p2, q2, rfl, rfl, rfl, h2, r2⟩ := trodAll_cons r1
  obtain ⟨rfl, rfl, rfl⟩ := trodAll_nil r2
  obtain rfl : args = #[v0, v1, v2] := by cases args; simp_all
  obtain ⟨rfl, rfl⟩ := trodVars_none hV
  obtain ⟨a0, rfl, rfl, rfl, w0⟩ := open_string Try.underlying9 (hval 0 9 v0 rfl rfl) h0
  obtain ⟨a1, rfl, rfl, rfl, w1⟩ := open_string Try.underlying9 (hval 1 9 v1 rfl rfl) h1
  obtain ⟨a2, rfl, rfl, rfl, w2⟩ := open_string Try.underlying9 (hval 2 9 v2 rfl rfl) h2
  clear hA0 hval0
  simp only [List.append_nil] at hW'
  refine (walk a0 a1 a2 w0 w1 w2 W).mono fun e W' ⟨he, bel⟩ => ?_
  subst he
  exact ⟨_, rfl, _, _, _, [], [], [], hW', trodAll_mk1 (shut_bool Try.underlying4 _), (trodAll_cons_mk (shut_string Try.underlying9 w0) (trodAll_cons_mk (shut_string Try.underlying9 w1) (trodAll_cons_mk (shut_string Try.underlying9 w2) trodAll_mk0))), rfl, bel.frame _, fun h => by cases h⟩

theorem over : Rows.fnUnderPreorderRow.holds Try.pinned (OpenSpec.ofChange Rows.fnUnderPreorderSpec) :=
  OpenClaim.holds_of_wide 7 Try.f7 rfl rfl rfl rfl rfl rfl rfl ⟨rfl, rfl, rfl, rfl, rfl⟩ rfl rfl rfl rfl rfl (by kernel_rfl) Try.func7 (by kernel_rfl)
    (of_decide_eq_true (by kernel_rfl)) (by unfold Func.isWrapper; first | (rw [if_pos (by decide +kernel)]; kernel_rfl) | (rw [if_neg (by decide +kernel)]; exact ⟨rfl, rfl⟩))
    (fun os started H enc _ => lifted os started H enc)

/-- ████ THE STATEMENT ████ -/
theorem proved : Rows.FnUnderPreorderSaid :=
  over
#print axioms proved
end Go.Proofs.Qxb6000390a.fnUnderPreorder
