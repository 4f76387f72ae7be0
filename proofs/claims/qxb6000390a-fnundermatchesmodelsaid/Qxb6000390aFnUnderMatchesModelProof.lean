/-
  THE SHELL OF A PROOF OF 'Rows.FnUnderMatchesModelSaid' ('example.com/writ-of-access/writ-of-access/zzlaws_internal_policy_b1.FnUnderMatchesModel'), WRITTEN BY PROGRAM (proof-skeleton.mjs) off the guide's own print for that function. Not trusted: Lean checks it.
  The shell was laid by program; the walk is ours; the world behind the call is told by Below.
-/
import Derived.Test.Qxb6000390aPre
import Derived.WalkKit
import Derived.ProofKit
import Derived.OpenShut
import Derived.ShutString
namespace Go.Proofs.Qxb6000390a.fnUnderMatchesModel
open Go.ChangeShapes Go.WideShapes Go.ChangeAt Go.RowKit
open Go.ChangeMaps (open_string shut_string)
set_option linter.unusedVariables false      -- a walk need not use every 'w<i>' (that an integer argument fits its kind)

theorem own : ownKnob Try.prog.godebug = none := by kernel_rfl

set_option maxHeartbeats 2000000 in
/-- The walk: the Go text returns true, and writes nothing that was there. -/
theorem walk (a0 : ByteArray) (a1 : ByteArray) (w0 : a0.size ≤ maxLen) (w1 : a1.size ≤ maxLen) (w : World) :
    Calls Try.prog 6 #[.string a0, .string a1] w fun e w' => e = .returned (.bool true) ∧ Below w.heap.size w w' := by
  have W0 : Hid (a0.size ≤ maxLen) := w0
  have W1 : Hid (a1.size ≤ maxLen) := w1
  unfold maxLen at w0 w1
  go_enter Try.func6, Try.ntmps6
  go_wp2_with fail
  refine (bytes16_any a0 a1 _ W0.out W1.out).mono ?_
  rintro e w' ⟨he | he, rfl⟩ <;> subst he
  · by_cases h0 : (65536 : Int) < a0.size
    · go_wp2_with fail
      go_ret; exact ⟨rfl, Below.refl _ _⟩
    by_cases h1 : (65536 : Int) < a1.size
    · go_wp2_with fail
      go_ret; exact ⟨rfl, Below.refl _ _⟩
    go_wp2_with fail
    refine (norm_any a1 _ (by omega)).mono ?_
    rintro e x1 ⟨v1, rfl, o1, b1⟩
    have O1 := (show Hid _ from o1)
    clear o1
    go_wp2_with fail
    refine (cutNul_any a0 _ (by omega)).mono ?_
    rintro e x2 ⟨rfl, rfl⟩
    obtain ⟨c, hc⟩ : ∃ c : ByteArray, c = ⟨(cutN a0.data.toList).toArray⟩ := ⟨_, rfl⟩
    rw [← hc]
    have hcs : c.size ≤ a0.size := by
      rw [Lib.size_eq, Lib.size_eq, hc]; exact cutN_len _
    have hcl : c.data.toList = cutN a0.data.toList := by rw [hc]
    have HC := (show Hid _ from hcl)
    clear hc hcl
    go_wp2_with fail
    refine (norm_any c _ (by omega)).mono ?_
    rintro e x3 ⟨v2, rfl, o2, b2⟩
    have O1' := (show Hid _ from own_below O1.out b2)
    have O2 := (show Hid _ from o2)
    have hM : (Pl.norm c.data.toList).length ≤ 1099511627776 := by
      have := Pl.norm_length c.data.toList; rw [← Lib.size_eq] at this; omega
    clear o2 O1
    go_wp2_with fail
    refine (isPre_any _ _ _ v1 v2 _ _ O1'.out O2.out hM).mono ?_
    rintro e x4 ⟨rfl, b3⟩
    obtain ⟨R, hR⟩ : ∃ R, R = underB a0.data.toList a1.data.toList := ⟨_, rfl⟩
    have hR2 : (Pl.norm a1.data.toList).isPrefixOf (Pl.norm c.data.toList) = R := by rw [hR, underB, HC.out]
    rw [hR2]
    have b12 := b1.trans (b2.mono b1.size)
    have b13 := b12.trans (b3.mono b12.size)
    have HR := (show Hid _ from hR)
    clear hR hR2 O1' O2 HC b1 b2 b12 b3 hM
    go_wp2_with fail
    refine (zzUnder_any a0 a1 _ (by omega) (by omega)).mono ?_
    rintro e x5 ⟨rfl, b4⟩
    rw [← HR.out]
    go_wp2_with fail
    go_ret
    exact ⟨rfl, b13.trans (b4.mono b13.size)⟩
  · go_wp2_with fail
    go_ret; exact ⟨rfl, Below.refl _ _⟩

/-! ### THE ROW's STEP: WRITTEN OUT: LEAVE IT -/
set_option maxRecDepth 100000 in
theorem lifted (os : Os) (started : os.Started) (H : Type) (enc : TypeId × Value → H) :
    ReturnsInHanded {} Try.checked os 6 .any (Rows.fnUnderMatchesModelSpec.pre6 enc Try.prog Try.f6 Rows.fnUnderMatchesModelRow.domain false) (Rows.fnUnderMatchesModelSpec.post enc Try.prog Try.f6 false true false false) := by
  refine returnsInHanded_of_change (C := Try.checked) own started (by kernel_rfl) Try.func6
    (ChangeSpec.witness6 (enc := enc) (C := Try.checked) false ⟨#[], #[.string ByteArray.empty, .string ByteArray.empty], []⟩ 8 (by kernel_rfl) (by kernel_rfl) (by kernel_rfl) (by kernel_rfl)) ?_
  intro W base args ds gs before hval0 hW hcnd _
  have hval : ∀ (j : Nat) t v, Try.f6.params[j]? = some t → args[j]? = some v → Value.okWide Try.prog W .any base t v := hval0
  have hW' := hW
  obtain ⟨p, q, hA0, hV, rfl, hfz, hnd⟩ := hW
  have hA : DataW.TrodAll enc Try.prog W 0 (fun _ => true) true Try.f6.params.toList args.toList ds p := hA0
  rw [Try.params6] at hA hval
  obtain ⟨v0, vs0, d0, ds0, p0, q0, hargs, rfl, rfl, h0, r0⟩ := trodAll_cons hA
  obtain ⟨v1, vs1, d1, ds1, p1, q1, rfl, rfl, rfl, h1, r1⟩ := trodAll_cons r0
  obtain ⟨rfl, rfl, rfl⟩ := trodAll_nil r1
  obtain rfl : args = #[v0, v1] := by cases args; simp_all
  obtain ⟨rfl, rfl⟩ := trodVars_none hV
  obtain ⟨a0, rfl, rfl, rfl, w0⟩ := open_string Try.underlying9 (hval 0 9 v0 rfl rfl) h0
  obtain ⟨a1, rfl, rfl, rfl, w1⟩ := open_string Try.underlying9 (hval 1 9 v1 rfl rfl) h1
  clear hA0 hval0
  simp only [List.append_nil] at hW'
  refine (walk a0 a1 w0 w1 W).mono fun e W' ⟨he, bel⟩ => ?_
  subst he
  exact ⟨_, rfl, _, _, _, [], [], [], hW', trodAll_mk1 (shut_bool Try.underlying4 _), (trodAll_cons_mk (shut_string Try.underlying9 w0) (trodAll_cons_mk (shut_string Try.underlying9 w1) trodAll_mk0)), rfl, bel.frame _, fun h => by cases h⟩

theorem over : Rows.fnUnderMatchesModelRow.holds Try.pinned (OpenSpec.ofChange Rows.fnUnderMatchesModelSpec) :=
  OpenClaim.holds_of_wide 6 Try.f6 rfl rfl rfl rfl rfl rfl rfl ⟨rfl, rfl, rfl, rfl, rfl⟩ rfl rfl rfl rfl rfl (by kernel_rfl) Try.func6 (by kernel_rfl)
    (of_decide_eq_true (by kernel_rfl)) (by unfold Func.isWrapper; first | (rw [if_pos (by decide +kernel)]; kernel_rfl) | (rw [if_neg (by decide +kernel)]; exact ⟨rfl, rfl⟩))
    (fun os started H enc _ => lifted os started H enc)

/-- ████ THE STATEMENT ████ -/
theorem proved : Rows.FnUnderMatchesModelSaid :=
  over
#print axioms proved
end Go.Proofs.Qxb6000390a.fnUnderMatchesModel
