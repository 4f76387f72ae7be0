/-
  THE SHELL OF A PROOF OF 'Rows.FnUnderJoinCleanRelativeSaid' ('example.com/writ-of-access/writ-of-access/zzlaws_internal_policy_b1.FnUnderJoinCleanRelative'), WRITTEN BY PROGRAM (proof-skeleton.mjs) off the guide's own print for that function. Not trusted: Lean checks it.
  The shell was laid by program; the walk is ours; the world behind the call is told by Below.
-/
import Derived.Test.Qxb6000390aJoin
import Derived.WalkKit
import Derived.ProofKit
import Derived.OpenShut
import Derived.ShutString
namespace Go.Proofs.Qxb6000390a.fnUnderJoinCleanRelative
open Go.ChangeShapes Go.WideShapes Go.ChangeAt Go.RowKit
open Go.ChangeMaps (open_string shut_string)
set_option linter.unusedVariables false      -- a walk need not use every 'w<i>' (that an integer argument fits its kind)

theorem own : ownKnob Try.prog.godebug = none := by kernel_rfl

theorem join_data (p q : ByteArray) : (p ++ { data := #[47] } ++ q).data.toList = p.data.toList ++ 47 :: q.data.toList := by simp
theorem join_size (p q : ByteArray) : (p ++ { data := #[47] } ++ q).size = p.size + 1 + q.size := by rw [Lib.size_eq, join_data, Lib.size_eq, Lib.size_eq]; simp; omega
theorem up_data (p : ByteArray) : (p ++ { data := #[47, 46, 46] }).data.toList = p.data.toList ++ [47, 46, 46] := by simp
theorem up_size (p : ByteArray) : (p ++ { data := #[47, 46, 46] }).size = p.size + 3 := by rw [Lib.size_eq, up_data, Lib.size_eq]; simp

set_option maxHeartbeats 2000000 in
/-- The walk: the Go text returns true, and writes nothing that was there. -/
theorem walk (a0 : ByteArray) (a1 : ByteArray) (w0 : a0.size ≤ maxLen) (w1 : a1.size ≤ maxLen) (w : World) :
    Calls Try.prog 8 #[.string a0, .string a1] w fun e w' => e = .returned (.bool true) ∧ Below w.heap.size w w' := by
  have W0 : Hid (a0.size ≤ maxLen) := w0
  have W1 : Hid (a1.size ≤ maxLen) := w1
  unfold maxLen at w0 w1
  go_enter Try.func8, Try.ntmps8
  go_wp2_with fail
  refine (bytes22_any a0 a1 _ W0.out W1.out).mono ?_
  rintro e w' ⟨he | he, rfl⟩ <;> subst he
  · by_cases h0 : (65536 : Int) < a0.size
    · go_wp2_with fail
      go_ret; exact ⟨rfl, Below.refl _ _⟩
    by_cases h1 : (65536 : Int) < a1.size
    · go_wp2_with fail
      go_ret; exact ⟨rfl, Below.refl _ _⟩
    go_wp2_with fail
    refine (hasNul_any a0 _ (by omega)).mono ?_
    rintro e w' ⟨he | ⟨he, hn0⟩, rfl⟩ <;> subst he
    · go_wp2_with fail
      go_ret; exact ⟨rfl, Below.refl _ _⟩
    go_wp2_with fail
    refine (hasNul_any a1 _ (by omega)).mono ?_
    rintro e w' ⟨he | ⟨he, hn1⟩, rfl⟩ <;> subst he
    · go_wp2_with fail
      go_ret; exact ⟨rfl, Below.refl _ _⟩
    go_wp2_with fail
    refine (hasDD_any a1 _ (by omega)).mono ?_
    rintro e w' ⟨he | ⟨he, hdd⟩, rfl⟩ <;> subst he
    · go_wp2_with fail
      go_ret; exact ⟨rfl, Below.refl _ _⟩
    have HN : Hid (NoNul a0.data.toList ∧ NoNul a1.data.toList ∧ hasDD a1.data.toList [] = false) := ⟨hn0, hn1, hdd⟩
    clear hn0 hn1 hdd
    obtain ⟨np, hnp⟩ : ∃ n : Nat, n = (Pl.norm a0.data.toList).length := ⟨_, rfl⟩
    obtain ⟨nq, hnq⟩ : ∃ n : Nat, n = (Pl.norm a1.data.toList).length := ⟨_, rfl⟩
    have bnp : np ≤ 65537 := by have := Pl.norm_length a0.data.toList; rw [← Lib.size_eq, ← hnp] at this; omega
    have bnq : nq ≤ 65537 := by have := Pl.norm_length a1.data.toList; rw [← Lib.size_eq, ← hnq] at this; omega
    have c0 : ∀ w, Calls Try.prog 10 #[.string a0] w fun e w' => e = .returned (.int .i64 np) ∧ Below w.heap.size w w' := fun w => by rw [hnp]; exact zzCount_any a0 w (by omega)
    have c1 : ∀ w, Calls Try.prog 10 #[.string a1] w fun e w' => e = .returned (.int .i64 nq) ∧ Below w.heap.size w w' := fun w => by rw [hnq]; exact zzCount_any a1 w (by omega)
    have hjs : (a0 ++ { data := #[47] } ++ a1).size ≤ 1099511627776 := by rw [join_size]; omega
    have hus : (a0 ++ { data := #[47, 46, 46] }).size ≤ 1099511627776 := by rw [up_size]; omega
    have c2 : ∀ w, Calls Try.prog 19 #[.string (a0 ++ { data := #[47] } ++ a1), .string a0] w fun e w' => e = .returned (.bool true) ∧ Below w.heap.size w w' := fun w => by
      have := zzUnder_any (a0 ++ { data := #[47] } ++ a1) a0 w hjs (by omega)
      rw [join_data, law1 _ _ HN.out.1 HN.out.2.1 HN.out.2.2] at this
      exact this
    have c3 : ∀ w, Calls Try.prog 10 #[.string (a0 ++ { data := #[47] } ++ a1)] w fun e w' => e = .returned (.int .i64 ((np : Int) + nq)) ∧ Below w.heap.size w w' := fun w => by
      have := zzCount_any (a0 ++ { data := #[47] } ++ a1) w hjs
      rw [join_data, law2 _ _ HN.out.2.2, ← hnp, ← hnq, Int.natCast_add] at this
      exact this
    have c4 : ∀ w, Calls Try.prog 19 #[.string a0, .string (a0 ++ { data := #[47] } ++ a1)] w fun e w' => e = .returned (.bool (nq == 0)) ∧ Below w.heap.size w w' := fun w => by
      have := zzUnder_any a0 (a0 ++ { data := #[47] } ++ a1) w (by omega) hjs
      rw [join_data, law3 _ _ HN.out.1 HN.out.2.2, ← hnq] at this
      exact this
    have c5 : 0 < np → ∀ w, Calls Try.prog 19 #[.string (a0 ++ { data := #[47, 46, 46] }), .string a0] w fun e w' => e = .returned (.bool false) ∧ Below w.heap.size w w' := fun hpos w => by
      have := zzUnder_any (a0 ++ { data := #[47, 46, 46] }) a0 w hus (by omega)
      rw [up_data, law4 _ HN.out.1 (by rw [← hnp]; exact hpos)] at this
      exact this
    have C0 := (show Hid _ from c0)
    have C1 := (show Hid _ from c1)
    have C2 := (show Hid _ from c2)
    have C3 := (show Hid _ from c3)
    have C4 := (show Hid _ from c4)
    have C5 := (show Hid _ from c5)
    clear HN c0 c1 c2 c3 c4 c5 hnp hnq hjs hus
    go_wp2_with fail
    refine (C0.out _).mono ?_
    rintro e x1 ⟨rfl, b1⟩
    go_wp2_with fail
    refine (C1.out _).mono ?_
    rintro e x2 ⟨rfl, b2⟩
    have b2 := b1.trans (b2.mono b1.size)
    clear b1
    go_wp2_with fail
    refine (C2.out _).mono ?_
    rintro e x3 ⟨rfl, b3⟩
    have b3 := b2.trans (b3.mono b2.size)
    clear b2
    go_wp2_with fail
    refine (C3.out _).mono ?_
    rintro e x4 ⟨rfl, b4⟩
    have b4 := b3.trans (b4.mono b3.size)
    clear b3
    go_wp2_with fail
    refine (C4.out _).mono ?_
    rintro e x5 ⟨rfl, b5⟩
    have b5 := b4.trans (b5.mono b4.size)
    clear b4
    have hnb : (nq == 0) = ((nq : Int) == 0) := by
      rw [Bool.eq_iff_iff, beq_iff_eq, beq_iff_eq]; omega
    rw [hnb]
    clear hnb
    by_cases hpos : 0 < np
    · have hp2 : (0 : Int) < np := by omega
      cases hz : ((nq : Int) == 0)
      all_goals
        go_wp2_with fail
        refine (C5.out hpos _).mono ?_
        rintro e x6 ⟨rfl, b6⟩
        go_wp2_with fail
        go_ret; exact ⟨rfl, b5.trans (b6.mono b5.size)⟩
    · have hp2 : ¬ (0 : Int) < np := by omega
      cases hz : ((nq : Int) == 0)
      all_goals
        go_wp2_with fail
        go_ret; exact ⟨rfl, b5⟩
  · go_wp2_with fail
    go_ret; exact ⟨rfl, Below.refl _ _⟩

/-! ### THE ROW's STEP: WRITTEN OUT: LEAVE IT -/
set_option maxRecDepth 100000 in
theorem lifted (os : Os) (started : os.Started) (H : Type) (enc : TypeId × Value → H) :
    ReturnsInHanded {} Try.checked os 8 .any (Rows.fnUnderJoinCleanRelativeSpec.pre6 enc Try.prog Try.f8 Rows.fnUnderJoinCleanRelativeRow.domain false) (Rows.fnUnderJoinCleanRelativeSpec.post enc Try.prog Try.f8 false true false false) := by
  refine returnsInHanded_of_change (C := Try.checked) own started (by kernel_rfl) Try.func8
    (ChangeSpec.witness6 (enc := enc) (C := Try.checked) false ⟨#[], #[.string ByteArray.empty, .string ByteArray.empty], []⟩ 8 (by kernel_rfl) (by kernel_rfl) (by kernel_rfl) (by kernel_rfl)) ?_
  intro W base args ds gs before hval0 hW hcnd _
  have hval : ∀ (j : Nat) t v, Try.f8.params[j]? = some t → args[j]? = some v → Value.okWide Try.prog W .any base t v := hval0
  have hW' := hW
  obtain ⟨p, q, hA0, hV, rfl, hfz, hnd⟩ := hW
  have hA : DataW.TrodAll enc Try.prog W 0 (fun _ => true) true Try.f8.params.toList args.toList ds p := hA0
  rw [Try.params8] at hA hval
  obtain ⟨v0, vs0, d0, ds0, p0, q0, hargs, rfl, rfl, h0, r0⟩ := trodAll_cons hA
  obtain ⟨v1, vs1, d1, ds1, p1, q1, rfl, rfl, rfl, h1, r1⟩ := trodAll_cons r0
  obtain ⟨rfl, rfl, rfl⟩ := trodAll_nil r1
  obtain rfl : args = #[v0, v1] := by cases args; simp_all
  obtain ⟨rfl, rfl⟩ := trodVars_none hV
  obtain ⟨a0, rfl, rfl, rfl, w0⟩ := open_string Try.underlying9 (hval 0 9 v0 rfl rfl) h0
  obtain ⟨a1, rfl, rfl, rfl, w1⟩ := open_string Try.underlying9 (hval 1 9 v1 rfl rfl) h1
  clear hA0 hval0
  simp only [List.append_nil] at hW'
  refine (walk a0 a1 w0 w1 W).mono fun e W' ⟨he, bel⟩ => ?_
  subst he
  exact ⟨_, rfl, _, _, _, [], [], [], hW', trodAll_mk1 (shut_bool Try.underlying4 _), (trodAll_cons_mk (shut_string Try.underlying9 w0) (trodAll_cons_mk (shut_string Try.underlying9 w1) trodAll_mk0)), rfl, bel.frame _, fun h => by cases h⟩

theorem over : Rows.fnUnderJoinCleanRelativeRow.holds Try.pinned (OpenSpec.ofChange Rows.fnUnderJoinCleanRelativeSpec) :=
  OpenClaim.holds_of_wide 8 Try.f8 rfl rfl rfl rfl rfl rfl rfl ⟨rfl, rfl, rfl, rfl, rfl⟩ rfl rfl rfl rfl rfl (by kernel_rfl) Try.func8 (by kernel_rfl)
    (of_decide_eq_true (by kernel_rfl)) (by unfold Func.isWrapper; first | (rw [if_pos (by decide +kernel)]; kernel_rfl) | (rw [if_neg (by decide +kernel)]; exact ⟨rfl, rfl⟩))
    (fun os started H enc _ => lifted os started H enc)

/-- ████ THE STATEMENT ████ -/
theorem proved : Rows.FnUnderJoinCleanRelativeSaid :=
  over
#print axioms proved
end Go.Proofs.Qxb6000390a.fnUnderJoinCleanRelative
