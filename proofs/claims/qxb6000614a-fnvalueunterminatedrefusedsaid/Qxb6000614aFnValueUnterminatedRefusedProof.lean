/-
  THE SHELL OF A PROOF OF 'Rows.FnValueUnterminatedRefusedSaid' ('example.com/ribband/ribband/zzlaws_internal_registry_b1.FnValueUnterminatedRefused'), WRITTEN BY PROGRAM (proof-skeleton.mjs) off the guide's own print for that function. Not trusted: Lean checks it.
  The shell was laid by program; the walk is ours; the world behind the call is told by Below.
-/
import Derived.Test.Qxb6000614aLaw
import Derived.WalkKit
import Derived.ProofKit
import Derived.OpenShut
import Derived.ShutString
namespace Go.Proofs.Qxb6000614a.fnValueUnterminatedRefused
open Go.ChangeShapes Go.WideShapes Go.ChangeAt Go.RowKit
open Go.ChangeMaps (open_string shut_string)
set_option linter.unusedVariables false      -- a walk need not use every 'w<i>' (that an integer argument fits its kind)

theorem own : ownKnob Try.prog.godebug = none := by kernel_rfl

theorem arr_size (l : List UInt8) : (⟨l.toArray⟩ : ByteArray).size = l.length := by rw [Lib.size_eq]

set_option maxHeartbeats 4000000 in
set_option maxRecDepth 100000 in
/-- The walk: the Go text returns true, and writes nothing that was there. -/
theorem walk (a0 : ByteArray) (a1 : ByteArray) (a2 : Bool) (w0 : a0.size ≤ maxLen) (w1 : a1.size ≤ maxLen) (w : World) :
    Calls Try.prog 4 #[.string a0, .string a1, .bool a2] w fun e w' => e = .returned (.bool true) ∧ Below w.heap.size w w' := by
  obtain ⟨i0, hi, hz0, hz1, hz2⟩ := info_parts infoByte
  have W0 : Hid (a0.size ≤ maxLen) := w0
  have W1 : Hid (a1.size ≤ maxLen) := w1
  unfold maxLen at w0 w1
  go_enter Try.func4, Try.ntmps4
  go_wp2_with fail
  refine (bytes10_any a0 a1 a2 _ W0.out W1.out).mono ?_
  rintro e w' ⟨he | he, rfl⟩ <;> subst he
  · clear W0 W1
    by_cases h0 : (1048576 : Int) < a0.size
    · go_wp2_with fail
      go_ret; exact ⟨rfl, Below.refl _ _⟩
    by_cases h1 : (1048576 : Int) < a1.size
    · go_wp2_with fail
      go_ret; exact ⟨rfl, Below.refl _ _⟩
    by_cases h3 : (1048576 : Int) < a0.size + a1.size
    · go_wp2_with fail
      go_ret; exact ⟨rfl, Below.refl _ _⟩
    obtain ⟨l1, hl1⟩ : ∃ l, l = a0.data.toList := ⟨_, rfl⟩
    obtain ⟨l2, hl2⟩ : ∃ l, l = l1 ++ [34] := ⟨_, rfl⟩
    obtain ⟨l3, hl3⟩ : ∃ l, l = l2 ++ Pl.esc a1.data.toList := ⟨_, rfl⟩
    obtain ⟨l4, hl4⟩ : ∃ l, l = l3 ++ [92] := ⟨_, rfl⟩
    have z1 : l1.length = a0.size := by rw [hl1, ← Lib.size_eq]
    have z2 : l2.length = a0.size + 1 := by rw [hl2, List.length_append, z1]; rfl
    have z3 : l3.length ≤ a0.size + 1 + 2 * a1.size := by
      have := Pl.esc_length a1.data.toList
      rw [← Lib.size_eq] at this
      rw [hl3, List.length_append, z2]; omega
    have z4 : l4.length = l3.length + 1 := by rw [hl4, List.length_append]; rfl
    have b1 : l1.length ≤ 1048576 := by omega
    have b2 : l2.length ≤ 1048577 := by omega
    have b3 : l3.length ≤ 4194304 := by omega
    have b4 : l4.length ≤ 4194305 := by omega
    have C3 : Hid (∀ w, Calls Try.prog 9 #[.string ⟨l3.toArray⟩, .int .i64 a0.size] w fun e w' => e = .returned (.tuple #[.string ⟨#[]⟩, .bool false, .int .i64 l3.length]) ∧ Below w.heap.size w w') :=
      fun w => lex_bad a0 _ l3 (by rw [hl3, hl2, hl1]) (Pl.lex_open _) (by omega) w
    have C4 : Hid (∀ w, Calls Try.prog 9 #[.string ⟨l4.toArray⟩, .int .i64 a0.size] w fun e w' => e = .returned (.tuple #[.string ⟨#[]⟩, .bool false, .int .i64 l4.length]) ∧ Below w.heap.size w w') :=
      fun w => lex_bad a0 _ l4 (by rw [hl4, hl3, hl2, hl1, List.append_assoc]) (Pl.lex_open_lone _) (by omega) w
    have L1 : Hid (l1 = a0.data.toList) := hl1
    have L2 : Hid (l2 = l1 ++ [34]) := hl2
    have L3 : Hid (l3 = l2 ++ Pl.esc a1.data.toList) := hl3
    have L4 : Hid (l4 = l3 ++ [92]) := hl4
    clear hl1 hl2 hl3 hl4 z1 z2 z3 z4
    go_wp2_with (at_make; refine wpList_make_own _ rfl _ _ 23 rfl w'.heap.size 5 i0 (.int .u8 0) 1 Try.underlying23 hi hz0 hz1 .i64 .i64 _ (a0.size + 2 * a1.size + 2) rfl rfl (by omega) (by rw [hz2]; omega) (by unfold maxLen; omega) (Nat.le_refl _) ?_)
    intro x0 own0 grow0
    have bel0 : Below w'.heap.size w' x0 := (Below.refl _ _).grown grow0 (Nat.le_refl _) (by intro k hk; cases hk)
    have B0 := bel0.size
    clear grow0
    go_wp2_with (at_builtin; refine Lib.wpList_append_own_string _ rfl (.tmp 39) (.tmp 40) 23 9 rfl w'.heap.size 5 i0 Try.underlying23 Try.underlying9 hi hz0 hz1 hz2 _ _ _ rfl own0 a0 rfl (by unfold maxLen; omega) (by omega) (by omega) ?_)
    intro v1 x1 own1 grow1 _
    have bel1 : Below w'.heap.size w' x1 := bel0.grown grow1 B0 (fun k hk => (own0.lt k hk).1)
    have B1 := bel1.size
    have own1' : x1.ownsRow w'.heap.size 5 1 v1 l1.length (Lib.byteCells l1) := by rw [L1.out, ← Lib.size_eq]; exact own1
    clear grow1 own1 own0 bel0 B0
    go_wp2_with (at_builtin; refine wpList_append_own _ rfl (.tmp 42) (.tmp 43) 23 rfl w'.heap.size 5 i0 (.int .u8 0) 1 1 Try.underlying23 hi hz0 hz1 hz2 rfl (by decide) _ _ _ rfl (own1'.alloc _) ⟨x1.heap.size, 0, none⟩ 1 1 [.int .u8 34] rfl rfl (byte_new _ _ _) (byte_cell _) (by unfold maxLen; omega) (by omega) (by simp; omega) ?_)
    intro v2 x2 own2 grow2 _
    have bel2 : Below w'.heap.size w' x2 := (bel1.alloc B1 _).grown grow2 (by simp; omega) (fun k hk => (own1'.lt k hk).1)
    have B2 := bel2.size
    have own2' : x2.ownsRow w'.heap.size 5 1 v2 l2.length (Lib.byteCells l2) := by rw [L2.out]; exact own_byte (c := 34) own2
    clear grow2 own2 own1' bel1 B1
    go_wp2_with fail
    refine (esc_any w'.heap.size v2 l2 a1 _ own2' B2 (by omega) (by omega)).mono ?_
    rintro e x3 ⟨v3, rfl, own3, bel3⟩
    have own3' : x3.ownsRow w'.heap.size 5 1 v3 l3.length (Lib.byteCells l3) := by rw [L3.out]; exact own3
    have bel3 := bel2.trans bel3
    have B3 := bel3.size
    clear own3 own2' bel2 B2
    cases a2
    · have hcv := str_of own3'
      have hss := arr_size l3
      clear own3'
      go_wp2_with fail
      refine (C3.out _).mono ?_
      rintro e x6 ⟨rfl, bel6⟩
      have bel6 := bel3.trans (bel6.mono B3)
      clear hcv bel3 B3 C3 C4 L1 L2 L3 L4
      go_wp2_with fail
      go_ret
      exact ⟨rfl, bel6⟩
    · go_wp2_with (at_builtin; refine wpList_append_own _ rfl (.tmp 49) (.tmp 50) 23 rfl w'.heap.size 5 i0 (.int .u8 0) 1 1 Try.underlying23 hi hz0 hz1 hz2 rfl (by decide) _ _ _ rfl (own3'.alloc _) ⟨x3.heap.size, 0, none⟩ 1 1 [.int .u8 92] rfl rfl (byte_new _ _ _) (byte_cell _) (by unfold maxLen; omega) (by omega) (by simp; omega) ?_)
      intro v4 x4 own4 grow4 _
      have bel4 : Below w'.heap.size w' x4 := (bel3.alloc B3 _).grown grow4 (by simp; omega) (fun k hk => (own3'.lt k hk).1)
      have B4 := bel4.size
      have own4' : x4.ownsRow w'.heap.size 5 1 v4 l4.length (Lib.byteCells l4) := by rw [L4.out]; exact own_byte (c := 92) own4
      have hcv := str_of own4'
      have hss := arr_size l4
      clear grow4 own4 own3' bel3 B3 own4'
      go_wp2_with fail
      refine (C4.out _).mono ?_
      rintro e x6 ⟨rfl, bel6⟩
      have bel6 := bel4.trans (bel6.mono B4)
      clear hcv bel4 B4 C3 C4 L1 L2 L3 L4
      go_wp2_with fail
      go_ret
      exact ⟨rfl, bel6⟩
  · go_wp2_with fail
    go_ret; exact ⟨rfl, Below.refl _ _⟩

/-! ### THE ROW's STEP: WRITTEN OUT: LEAVE IT -/
set_option maxRecDepth 100000 in
theorem lifted (os : Os) (started : os.Started) (H : Type) (enc : TypeId × Value → H) :
    ReturnsInHanded {} Try.checked os 4 .any (Rows.fnValueUnterminatedRefusedSpec.pre6 enc Try.prog Try.f4 Rows.fnValueUnterminatedRefusedRow.domain false) (Rows.fnValueUnterminatedRefusedSpec.post enc Try.prog Try.f4 false true false false) := by
  refine returnsInHanded_of_change (C := Try.checked) own started (by kernel_rfl) Try.func4
    (ChangeSpec.witness6 (enc := enc) (C := Try.checked) false ⟨#[], #[.string ByteArray.empty, .string ByteArray.empty, .bool false], []⟩ 8 (by kernel_rfl) (by kernel_rfl) (by kernel_rfl) (by kernel_rfl)) ?_
  intro W base args ds gs before hval0 hW hcnd _
  have hval : ∀ (j : Nat) t v, Try.f4.params[j]? = some t → args[j]? = some v → Value.okWide Try.prog W .any base t v := hval0
  have hW' := hW
  obtain ⟨p, q, hA0, hV, rfl, hfz, hnd⟩ := hW
  have hA : DataW.TrodAll enc Try.prog W 0 (fun _ => true) true Try.f4.params.toList args.toList ds p := hA0
  rw [Try.params4] at hA hval
  obtain ⟨v0, vs0, d0, ds0, p0, q0, hargs, rfl, rfl, h0, r0⟩ := trodAll_cons hA
  obtain ⟨v1, vs1, d1, ds1, p1, q1, rfl, rfl, rfl, h1, r1⟩ := trodAll_cons r0
  obtain ⟨v2, vs2, d2, ds2, p2, q2, rfl, rfl, rfl, h2, r2⟩ := trodAll_cons r1
  obtain ⟨rfl, rfl, rfl⟩ := trodAll_nil r2
  obtain rfl : args = #[v0, v1, v2] := by cases args; simp_all
  obtain ⟨rfl, rfl⟩ := trodVars_none hV
  obtain ⟨a0, rfl, rfl, rfl, w0⟩ := open_string Try.underlying9 (hval 0 9 v0 rfl rfl) h0
  obtain ⟨a1, rfl, rfl, rfl, w1⟩ := open_string Try.underlying9 (hval 1 9 v1 rfl rfl) h1
  obtain ⟨a2, rfl, rfl, rfl⟩ := open_bool Try.underlying4 (hval 2 4 v2 rfl rfl) h2
  clear hA0 hval0
  simp only [List.append_nil] at hW'
  refine (walk a0 a1 a2 w0 w1 W).mono fun e W' ⟨he, bel⟩ => ?_
  subst he
  exact ⟨_, rfl, _, _, _, [], [], [], hW', trodAll_mk1 (shut_bool Try.underlying4 _), (trodAll_cons_mk (shut_string Try.underlying9 w0) (trodAll_cons_mk (shut_string Try.underlying9 w1) (trodAll_cons_mk (shut_bool Try.underlying4 _) trodAll_mk0))), rfl, bel.frame _, fun h => by cases h⟩

theorem over : Rows.fnValueUnterminatedRefusedRow.holds Try.pinned (OpenSpec.ofChange Rows.fnValueUnterminatedRefusedSpec) :=
  OpenClaim.holds_of_wide 4 Try.f4 rfl rfl rfl rfl rfl rfl rfl ⟨rfl, rfl, rfl, rfl, rfl⟩ rfl rfl rfl rfl rfl (by kernel_rfl) Try.func4 (by kernel_rfl)
    (of_decide_eq_true (by kernel_rfl)) (by unfold Func.isWrapper; first | (rw [if_pos (by decide +kernel)]; kernel_rfl) | (rw [if_neg (by decide +kernel)]; exact ⟨rfl, rfl⟩))
    (fun os started H enc _ => lifted os started H enc)

/-- ████ THE STATEMENT ████ -/
theorem proved : Rows.FnValueUnterminatedRefusedSaid :=
  over
#print axioms proved
end Go.Proofs.Qxb6000614a.fnValueUnterminatedRefused
