import Derived.Test.Qxb6000390aSmall
namespace Go.Proofs.Qxb6000390a
open Go.RowKit Go.Lib

/-- Is a segment '..', the open segment being cur? -/
def hasDD : List UInt8 → List UInt8 → Bool
  | [], cur => cur == [46, 46]
  | c :: l, cur => if c = 47 then (cur == [46, 46]) || hasDD l [] else hasDD l (cur ++ [c])

theorem push_app (st A : List (List UInt8)) (seg : List UInt8) (h : (seg == [46, 46]) = false) : Pl.push (st ++ A) seg = st ++ Pl.push A seg := by
  have h' : ¬ seg = [46, 46] := by simpa using h
  unfold Pl.push
  split
  · rfl
  · split
    · rfl
    · rw [List.append_assoc]

theorem fold_app : ∀ (l cur : List UInt8) (st A : List (List UInt8)), hasDD l cur = false →
    Pl.push (l.foldl Pl.step (st ++ A, cur)).1 (l.foldl Pl.step (st ++ A, cur)).2 = st ++ Pl.push (l.foldl Pl.step (A, cur)).1 (l.foldl Pl.step (A, cur)).2
  | [], cur, st, A, h => push_app st A cur h
  | c :: l, cur, st, A, h => by
    rw [List.foldl_cons, List.foldl_cons]
    unfold hasDD at h
    by_cases hc : c = 47
    · rw [if_pos hc, Bool.or_eq_false_iff] at h
      simp only [Pl.step, if_pos hc]
      rw [push_app st A cur h.1]
      exact fold_app l [] st (Pl.push A cur) h.2
    · rw [if_neg hc] at h
      simp only [Pl.step, if_neg hc]
      exact fold_app l (cur ++ [c]) st A h

theorem norm_joined (p q : List UInt8) (h : hasDD q [] = false) : Pl.norm (p ++ 47 :: q) = Pl.norm p ++ Pl.norm q := by
  rw [Pl.norm_join]
  have := fold_app q [] (Pl.norm p) [] h
  rw [List.append_nil] at this
  exact this

theorem norm_up (p : List UInt8) : Pl.norm (p ++ [47, 46, 46]) = (Pl.norm p).dropLast := by
  have := Pl.norm_cut p [46, 46] (by decide)
  rw [this, Pl.push_dd]

theorem noNul_app {p q : List UInt8} (hp : NoNul p) (hq : NoNul q) : NoNul (p ++ q) := by
  intro c hc
  rcases List.mem_append.1 hc with h | h
  · exact hp c h
  · exact hq c h

theorem law1 (p q : List UInt8) (hp : NoNul p) (hq : NoNul q) (h : hasDD q [] = false) : underB (p ++ 47 :: q) p = true := by
  have hn : NoNul (p ++ 47 :: q) := noNul_app hp (by intro c hc; rcases List.mem_cons.1 hc with e | e; · rw [e]; decide
                                                     · exact hq c e)
  rw [underB, cutN_id _ hn, norm_joined p q h, List.isPrefixOf_iff_prefix]
  exact List.prefix_append _ _

theorem law2 (p q : List UInt8) (h : hasDD q [] = false) : (Pl.norm (p ++ 47 :: q)).length = (Pl.norm p).length + (Pl.norm q).length := by
  rw [norm_joined p q h, List.length_append]

theorem law3 (p q : List UInt8) (hp : NoNul p) (h : hasDD q [] = false) : underB p (p ++ 47 :: q) = ((Pl.norm q).length == 0) := by
  rw [underB, cutN_id _ hp, norm_joined p q h, Bool.eq_iff_iff, List.isPrefixOf_iff_prefix, beq_iff_eq]
  constructor
  · intro hh
    have := hh.length_le
    rw [List.length_append] at this
    omega
  · intro hh
    rw [List.length_eq_zero_iff.1 hh, List.append_nil]
    exact List.prefix_refl _

theorem law4 (p : List UInt8) (hp : NoNul p) (h : 0 < (Pl.norm p).length) : underB (p ++ [47, 46, 46]) p = false := by
  have hn : NoNul (p ++ [47, 46, 46]) := noNul_app hp (by intro c hc; simp at hc; rcases hc with rfl | rfl <;> decide)
  rw [underB, cutN_id _ hn, norm_up, Bool.eq_false_iff]
  intro hh
  rw [List.isPrefixOf_iff_prefix] at hh
  have := hh.length_le
  rw [List.length_dropLast] at this
  omega

/-- The loop's book. -/
def DInv (l : List UInt8) (k m : Nat) (D : Bool) : Prop := (k ≤ l.length ∧ m ≤ k ∧ hasDD (l.drop k) ((l.take k).drop m) = D) ∨ (k = l.length + 1 ∧ D = false)

theorem dinv_start (l : List UInt8) : DInv l 0 0 (hasDD l []) := .inl ⟨Nat.zero_le _, Nat.le_refl _, by simp⟩

theorem dinv_mid {l : List UInt8} {k m : Nat} {D : Bool} (h : DInv l k m D) (hk : k ≤ l.length) : m ≤ k ∧ hasDD (l.drop k) ((l.take k).drop m) = D := by
  rcases h with ⟨_, h1, h2⟩ | ⟨h1, _⟩
  · exact ⟨h1, h2⟩
  · omega

theorem dinv_done {l : List UInt8} {k m : Nat} {D : Bool} (h : DInv l k m D) (hk : ¬ k ≤ l.length) : D = false := by
  rcases h with ⟨h0, _⟩ | ⟨_, h2⟩
  · omega
  · exact h2

theorem lt_of_some {l : List UInt8} {k : Nat} {c : UInt8} (hc : l[k]? = some c) : k < l.length := by
  rcases Nat.lt_or_ge k l.length with hl | hl
  · exact hl
  · rw [List.getElem?_eq_none hl] at hc; cases hc

theorem drop_some {l : List UInt8} {k : Nat} {c : UInt8} (hc : l[k]? = some c) : l.drop k = c :: l.drop (k + 1) := by
  have hk := lt_of_some hc
  rw [List.drop_eq_getElem_cons hk]
  rw [List.getElem?_eq_getElem hk] at hc
  rw [Option.some.inj hc]

theorem dinv_byte {l : List UInt8} {k m : Nat} {D : Bool} {c : UInt8} (h : DInv l k m D) (hc : l[k]? = some c) (hne : c ≠ 47) : DInv l (k + 1) m D := by
  have hk := lt_of_some hc
  obtain ⟨h1, h2⟩ := dinv_mid h (by omega)
  refine .inl ⟨by omega, by omega, ?_⟩
  rw [drop_some hc] at h2
  unfold hasDD at h2
  rw [if_neg hne] at h2
  rw [List.take_add_one, hc, List.drop_append_of_le_length (by rw [List.length_take]; omega)]
  exact h2

theorem dinv_slash {l : List UInt8} {k m : Nat} {D : Bool} (h : DInv l k m D) (hc : l[k]? = some 47) (hne : ((l.take k).drop m == [46, 46]) = false) : DInv l (k + 1) (k + 1) D := by
  have hk := lt_of_some hc
  obtain ⟨h1, h2⟩ := dinv_mid h (by omega)
  refine .inl ⟨by omega, by omega, ?_⟩
  rw [drop_some hc] at h2
  unfold hasDD at h2
  rw [if_pos rfl, hne, Bool.false_or] at h2
  have e : (l.take (k + 1)).drop (k + 1) = [] := List.drop_eq_nil_of_le (by rw [List.length_take]; omega)
  rw [e]
  exact h2

theorem dinv_end {l : List UInt8} {k m : Nat} {D : Bool} (h : DInv l k m D) (hk : k = l.length) (hne : ((l.take k).drop m == [46, 46]) = false) : DInv l (k + 1) (k + 1) D := by
  obtain ⟨h1, h2⟩ := dinv_mid h (by omega)
  refine .inr ⟨by omega, ?_⟩
  rw [List.drop_eq_nil_of_le (by omega)] at h2
  unfold hasDD at h2
  rw [← h2, hne]

theorem cut_list {p : ByteArray} {l : List UInt8} (hl : l = p.data.toList) (m k : Nat) (h : ((p.extract m k).toList == [46, 46]) = false) : ((l.take k).drop m == [46, 46]) = false := by
  subst hl
  rw [Lib.toList_data, Lib.extract_data, ← List.drop_take] at h
  exact h

set_option maxHeartbeats 1000000 in
set_option maxRecDepth 100000 in
theorem hasDD_any (p : ByteArray) (w : World) (hp : p.size ≤ 1099511627776) :
    Calls Try.prog 23 #[.string p] w fun e w' => (e = .returned (.bool true) ∨ (e = .returned (.bool false) ∧ hasDD p.data.toList [] = false)) ∧ w' = w := by
  obtain ⟨l, hl⟩ : ∃ l, l = p.data.toList := ⟨_, rfl⟩
  have hsz : p.size = l.length := by rw [hl]; exact Lib.size_eq p
  rw [← hl]
  have HLl : Hid (l = p.data.toList ∧ p.size = l.length) := ⟨hl, hsz⟩
  obtain ⟨D, hD⟩ : ∃ D, D = hasDD l [] := ⟨_, rfl⟩
  have hst := dinv_start l
  rw [← hD] at hst ⊢
  have HST := (show Hid _ from hst)
  clear hl hsz hD hst
  go_enter Try.func23, Try.ntmps23
  go_wp2
  go_loop [3, 4] (fun t3 t4 => ∃ (k m : Nat), t4 = .int .i64 k ∧ t3 = .int .i64 m ∧ k ≤ p.size + 1 ∧ Hid (DInv l k m D)) (fun _ i => p.size + 1 - (intOf i).toNat)
  case atStart => exact ⟨0, 0, rfl, rfl, by omega, HST⟩
  case round =>
    clear HST
    obtain ⟨k, m, rfl, rfl, hk, HI⟩ := hrel
    by_cases hle : k ≤ p.size
    · have hm := (dinv_mid HI.out (by rw [← HLl.out.2]; exact hle)).1
      by_cases hlt : k < p.size
      · by_cases hc : p[k] = 47
        · have hcl : l[k]? = some 47 := by rw [HLl.out.1]; exact (Pa.at_eq p k hlt).trans (by rw [hc])
          have HCL := (show Hid _ from hcl)
          have hcb : ((p[k].toNat : Int) == 47) = true := by rw [hc]; rfl
          clear hc hcl
          go_wp2
          · go_ret
            exact ⟨.inl rfl, rfl⟩
          · have HS := dinv_slash HI.out HCL.out (cut_list HLl.out.1 m k (by assumption))
            go_round
            case rel => exact ⟨k + 1, k + 1, by go_num, by go_num, by omega, HS⟩
            case measure => simp [intOf]; omega
        · have HS : Hid (DInv l (k + 1) m D) := dinv_byte HI.out (by rw [HLl.out.1]; exact Pa.at_eq p k hlt) hc
          have hcb : ((p[k].toNat : Int) == 47) = false := by
            rw [beq_eq_false_iff_ne]
            intro e
            have e2 : p[k].toNat = 47 := by omega
            exact hc (UInt8.toNat.inj e2)
          clear hc HI
          go_wp2
          go_round
          case rel => exact ⟨k + 1, m, by go_num, rfl, by omega, HS⟩
          case measure => simp [intOf]; omega
      · have hke : k = l.length := by rw [← HLl.out.2]; omega
        have HKE := (show Hid _ from hke)
        have hkb : ((k : Int) == (p.size : Int)) = true := by rw [beq_iff_eq]; omega
        clear hke
        go_wp2
        · go_ret
          exact ⟨.inl rfl, rfl⟩
        · have HS := dinv_end HI.out HKE.out (cut_list HLl.out.1 m k (by assumption))
          go_round
          case rel => exact ⟨k + 1, k + 1, by go_num, by go_num, by omega, HS⟩
          case measure => simp [intOf]; omega
    · go_wp2
      go_ret
      have e := dinv_done HI.out (by rw [← HLl.out.2]; exact hle)
      exact ⟨.inr ⟨rfl, e⟩, rfl⟩

end Go.Proofs.Qxb6000390a
