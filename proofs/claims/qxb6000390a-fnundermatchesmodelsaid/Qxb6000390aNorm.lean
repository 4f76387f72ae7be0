import Derived.Test.Qxb6000390aSmall
import Derived.WalkSmall
import Derived.OwnWalk
import Derived.BigQuiet
namespace Go.Proofs.Qxb6000390a
open Go.RowKit Go.Lib

/-- The loop's book: behind k bytes, the open segment begins at m, the stack is L. -/
def Inv (l : List UInt8) (k m : Nat) (L : List (List UInt8)) : Prop :=
  (k ≤ l.length ∧ m ≤ k ∧ Pl.run (l.take k) = (L, (l.take k).drop m)) ∨ (k = l.length + 1 ∧ m = k ∧ L = Pl.norm l)

theorem inv_start (l : List UInt8) : Inv l 0 0 [] := .inl ⟨Nat.zero_le _, Nat.le_refl _, by simp [Pl.run]⟩

theorem inv_mid {l : List UInt8} {k m : Nat} {L : List (List UInt8)} (h : Inv l k m L) (hk : k ≤ l.length) : m ≤ k ∧ Pl.run (l.take k) = (L, (l.take k).drop m) := by
  rcases h with ⟨_, h1, h2⟩ | ⟨h1, _⟩
  · exact ⟨h1, h2⟩
  · omega

theorem inv_done {l : List UInt8} {k m : Nat} {L : List (List UInt8)} (h : Inv l k m L) (hk : ¬ k ≤ l.length) : L = Pl.norm l := by
  rcases h with ⟨h0, _⟩ | ⟨_, _, h2⟩
  · omega
  · exact h2

theorem take_snoc {l : List UInt8} {k : Nat} {c : UInt8} (hc : l[k]? = some c) : l.take (k + 1) = l.take k ++ [c] := by
  rw [List.take_add_one, hc]; rfl

theorem inv_byte {l : List UInt8} {k m : Nat} {L : List (List UInt8)} {c : UInt8} (h : Inv l k m L) (hc : l[k]? = some c) (hne : c ≠ 47) : Inv l (k + 1) m L := by
  have hk : k < l.length := by
    rcases Nat.lt_or_ge k l.length with hl | hl
    · exact hl
    · rw [List.getElem?_eq_none hl] at hc; cases hc
  obtain ⟨h1, h2⟩ := inv_mid h (by omega)
  refine .inl ⟨by omega, by omega, ?_⟩
  rw [take_snoc hc, Pl.run, List.foldl_append]
  rw [Pl.run] at h2
  rw [h2, List.foldl_cons, List.foldl_nil, Pl.step, if_neg hne, List.drop_append_of_le_length (by rw [List.length_take]; omega)]

theorem inv_slash {l : List UInt8} {k m : Nat} {L : List (List UInt8)} (h : Inv l k m L) (hc : l[k]? = some 47) : Inv l (k + 1) (k + 1) (Pl.push L ((l.take k).drop m)) := by
  have hk : k < l.length := by
    rcases Nat.lt_or_ge k l.length with hl | hl
    · exact hl
    · rw [List.getElem?_eq_none hl] at hc; cases hc
  obtain ⟨h1, h2⟩ := inv_mid h (by omega)
  refine .inl ⟨by omega, by omega, ?_⟩
  rw [take_snoc hc, Pl.run, List.foldl_append]
  rw [Pl.run] at h2
  rw [h2, List.foldl_cons, List.foldl_nil, Pl.step, if_pos rfl]
  simp only [Prod.mk.injEq, true_and]
  rw [List.drop_eq_nil_of_le (by simp; omega)]

theorem inv_end {l : List UInt8} {k m : Nat} {L : List (List UInt8)} (h : Inv l k m L) (hk : k = l.length) : Inv l (k + 1) (k + 1) (Pl.push L ((l.take k).drop m)) := by
  obtain ⟨h1, h2⟩ := inv_mid h (by omega)
  refine .inr ⟨by omega, rfl, ?_⟩
  have e : l.take k = l := List.take_of_length_le (by omega)
  rw [e] at h2 ⊢
  rw [Pl.norm, h2]

theorem inv_len {l : List UInt8} {k m : Nat} {L : List (List UInt8)} (h : Inv l k m L) (hk : k ≤ l.length) : L.length ≤ l.length := by
  obtain ⟨_, h2⟩ := inv_mid h hk
  have h3 := Pl.run_length (l.take k) ([], [])
  rw [Pl.run] at h2
  rw [h2] at h3
  simp at h3
  omega

/-- The stack in memory: strings. -/
def strs (L : List (List UInt8)) : List Value := L.map (fun l => .string ⟨l.toArray⟩)

theorem strs_len (L : List (List UInt8)) : (strs L).length = L.length := by simp [strs]
theorem strs_snoc (L : List (List UInt8)) (x : List UInt8) : strs (L ++ [x]) = strs L ++ [.string ⟨x.toArray⟩] := by simp [strs]

theorem seg_eq (p : ByteArray) (m k : Nat) : p.extract m k = ⟨((p.data.toList.take k).drop m).toArray⟩ := by
  rw [Lib.extract_eq, List.drop_take]

theorem info9 : (Try.prog.info? 9).map (fun i => (i.zero, i.size, i.bytes)) = some (some (.string ⟨#[]⟩), 1, 16) := by kernel_rfl

theorem pushB_dot {p : ByteArray} {l : List UInt8} (hl : l = p.data.toList) (m k : Nat) (L : List (List UInt8)) (h : (p.extract m k).toList = [] ∨ (p.extract m k).toList.isEmpty = true ∨ ((p.extract m k).toList == [46]) = true) :
    Pl.push L ((l.take k).drop m) = L := by
  subst hl
  apply Pl.push_dot
  rw [seg_eq, Lib.toList_data] at h
  simp only at h
  unfold Pl.isDot
  rcases h with h | h | h
  · simp [h]
  · have := List.isEmpty_iff.1 h
    simp [this]
  · rw [h, Bool.or_true]

theorem pushB_dd {p : ByteArray} {l : List UInt8} (hl : l = p.data.toList) (m k : Nat) (L : List (List UInt8)) (h : ((p.extract m k).toList == [46, 46]) = true) :
    Pl.push L ((l.take k).drop m) = L.dropLast := by
  subst hl
  rw [seg_eq, Lib.toList_data] at h
  have h' : ((p.data.toList.take k).drop m) = [46, 46] := by simpa using h
  rw [h', Pl.push_dd]

theorem pushB_seg {p : ByteArray} {l : List UInt8} (hl : l = p.data.toList) (m k : Nat) (L : List (List UInt8)) (h : (p.extract m k).toList.isEmpty = false ∧ ((p.extract m k).toList == [46]) = false) (h2 : ((p.extract m k).toList == [46, 46]) = false) :
    Pl.push L ((l.take k).drop m) = L ++ [(l.take k).drop m] := by
  subst hl
  rw [seg_eq, Lib.toList_data] at h h2
  simp only at h h2
  refine Pl.push_seg _ _ ?_ h2
  unfold Pl.isDot
  rw [h.2, Bool.or_false]
  have h3 := h.1
  revert h3
  cases (p.data.toList.take k).drop m <;> simp

theorem own_pop {w : World} {B g cap : Nat} {L : List (List UInt8)} (hL : 0 < L.length) (n : Nat) (hn : n = L.length - 1) (h : w.ownsRow B 9 1 (.slice (some ⟨g, 0, none⟩) L.length cap) L.length (strs L)) :
    w.ownsRow B 9 1 (.slice (some ⟨g, 0, none⟩) n cap) L.dropLast.length (strs L.dropLast) := by
  subst hn
  obtain ⟨M, x, rfl⟩ : ∃ M x, L = M ++ [x] := ⟨L.dropLast, L.getLast (by intro e; subst e; simp at hL), (List.dropLast_concat_getLast _).symm⟩
  rw [strs_snoc, List.length_append, List.length_singleton] at h
  have := ownsRow_pop (n := M.length) (by simp [strs]) h
  simpa using this

theorem own_dropLast_nil {w : World} {B : Nat} {v : Value} {L : List (List UInt8)} (hL : ¬ 0 < L.length) (h : w.ownsRow B 9 1 v L.length (strs L)) : w.ownsRow B 9 1 v L.dropLast.length (strs L.dropLast) := by
  have : L = [] := List.length_eq_zero_iff.1 (by omega)
  subst this
  exact h

theorem own_snoc {w : World} {B : Nat} {v : Value} {L : List (List UInt8)} {p : ByteArray} {l : List UInt8} (hl : l = p.data.toList) (m k : Nat) (h : w.ownsRow B 9 1 v (L.length + 1) (strs L ++ [.string (p.extract m k)])) :
    w.ownsRow B 9 1 v (L ++ [(l.take k).drop m]).length (strs (L ++ [(l.take k).drop m])) := by
  subst hl
  rw [strs_snoc, List.length_append, List.length_singleton, ← seg_eq]
  exact h

theorem one_new (w : World) (x : Value) (t : TypeId) : ∀ j u, [x][j]? = some u → (w.alloc (.cells #[x] t)).cell? ((⟨w.heap.size, 0, none⟩ : Addr).add j) = some u := by
  intro j u hj
  match j, hj with
  | 0, hj => simp at hj; subst hj; simp [Addr.add]
  | j + 1, hj => simp at hj

theorem one_cell (s : ByteArray) : ∀ u ∈ [Value.string s], u.oneCell' = true := by
  intro u hu; simp at hu; subst hu; rfl

theorem grown_own {B g : Nat} {w wr w1 : World} {o : Obj} {n cap : Nat} (hbel : Below B w wr) (hB : B ≤ wr.heap.size) (hg : B ≤ g) (h : (wr.alloc o).grownBy w1 (Value.slice (some ⟨g, 0, none⟩) n cap).ownBlock) : Below B w w1 :=
  (hbel.alloc hB _).grown h (by simp; omega) (by intro k hk; simp [Value.ownBlock] at hk; omega)

theorem grown_nil {B : Nat} {w wr w1 : World} {o : Obj} (hbel : Below B w wr) (hB : B ≤ wr.heap.size) (h : (wr.alloc o).grownBy w1 (Value.slice none 0 0).ownBlock) : Below B w w1 :=
  (hbel.alloc hB _).grown h (by simp; omega) (by intro k hk; simp [Value.ownBlock] at hk)

set_option maxHeartbeats 4000000 in
set_option maxRecDepth 100000 in
theorem norm_any (p : ByteArray) (w : World) (hp : p.size ≤ 1048576) :
    Calls Try.prog 11 #[.string p] w fun e w' => ∃ v, e = .returned v ∧ w'.ownsRow w.heap.size 9 1 v (Pl.norm p.data.toList).length (strs (Pl.norm p.data.toList)) ∧ Below w.heap.size w w' := by
  obtain ⟨i0, hi, hz0, hz1, hz2⟩ := info_parts info9
  obtain ⟨l, hl⟩ : ∃ l, l = p.data.toList := ⟨_, rfl⟩
  have hsz : p.size = l.length := by rw [hl]; exact Lib.size_eq p
  rw [← hl]
  have HLl : Hid (l = p.data.toList ∧ p.size = l.length) := ⟨hl, hsz⟩
  clear hl hsz
  go_enter Try.func11, Try.ntmps11
  go_wp2
  go_loopw [3, 4, 5] (fun v t4 t5 wr => ∃ (k m : Nat) (L : List (List UInt8)), t5 = .int .i64 k ∧ t4 = .int .i64 m ∧ k ≤ p.size + 1 ∧ wr.ownsRow w.heap.size 9 1 v L.length (strs L) ∧ Below w.heap.size w wr ∧ Hid (Inv l k m L)) (fun _ _ i _ => p.size + 1 - (intOf i).toNat)
  case atStart => exact ⟨0, 0, [], rfl, rfl, by omega, World.ownsRow_nil _ _ _ _, Below.refl _ _, inv_start l⟩
  case round =>
    obtain ⟨k, m, L, rfl, rfl, hk, hown, hbel, HI⟩ := hrel
    by_cases hle : k ≤ p.size
    · have hm := (inv_mid HI.out (by rw [← HLl.out.2]; exact hle)).1
      have hLl := inv_len HI.out (by rw [← HLl.out.2]; exact hle)
      rw [← HLl.out.2] at hLl
      by_cases hlt : k < p.size
      · by_cases hc : p[k] = 47
        · have HS : Hid (Inv l (k + 1) (k + 1) (Pl.push L ((l.take k).drop m))) := inv_slash HI.out (by rw [HLl.out.1]; exact (Pa.at_eq p k hlt).trans (by rw [hc]))
          have hcb : ((p[k].toNat : Int) == 47) = true := by rw [hc]; rfl
          clear hc HI
          obtain ⟨hx1, ⟨rfl, hL0⟩ | ⟨g, cap, cur, rfl, hg, hh, hn, hcap, hsz, htk⟩⟩ := id hown
          · obtain rfl : L = [] := List.length_eq_zero_iff.1 hL0
            have hB := hbel.size
            clear hx1 hL0
            go_wp2_with (at_builtin; refine wpList_append_own _ rfl _ _ 24 rfl w.heap.size 9 i0 (.string ⟨#[]⟩) 1 16 Try.underlying24 hi hz0 hz1 hz2 rfl (by decide) _ _ _ rfl (hown.alloc _) ⟨wr.heap.size, 0, none⟩ 1 1 [.string (p.extract m k)] rfl rfl (one_new _ _ _) (one_cell _) (by unfold maxLen; simp) (by simp) (by simp; omega) ?_)
            · have e := pushB_dot HLl.out.1 m k [] (.inl (by assumption))
              go_roundw
              case rel => exact ⟨k + 1, k + 1, [], by go_num, by go_num, by omega, hown, hbel, by rw [← e]; exact HS⟩
              case measure => simp [intOf]; omega
            · have e := pushB_dot HLl.out.1 m k [] (.inr (by assumption))
              go_roundw
              case rel => exact ⟨k + 1, k + 1, [], by go_num, by go_num, by omega, hown, hbel, by rw [← e]; exact HS⟩
              case measure => simp [intOf]; omega
            · have e := pushB_dd HLl.out.1 m k [] (by assumption)
              go_roundw
              case rel => exact ⟨k + 1, k + 1, [], by go_num, by go_num, by omega, hown, hbel, by rw [show ([] : List (List UInt8)) = Pl.push [] ((l.take k).drop m) from e.symm]; exact HS⟩
              case measure => simp [intOf]; omega
            · intro v' w1 hown' hgrow _
              have e := pushB_seg HLl.out.1 m k [] (by assumption) (by assumption)
              have hbel' := grown_nil hbel hB hgrow
              have hown2 := own_snoc (L := []) HLl.out.1 m k hown'
              clear hown' hgrow hown hbel
              go_wp2
              go_roundw
              case rel => exact ⟨k + 1, k + 1, _, by go_num, by go_num, by omega, hown2, hbel', by rw [← e]; exact HS⟩
              case measure => simp [intOf]; omega
          · have HH := (show Hid (_ ∧ _) from ⟨hh, htk⟩)
            have hB := hbel.size
            clear hx1 hh htk
            go_wp2_with (at_builtin; refine wpList_append_own _ rfl _ _ 24 rfl w.heap.size 9 i0 (.string ⟨#[]⟩) 1 16 Try.underlying24 hi hz0 hz1 hz2 rfl (by decide) _ _ _ rfl (hown.alloc _) ⟨wr.heap.size, 0, none⟩ 1 1 [.string (p.extract m k)] rfl rfl (one_new _ _ _) (one_cell _) (by unfold maxLen; omega) (by omega) (by simp; omega) ?_)
            · have e := pushB_dot HLl.out.1 m k L (.inl (by assumption))
              go_roundw
              case rel => exact ⟨k + 1, k + 1, L, by go_num, by go_num, by omega, hown, hbel, by rw [← e]; exact HS⟩
              case measure => simp [intOf]; omega
            · have e := pushB_dot HLl.out.1 m k L (.inr (by assumption))
              go_roundw
              case rel => exact ⟨k + 1, k + 1, L, by go_num, by go_num, by omega, hown, hbel, by rw [← e]; exact HS⟩
              case measure => simp [intOf]; omega
            · have e := pushB_dd HLl.out.1 m k L (by assumption)
              go_roundw
              case rel => exact ⟨k + 1, k + 1, L.dropLast, by go_num, by go_num, by omega, own_pop (by assumption) _ (by omega) hown, hbel, by rw [← e]; exact HS⟩
              case measure => simp [intOf]; omega
            · have e := pushB_dd HLl.out.1 m k L (by assumption)
              go_roundw
              case rel => exact ⟨k + 1, k + 1, L.dropLast, by go_num, by go_num, by omega, own_dropLast_nil (by assumption) hown, hbel, by rw [← e]; exact HS⟩
              case measure => simp [intOf]; omega
            · intro v' w1 hown' hgrow _
              have e := pushB_seg HLl.out.1 m k L (by assumption) (by assumption)
              have hbel' := grown_own hbel hB hg hgrow
              have hown2 := own_snoc HLl.out.1 m k hown'
              clear hown' hgrow hown hbel
              go_wp2
              go_roundw
              case rel => exact ⟨k + 1, k + 1, _, by go_num, by go_num, by omega, hown2, hbel', by rw [← e]; exact HS⟩
              case measure => simp [intOf]; omega
        · have HS : Hid (Inv l (k + 1) m L) := inv_byte HI.out (by rw [HLl.out.1]; exact Pa.at_eq p k hlt) hc
          have hcb : ((p[k].toNat : Int) == 47) = false := by
            rw [beq_eq_false_iff_ne]
            intro e
            have e2 : p[k].toNat = 47 := by omega
            exact hc (UInt8.toNat.inj e2)
          clear hc HI
          go_wp2
          go_roundw
          case rel => exact ⟨k + 1, m, L, by go_num, rfl, by omega, hown, hbel, HS⟩
          case measure => simp [intOf]; omega
      · have hke : k = p.size := by omega
        have HS : Hid (Inv l (k + 1) (k + 1) (Pl.push L ((l.take k).drop m))) := inv_end HI.out (by rw [← HLl.out.2]; exact hke)
        have hkb : ((k : Int) == (p.size : Int)) = true := by rw [beq_iff_eq]; omega
        clear HI hke
        obtain ⟨hx1, ⟨rfl, hL0⟩ | ⟨g, cap, cur, rfl, hg, hh, hn, hcap, hsz, htk⟩⟩ := id hown
        · obtain rfl : L = [] := List.length_eq_zero_iff.1 hL0
          have hB := hbel.size
          clear hx1 hL0
          go_wp2_with (at_builtin; refine wpList_append_own _ rfl _ _ 24 rfl w.heap.size 9 i0 (.string ⟨#[]⟩) 1 16 Try.underlying24 hi hz0 hz1 hz2 rfl (by decide) _ _ _ rfl (hown.alloc _) ⟨wr.heap.size, 0, none⟩ 1 1 [.string (p.extract m k)] rfl rfl (one_new _ _ _) (one_cell _) (by unfold maxLen; simp) (by simp) (by simp; omega) ?_)
          · have e := pushB_dot HLl.out.1 m k [] (.inl (by assumption))
            go_roundw
            case rel => exact ⟨k + 1, k + 1, [], by go_num, by go_num, by omega, hown, hbel, by rw [← e]; exact HS⟩
            case measure => simp [intOf]; omega
          · have e := pushB_dot HLl.out.1 m k [] (.inr (by assumption))
            go_roundw
            case rel => exact ⟨k + 1, k + 1, [], by go_num, by go_num, by omega, hown, hbel, by rw [← e]; exact HS⟩
            case measure => simp [intOf]; omega
          · have e := pushB_dd HLl.out.1 m k [] (by assumption)
            go_roundw
            case rel => exact ⟨k + 1, k + 1, [], by go_num, by go_num, by omega, hown, hbel, by rw [show ([] : List (List UInt8)) = Pl.push [] ((l.take k).drop m) from e.symm]; exact HS⟩
            case measure => simp [intOf]; omega
          · intro v' w1 hown' hgrow _
            have e := pushB_seg HLl.out.1 m k [] (by assumption) (by assumption)
            have hbel' := grown_nil hbel hB hgrow
            have hown2 := own_snoc (L := []) HLl.out.1 m k hown'
            clear hown' hgrow hown hbel
            go_wp2
            go_roundw
            case rel => exact ⟨k + 1, k + 1, _, by go_num, by go_num, by omega, hown2, hbel', by rw [← e]; exact HS⟩
            case measure => simp [intOf]; omega
        · have HH := (show Hid (_ ∧ _) from ⟨hh, htk⟩)
          have hB := hbel.size
          clear hx1 hh htk
          go_wp2_with (at_builtin; refine wpList_append_own _ rfl _ _ 24 rfl w.heap.size 9 i0 (.string ⟨#[]⟩) 1 16 Try.underlying24 hi hz0 hz1 hz2 rfl (by decide) _ _ _ rfl (hown.alloc _) ⟨wr.heap.size, 0, none⟩ 1 1 [.string (p.extract m k)] rfl rfl (one_new _ _ _) (one_cell _) (by unfold maxLen; omega) (by omega) (by simp; omega) ?_)
          · have e := pushB_dot HLl.out.1 m k L (.inl (by assumption))
            go_roundw
            case rel => exact ⟨k + 1, k + 1, L, by go_num, by go_num, by omega, hown, hbel, by rw [← e]; exact HS⟩
            case measure => simp [intOf]; omega
          · have e := pushB_dot HLl.out.1 m k L (.inr (by assumption))
            go_roundw
            case rel => exact ⟨k + 1, k + 1, L, by go_num, by go_num, by omega, hown, hbel, by rw [← e]; exact HS⟩
            case measure => simp [intOf]; omega
          · have e := pushB_dd HLl.out.1 m k L (by assumption)
            go_roundw
            case rel => exact ⟨k + 1, k + 1, L.dropLast, by go_num, by go_num, by omega, own_pop (by assumption) _ (by omega) hown, hbel, by rw [← e]; exact HS⟩
            case measure => simp [intOf]; omega
          · have e := pushB_dd HLl.out.1 m k L (by assumption)
            go_roundw
            case rel => exact ⟨k + 1, k + 1, L.dropLast, by go_num, by go_num, by omega, own_dropLast_nil (by assumption) hown, hbel, by rw [← e]; exact HS⟩
            case measure => simp [intOf]; omega
          · intro v' w1 hown' hgrow _
            have e := pushB_seg HLl.out.1 m k L (by assumption) (by assumption)
            have hbel' := grown_own hbel hB hg hgrow
            have hown2 := own_snoc HLl.out.1 m k hown'
            clear hown' hgrow hown hbel
            go_wp2
            go_roundw
            case rel => exact ⟨k + 1, k + 1, _, by go_num, by go_num, by omega, hown2, hbel', by rw [← e]; exact HS⟩
            case measure => simp [intOf]; omega
    · have e := inv_done HI.out (by rw [← HLl.out.2]; exact hle)
      go_wp2
      go_ret
      refine ⟨_, rfl, ?_, hbel⟩
      rw [← e]
      exact hown

end Go.Proofs.Qxb6000390a
