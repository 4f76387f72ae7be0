import Derived.Test.Qxb6000390aNorm
namespace Go.Proofs.Qxb6000390a
open Go.RowKit Go.Lib

theorem own_open {w : World} {B : Nat} {v : Value} {L : List (List UInt8)} (h : w.ownsRow B 9 1 v L.length (strs L)) :
    ∃ a c, v = .slice a L.length c ∧ ∀ k x, L[k]? = some x → ∃ g, a = some ⟨g, 0, none⟩ ∧ w.cell? ⟨g, k, none⟩ = some (.string ⟨x.toArray⟩) := by
  obtain ⟨_, ⟨rfl, hn⟩ | ⟨g, cap, cur, rfl, _, hh, _, _, _, htk⟩⟩ := h
  · have : L = [] := List.length_eq_zero_iff.1 hn
    subst this
    exact ⟨none, 0, rfl, by intro k x hx; simp at hx⟩
  · refine ⟨_, cap, rfl, ?_⟩
    intro k x hx
    refine ⟨g, rfl, ?_⟩
    have hk : k < L.length := by
      rcases Nat.lt_or_ge k L.length with hl | hl
      · exact hl
      · rw [List.getElem?_eq_none hl] at hx; cases hx
    have h1 : (strs L)[k]? = some (.string ⟨x.toArray⟩) := by simp [strs, hx]
    rw [← htk, Nat.mul_one, List.getElem?_take_of_lt hk] at h1
    simp [World.cell?, hh]
    simpa using h1

theorem pre_le {L M : List (List UInt8)} (h : M.length < L.length) : L.isPrefixOf M = false := by
  rw [Bool.eq_false_iff]
  intro hh
  rw [List.isPrefixOf_iff_prefix] at hh
  have := hh.length_le
  omega

theorem pre_ne {L M : List (List UInt8)} {k : Nat} {x y : List UInt8} (hx : L[k]? = some x) (hy : M[k]? = some y) (hne : ¬ x = y) : L.isPrefixOf M = false := by
  rw [Bool.eq_false_iff]
  intro hh
  rw [List.isPrefixOf_iff_prefix] at hh
  obtain ⟨r, rfl⟩ := hh
  have hk : k < L.length := by
    rcases Nat.lt_or_ge k L.length with hl | hl
    · exact hl
    · rw [List.getElem?_eq_none hl] at hx; cases hx
  rw [List.getElem?_append_left hk, hx] at hy
  exact hne (Option.some.inj hy)

theorem pre_all {L M : List (List UInt8)} {k : Nat} (hk : ¬ k < L.length) (h : L.take k = M.take k) : L.isPrefixOf M = true := by
  rw [List.isPrefixOf_iff_prefix]
  rw [List.take_of_length_le (by omega)] at h
  rw [h]
  exact List.take_prefix _ _

theorem take_eq_snoc {L M : List (List UInt8)} {k : Nat} {x y : List UInt8} (hx : L[k]? = some x) (hy : M[k]? = some y) (he : x = y) (h : L.take k = M.take k) : L.take (k + 1) = M.take (k + 1) := by
  rw [List.take_add_one, List.take_add_one, hx, hy, h, he]

set_option maxHeartbeats 4000000 in
set_option maxRecDepth 100000 in
theorem isPre_any (w : World) (B1 B2 : Nat) (v1 v2 : Value) (L M : List (List UInt8)) (h1 : w.ownsRow B1 9 1 v1 L.length (strs L)) (h2 : w.ownsRow B2 9 1 v2 M.length (strs M)) (hM : M.length ≤ 1099511627776) :
    Calls Try.prog 17 #[v1, v2] w fun e w' => e = .returned (.bool (L.isPrefixOf M)) ∧ Below w.heap.size w w' := by
  obtain ⟨R, hR⟩ : ∃ R, R = L.isPrefixOf M := ⟨_, rfl⟩
  rw [← hR]
  have HR : Hid (R = L.isPrefixOf M) := hR
  clear hR
  obtain ⟨a1, c1, rfl, o1⟩ := own_open h1
  obtain ⟨a2, c2, rfl, o2⟩ := own_open h2
  have O1 := (show Hid _ from o1)
  have O2 := (show Hid _ from o2)
  clear o1 o2 h1 h2
  by_cases hlen : M.length < L.length
  · have e := HR.out.trans (pre_le hlen)
    subst e
    go_enter Try.func17, Try.ntmps17
    go_wp2
    go_ret
    exact ⟨rfl, Below.refl _ _⟩
  · go_enter Try.func17, Try.ntmps17
    go_wp2
    go_loopw [5] (fun i wr => ∃ k : Nat, i = .int .i64 k ∧ k ≤ L.length ∧ Hid ((∀ a, wr.cell? a = w.cell? a) ∧ L.take k = M.take k) ∧ Below w.heap.size w wr) (fun i _ => L.length - (intOf i).toNat)
    case atStart => exact ⟨0, rfl, Nat.zero_le _, ⟨fun _ => rfl, by simp⟩, Below.refl _ _⟩
    case round =>
      obtain ⟨k, rfl, hk, HT, hbel⟩ := hrel
      by_cases hlt : k < L.length
      · obtain ⟨x, hx⟩ : ∃ x, L[k]? = some x := ⟨_, List.getElem?_eq_getElem hlt⟩
        obtain ⟨y, hy⟩ : ∃ y, M[k]? = some y := ⟨_, List.getElem?_eq_getElem (by omega)⟩
        obtain ⟨g1, rfl, q1⟩ := O1.out k x hx
        obtain ⟨g2, rfl, q2⟩ := O2.out k y hy
        rw [← HT.out.1] at q1 q2
        have HX : Hid (L[k]? = some x ∧ M[k]? = some y) := ⟨hx, hy⟩
        have hlt2 : k < M.length := by omega
        clear hx hy
        go_wp2
        go_region
        all_goals go_wp2
        · have hne : ¬ x = y := by have h : (!x == y) = true := by assumption
                                   simpa using h
          have e := HR.out.trans (pre_ne HX.out.1 HX.out.2 hne)
          subst e
          go_ret
          exact ⟨rfl, hbel.drew⟩
        · have he : x = y := by have h : (!x == y) = false := by assumption
                                simpa using h
          go_roundw
          case rel => exact ⟨k + 1, by go_num, by omega, ⟨HT.out.1, take_eq_snoc HX.out.1 HX.out.2 he HT.out.2⟩, hbel.drew⟩
          case measure => simp [intOf]; omega
      · have e := HR.out.trans (pre_all hlt HT.out.2)
        subst e
        go_wp2
        go_ret
        exact ⟨rfl, hbel⟩

theorem own_below {w w' : World} {B : Nat} {e : TypeId} {size : Nat} {v : Value} {n : Nat} {xs : List Value} (h : w.ownsRow B e size v n xs) (hb : Below w.heap.size w w') : w'.ownsRow B e size v n xs := by
  obtain ⟨h1, h2 | ⟨g, cap, cur, hv, hg, hh, r⟩⟩ := h
  · exact ⟨h1, .inl h2⟩
  · have hlt : g < w.heap.size := by
      rcases Nat.lt_or_ge g w.heap.size with hl | hl
      · exact hl
      · rw [Array.getElem?_eq_none hl] at hh; cases hh
    exact ⟨h1, .inr ⟨g, cap, cur, hv, hg, by rw [hb.block g hlt]; exact hh, r⟩⟩

theorem cutN_hit (s : ByteArray) (k : Nat) (h : k < s.size) (hn : NoNul (s.data.toList.take k)) (hc : s[k] = 0) : s.extract 0 k = ⟨(cutN s.data.toList).toArray⟩ := by
  have e : s.data.toList = s.data.toList.take k ++ 0 :: s.data.toList.drop (k + 1) := by
    have hk : k < s.data.toList.length := by rw [← Lib.size_eq]; exact h
    have h0 : s.data.toList[k] = 0 := hc
    rw [← h0, ← List.drop_eq_getElem_cons hk, List.take_append_drop]
  have e2 : cutN s.data.toList = s.data.toList.take k := by
    conv => lhs; rw [e]
    unfold cutN
    rw [List.takeWhile_append_of_pos (fun c hm => by simpa using hn c hm)]
    simp
  rw [e2, Lib.extract_eq]
  simp

set_option maxHeartbeats 1000000 in
theorem cutNul_any (s : ByteArray) (w : World) (hs : s.size ≤ 1099511627776) :
    Calls Try.prog 18 #[.string s] w fun e w' => e = .returned (.string ⟨(cutN s.data.toList).toArray⟩) ∧ w' = w := by
  obtain ⟨x, hx⟩ : ∃ x : ByteArray, x = ⟨(cutN s.data.toList).toArray⟩ := ⟨_, rfl⟩
  rw [← hx]
  have HX : Hid (x = ⟨(cutN s.data.toList).toArray⟩) := hx
  clear hx
  go_enter Try.func18, Try.ntmps18
  go_wp2
  go_loop [3] (fun i => ∃ k : Nat, k ≤ s.size ∧ i = .int .i64 k ∧ Hid (NoNul (s.data.toList.take k))) (fun i => s.size - (intOf i).toNat)
  case atStart => exact ⟨0, Nat.zero_le _, rfl, by intro c hc; simp at hc⟩
  case round =>
    obtain ⟨k, hk, rfl, hn⟩ := hrel
    by_cases hlt : k < s.size
    · by_cases hz : s[k] = 0
      · have hzb : ((s[k].toNat : Int) == 0) = true := by rw [hz]; rfl
        have hxe : s.extract 0 k = x := (cutN_hit s k hlt hn.out hz).trans HX.out.symm
        clear hz
        go_wp2
        go_ret
        exact ⟨rfl, rfl⟩
      · have hzb : ((s[k].toNat : Int) == 0) = false := by
          rw [beq_eq_false_iff_ne]
          intro e
          have e2 : s[k].toNat = 0 := by omega
          exact hz (UInt8.toNat.inj e2)
        go_wp2
        go_round
        case rel => exact ⟨k + 1, by omega, by go_num, noNul_snoc s k hlt hn.out hz⟩
        case measure => simp [intOf]; omega
    · go_wp2
      go_ret
      have e : s.data.toList.take k = s.data.toList := List.take_of_length_le (by rw [← Lib.size_eq]; omega)
      have hxe : x = s := by rw [HX.out, cutN_id _ (by rw [← e]; exact hn.out), Lib.mk_data]
      rw [hxe]
      exact ⟨rfl, rfl⟩

end Go.Proofs.Qxb6000390a
