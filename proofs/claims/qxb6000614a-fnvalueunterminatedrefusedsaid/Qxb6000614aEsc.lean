import Derived.Test.Qxb6000614aLex
import Derived.Laws.BytesArg
import Derived.Laws.IdiomStrings
namespace Go.Proofs.Qxb6000614a
open Go.RowKit Go.Lib

def LexPost (s : ByteArray) (Z : Option (List UInt8 × List UInt8)) (w : World) (e : Ending) (w' : World) : Prop :=
  ((Z = none ∧ e = .returned (.tuple #[.string ⟨#[]⟩, .bool false, .int .i64 s.size])) ∨
    ∃ v r, ∃ k' : Nat, Z = some (v, r) ∧ e = .returned (.tuple #[.string ⟨v.toArray⟩, .bool true, .int .i64 k']) ∧ k' + r.length = s.size) ∧ Below w.heap.size w w'

theorem lexAt_new (w : World) (s : ByteArray) (k : Nat) : LexAt (w.alloc (.cells #[.string s, .int .i64 k] 48)) w.heap.size s k := by
  refine ⟨by simp, by simp, ?_, ?_⟩ <;> (rw [frozen?_alloc_cells]; simp [World.frozen?])

set_option maxHeartbeats 2000000 in
set_option maxRecDepth 100000 in
theorem zzLex_any (s : ByteArray) (k : Nat) (w : World) (hk : k < s.size) (hc : s[k] = 34) (hs : s.size ≤ 1099511627776) :
    Calls Try.prog 9 #[.string s, .int .i64 k] w (LexPost s (Pl.lex (s.data.toList.drop (k + 1)) []) w) := by
  obtain ⟨Z, hZ⟩ : ∃ Z, Z = Pl.lex (s.data.toList.drop (k + 1)) [] := ⟨_, rfl⟩
  have C := fun b w h hb => value_any b s k w h hb hk hc hs
  rw [← hZ] at C ⊢
  have HC := (show Hid _ from C)
  clear hZ C hc
  go_enter Try.func9, Try.ntmps9
  go_wp2_with fail
  refine (HC.out w.heap.size _ (lexAt_new w s k) (by simp)).mono ?_
  rintro e w1 ⟨k', hat, hbel, ⟨hz, rfl, hk'⟩ | ⟨v, r, hz, rfl, hk'⟩⟩
  · have HZ : Hid (Z = none ∧ k' = s.size) := ⟨hz, hk'⟩
    have hbel' : Below w.heap.size w w1 := ((Below.refl w.heap.size w).alloc (Nat.le_refl _) _).trans hbel
    obtain ⟨c0, c1, f0, f1⟩ := id hat
    clear hz hk' hbel HC hat
    go_wp2_with fail
    go_quiet (fail)
    go_wp2_with fail
    go_ret3
    exact ⟨.inl ⟨HZ.out.1, by rw [← HZ.out.2]; rfl⟩, below_drewN hbel' _⟩
  · have HZ : Hid (Z = some (v, r) ∧ k' + r.length = s.size) := ⟨hz, hk'⟩
    have hbel' : Below w.heap.size w w1 := ((Below.refl w.heap.size w).alloc (Nat.le_refl _) _).trans hbel
    obtain ⟨c0, c1, f0, f1⟩ := id hat
    clear hz hk' hbel HC hat
    go_wp2_with fail
    go_quiet (fail)
    go_wp2_with fail
    go_ret3
    exact ⟨.inr ⟨v, r, k', HZ.out.1, rfl, HZ.out.2⟩, below_drewN hbel' _⟩

theorem own_byte {w : World} {B : Nat} {v : Value} {l : List UInt8} {c : UInt8} (h : w.ownsRow B 5 1 v (l.length + 1) (Lib.byteCells l ++ [.int .u8 (c.toNat : Int)])) : w.ownsRow B 5 1 v (l ++ [c]).length (Lib.byteCells (l ++ [c])) := by
  rw [← builder_cells, List.length_append]
  exact h

set_option maxHeartbeats 4000000 in
set_option maxRecDepth 100000 in
/-- zzAppendEscaped onto a row of the caller's own. -/
theorem esc_any (B : Nat) (v : Value) (l : List UInt8) (x : ByteArray) (w : World) (h : w.ownsRow B 5 1 v l.length (Lib.byteCells l)) (hBw : B ≤ w.heap.size) (hl : l.length ≤ 1099511627776) (hx : x.size ≤ 1099511627776) :
    Calls Try.prog 8 #[v, .string x] w fun e w' => ∃ v', e = .returned v' ∧ w'.ownsRow B 5 1 v' (l ++ Pl.esc x.data.toList).length (Lib.byteCells (l ++ Pl.esc x.data.toList)) ∧ Below B w w' := by
  obtain ⟨i0, hi, hz0, hz1, hz2⟩ := info_parts infoByte
  obtain ⟨E, hE⟩ : ∃ E, E = l ++ Pl.esc x.data.toList := ⟨_, rfl⟩
  rw [← hE]
  have HE : Hid (E = l ++ Pl.esc x.data.toList) := hE
  clear hE
  go_enter Try.func8, Try.ntmps8
  go_wp2
  go_loopg [0, 5] x.size (fun n t i wr => ∃ (k : Nat) (m : List UInt8), n + k = x.size ∧ i = .int .i64 k ∧ wr.ownsRow B 5 1 t m.length (Lib.byteCells m) ∧ Below B w wr ∧ Hid (m = l ++ Pl.esc (x.data.toList.take k)))
  case atStart => exact ⟨0, l, rfl, rfl, h, Below.refl _ _, by show _ = _; simp [Pl.esc]⟩
  case round =>
    clear h
    obtain ⟨k, m, hn, rfl, hown, hbel, HM⟩ := hrel
    have hB := hbel.size
    have hml : m.length ≤ 3298534883328 := by
      rw [HM.out, List.length_append]
      have h1 := Pl.esc_length (x.data.toList.take k)
      have h2 : (x.data.toList.take k).length ≤ x.size := by rw [List.length_take, Lib.size_eq]; omega
      omega
    by_cases hlt : k < x.size
    · have htk : x.data.toList.take (k + 1) = x.data.toList.take k ++ [x[k]] := by
        rw [List.take_succ_eq_append_getElem (by rw [← Lib.size_eq]; exact hlt)]; rfl
      by_cases hq : x[k] = 34 ∨ x[k] = 92
      · obtain ⟨m1, hm1⟩ : ∃ m1, m1 = m ++ [92] := ⟨_, rfl⟩
        have HM1 : Hid (m1 = m ++ [92]) := hm1
        clear hm1
        have hml1 : m1.length ≤ 3298534883329 := by rw [HM1.out, List.length_append]; simp; omega
        have HM2 : Hid (m1 ++ [x[k]] = l ++ Pl.esc (x.data.toList.take (k + 1))) := by
          show _ = _
          rw [HM1.out, htk, Pl.esc_snoc, if_pos hq, HM.out, List.append_assoc, List.append_assoc]; rfl
        have HQ : Hid (x[k] = 34 ∨ x[k] = 92) := hq
        clear hq htk HM
        have hb : ((x[k].toNat : Int) == 34) = true ∨ (((x[k].toNat : Int) == 34) = false ∧ ((x[k].toNat : Int) == 92) = true) := by
          rcases HQ.out with e | e
          · left; rw [e]; rfl
          · right; rw [e]; exact ⟨rfl, rfl⟩
        rcases hb with e34 | ⟨e34, e92⟩
        all_goals
          go_wp2_with (at_builtin; refine wpList_append_own _ rfl (.tmp 22) (.tmp 23) 23 rfl B 5 i0 (.int .u8 0) 1 1 Try.underlying23 hi hz0 hz1 hz2 rfl (by decide) _ _ _ rfl (hown.alloc _) ⟨wr.heap.size, 0, none⟩ 1 1 [.int .u8 92] rfl rfl (byte_new _ _ _) (byte_cell _) (by unfold maxLen; omega) (by omega) (by simp; omega) ?_)
          intro v1 w1 hown1 hgrow1 _
          have hbel1 : Below B w w1 := (hbel.alloc (by omega) _).grown hgrow1 (by simp; omega) (fun k hk => (hown.lt k hk).1)
          have hown1' : w1.ownsRow B 5 1 v1 m1.length (Lib.byteCells m1) := by rw [HM1.out]; exact own_byte (c := 92) hown1
          have hB1 := hbel1.size
          clear hown1 hgrow1 hown hbel
          go_wp2_with (at_builtin; refine wpList_append_own _ rfl (.tmp 25) (.tmp 27) 23 rfl B 5 i0 (.int .u8 0) 1 1 Try.underlying23 hi hz0 hz1 hz2 rfl (by decide) _ _ _ rfl (hown1'.alloc _) ⟨w1.heap.size, 0, none⟩ 1 1 [.int .u8 (x[k].toNat : Int)] rfl rfl (byte_new _ _ _) (byte_cell _) (by unfold maxLen; omega) (by omega) (by simp; omega) ?_)
          intro v' w2 hown' hgrow _
          have hbel' : Below B w w2 := (hbel1.alloc (by omega) _).grown hgrow (by simp; omega) (fun k hk => (hown1'.lt k hk).1)
          have hown2 := own_byte hown'
          clear hown' hgrow hown1' hbel1
          go_wp2_with fail
          go_roundg (gk - 1)
          case measure => omega
          case rel => exact ⟨k + 1, _, by omega, by go_num, hown2, hbel', HM2⟩
      · have HM2 : Hid (m ++ [x[k]] = l ++ Pl.esc (x.data.toList.take (k + 1))) := by
          show _ = _
          rw [htk, Pl.esc_snoc, if_neg hq, HM.out, List.append_assoc]
        have e34 : ((x[k].toNat : Int) == 34) = false := by
          rw [beq_eq_false_iff_ne]; intro e
          have e2 : x[k].toNat = 34 := by omega
          exact hq (.inl (UInt8.toNat.inj e2))
        have e92 : ((x[k].toNat : Int) == 92) = false := by
          rw [beq_eq_false_iff_ne]; intro e
          have e2 : x[k].toNat = 92 := by omega
          exact hq (.inr (UInt8.toNat.inj e2))
        clear hq htk HM
        go_wp2_with (at_builtin; refine wpList_append_own _ rfl (.tmp 25) (.tmp 27) 23 rfl B 5 i0 (.int .u8 0) 1 1 Try.underlying23 hi hz0 hz1 hz2 rfl (by decide) _ _ _ rfl (hown.alloc _) ⟨wr.heap.size, 0, none⟩ 1 1 [.int .u8 (x[k].toNat : Int)] rfl rfl (byte_new _ _ _) (byte_cell _) (by unfold maxLen; omega) (by omega) (by simp; omega) ?_)
        intro v' w1 hown' hgrow _
        have hbel' : Below B w w1 := (hbel.alloc (by omega) _).grown hgrow (by simp; omega) (fun k hk => (hown.lt k hk).1)
        have hown2 := own_byte hown'
        clear hown' hgrow hown hbel
        go_wp2_with fail
        go_roundg (gk - 1)
        case measure => omega
        case rel => exact ⟨k + 1, _, by omega, by go_num, hown2, hbel', HM2⟩
    · go_wp2_with fail
      go_ret
      have e : x.data.toList.take k = x.data.toList := List.take_of_length_le (by rw [← Lib.size_eq]; omega)
      have hm : m = E := by rw [HM.out, HE.out, e]
      refine ⟨_, rfl, ?_, hbel⟩
      rw [← hm]
      exact hown

set_option maxHeartbeats 1000000 in
theorem bytes7_any (a b c : ByteArray) (w : World) (ha : a.size ≤ maxLen) (hb : b.size ≤ maxLen) (hc : c.size ≤ maxLen) :
    Calls Try.prog 7 #[.string a, .string b, .string c] w fun e w' => (e = .returned (.bool true) ∨ e = .returned (.bool false)) ∧ w' = w := by
  unfold maxLen at ha hb hc
  go_enter Try.func7, Try.ntmps7
  go_wp2
  all_goals (go_ret; first | exact ⟨.inl rfl, rfl⟩ | exact ⟨.inr rfl, rfl⟩)

set_option maxHeartbeats 1000000 in
theorem bytes10_any (a b : ByteArray) (c : Bool) (w : World) (ha : a.size ≤ maxLen) (hb : b.size ≤ maxLen) :
    Calls Try.prog 10 #[.string a, .string b, .bool c] w fun e w' => (e = .returned (.bool true) ∨ e = .returned (.bool false)) ∧ w' = w := by
  unfold maxLen at ha hb
  go_enter Try.func10, Try.ntmps10
  go_wp2
  all_goals (go_ret; first | exact ⟨.inl rfl, rfl⟩ | exact ⟨.inr rfl, rfl⟩)

/-- 'string(b)' of a row of the call's own. -/
theorem str_of {w : World} {B : Nat} {v : Value} {l : List UInt8} (h : w.ownsRow B 5 1 v l.length (Lib.byteCells l)) : (convert 23 9 v).run Try.prog w = .ok (.string ⟨l.toArray⟩) w := by
  obtain ⟨_, ⟨rfl, hn⟩ | ⟨g, cap, cur, rfl, hg, hh, hle, hcap, hsz, htk⟩⟩ := id h
  · have : l = [] := List.length_eq_zero_iff.1 hn
    subst this
    exact run_convert_bytes_nil w 23 5 Try.underlying23 Try.underlying5 0 0 9 Try.underlying9
  · refine run_convert_bytes_back w 23 9 5 ⟨g, 0, none⟩ cap l Try.underlying23 Try.underlying5 Try.underlying9 ?_
    intro j hj
    have := h.cells (g := g) rfl j (.int .u8 (l[j].toNat : Int)) (by simp [Lib.byteCells, List.getElem?_eq_getElem hj])
    exact this

end Go.Proofs.Qxb6000614a
