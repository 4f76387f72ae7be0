import Derived.Test.Qxb6000390aSeg
namespace Go.Proofs.Qxb6000390a
open Go.RowKit Go.Lib

theorem segAt_new (w : World) (p : ByteArray) : SegAt (w.alloc (.cells #[.string p, .int .i64 0] 34)) w.heap.size p 0 := by
  refine ⟨by simp, by simp, ?_, ?_⟩ <;> (rw [frozen?_alloc_cells]; simp [World.frozen?])

/-- The count's book. -/
def CountAt (T n m : Nat) (L : List (List UInt8)) (ok : Bool) : Prop := m + n = T ∧ n = if ok then L.length + 1 else 0

theorem countAt_start {T : Nat} {L L' : List (List UInt8)} {ok : Bool} {seg : List UInt8} (hT : T = L.length) (h : Out L ok seg L') : ∃ n, CountAt T n 0 L' ok := by
  rcases h with ⟨h1, h2, _, _⟩ | ⟨h1, h2⟩
  · subst h1; subst h2; exact ⟨0, by simp [CountAt, hT]⟩
  · subst h1; subst h2; exact ⟨L'.length + 1, by simp [CountAt, hT]⟩

theorem countAt_next {T n m : Nat} {L L' : List (List UInt8)} {ok : Bool} {seg : List UInt8} (h0 : CountAt T n m L true) (h : Out L ok seg L') : ∃ n', n' < n ∧ CountAt T n' (m + 1) L' ok := by
  obtain ⟨h3, h4⟩ := h0
  rw [if_pos rfl] at h4
  rcases h with ⟨h1, h2, _, _⟩ | ⟨h1, h2⟩
  · subst h1; subst h2; exact ⟨0, by omega, by simp [CountAt]; simp at h4; omega⟩
  · subst h1; subst h2; exact ⟨L'.length + 1, by simp at h4; omega, by simp [CountAt]; simp at h4; omega⟩

set_option maxHeartbeats 1000000 in
set_option maxRecDepth 100000 in
theorem count_any (p : ByteArray) (w : World) (hp : p.size ≤ 1099511627776) :
    Calls Try.prog 24 #[.string p] w fun e w' => e = .returned (.int .i64 (Pl.norm p.data.toList).length) ∧ Below w.heap.size w w' := by
  obtain ⟨T, hT⟩ : ∃ T, T = (Pl.norm p.data.toList).length := ⟨_, rfl⟩
  have hTb : T ≤ p.size + 1 := by rw [hT, Lib.size_eq]; exact Pl.norm_length _
  rw [← hT]
  have HT : Hid (T = (Pl.lst p.data.toList 0).length) := by show _ = _; rw [hT, Pl.lst_zero, List.length_reverse]
  clear hT
  go_enter Try.func24, Try.ntmps24
  go_wp2_with fail
  refine (next_any w.heap.size p 0 _ (segAt_new w p) (by omega)).mono ?_
  rintro e w1 ⟨seg, s', k', ok, rfl, hat, ho, hle, hout⟩
  obtain ⟨n0, HB⟩ := countAt_start HT.out hout
  have hbel : Below w.heap.size w w1 := ((Below.refl _ _).alloc (Nat.le_refl _) _).trans (ho.below (Nat.le_refl _))
  have HB' : Hid (CountAt T n0 0 (Pl.lst s'.data.toList k') ok) := HB
  clear HB hout HT ho
  go_wp2_with fail
  go_loopg [4, 6] n0 (fun n t4 t6 wr => ∃ (s1 : ByteArray) (k1 m : Nat) (ok1 : Bool), t4 = .int .i64 m ∧ t6 = .bool ok1 ∧ SegAt wr w.heap.size s1 k1 ∧ Below w.heap.size w wr ∧ s1.size + k1 ≤ p.size ∧ Hid (CountAt T n m (Pl.lst s1.data.toList k1) ok1))
  case atStart => exact ⟨s', k', 0, ok, rfl, rfl, hat, hbel, hle, HB'⟩
  case round =>
    clear hbel HB' hat hle
    obtain ⟨s1, k1, m, ok1, rfl, rfl, hat1, hbel1, hle1, HB1⟩ := hrel
    have hm : m ≤ T := by have := HB1.out.1; omega
    cases ok1
    · have he : m = T := by have h := HB1.out; unfold CountAt at h; simp at h; omega
      clear HB1
      go_wp2_with fail
      go_ret
      exact ⟨by rw [← he]; rfl, hbel1⟩
    · go_wp2_with fail
      refine (next_any w.heap.size s1 k1 _ hat1 (by omega)).mono ?_
      rintro e w2 ⟨seg2, s2, k2, ok2, rfl, hat2, ho2, hle2, hout2⟩
      obtain ⟨n', hn', HB2⟩ := countAt_next HB1.out hout2
      have HB2' : Hid (CountAt T n' (m + 1) (Pl.lst s2.data.toList k2) ok2) := HB2
      clear HB2 hout2 HB1
      go_wp2_with fail
      go_roundg n'
      case measure => exact hn'
      case rel => exact ⟨s2, k2, m + 1, ok2, by go_num, rfl, hat2, hbel1.trans (ho2.below (Nat.le_refl _)), by omega, HB2'⟩

def cutN (l : List UInt8) : List UInt8 := l.takeWhile (fun c => c != 0)

def underB (v b : List UInt8) : Bool := (Pl.norm b).isPrefixOf (Pl.norm (cutN v))

theorem cutN_yes (l : List UInt8) : 0 ≤ Lib.indexByte l 0 → l.take (Lib.indexByte l 0).toNat = cutN l := by
  induction l with
  | nil => intro h; simp [cutN]
  | cons c l ih =>
    intro h
    unfold Lib.indexByte at h ⊢
    by_cases hc : c = 0
    · subst hc; simp [cutN]
    · have hc' : (c == 0) = false := by simpa using hc
      rw [hc'] at h ⊢
      simp only [Bool.false_eq_true, if_false] at h ⊢
      have hg := Lib.indexByte_ge l 0
      by_cases hm : Lib.indexByte l 0 = -1
      · rw [hm] at h; simp at h
      · have hb : (Lib.indexByte l 0 == -1) = false := by simpa using hm
        rw [hb] at h ⊢
        simp only [Bool.false_eq_true, if_false] at h ⊢
        have e : (Lib.indexByte l 0 + 1).toNat = (Lib.indexByte l 0).toNat + 1 := by omega
        rw [e, List.take_succ_cons, ih (by omega)]
        simp [cutN, hc]

theorem cutN_no (l : List UInt8) : ¬ 0 ≤ Lib.indexByte l 0 → l = cutN l := by
  induction l with
  | nil => intro h; simp [cutN]
  | cons c l ih =>
    intro h
    unfold Lib.indexByte at h
    by_cases hc : c = 0
    · subst hc; simp at h
    · have hc' : (c == 0) = false := by simpa using hc
      rw [hc'] at h
      simp only [Bool.false_eq_true, if_false] at h
      have hg := Lib.indexByte_ge l 0
      have hm : Lib.indexByte l 0 = -1 := by
        by_cases hm : Lib.indexByte l 0 = -1
        · exact hm
        · have hb : (Lib.indexByte l 0 == -1) = false := by simpa using hm
          rw [hb] at h
          simp only [Bool.false_eq_true, if_false] at h
          omega
      have := ih (by omega)
      unfold cutN at this ⊢
      rw [List.takeWhile_cons, if_pos (by simpa using hc), ← this]

theorem indexByte_le (l : List UInt8) (c : UInt8) : Lib.indexByte l c ≤ l.length := by
  induction l with
  | nil => simp [Lib.indexByte]
  | cons b l ih =>
    unfold Lib.indexByte
    split
    · simp; omega
    · split
      · simp; omega
      · simp; omega

theorem cutN_bytes (v : ByteArray) (i : Int) (hi : i = Lib.indexByte v.data.toList 0) : (if 0 ≤ i then v.extract 0 i.toNat else v).data.toList = cutN v.data.toList := by
  subst hi
  split
  · rename_i h
    rw [Lib.extract_data, ← cutN_yes _ h]; simp
  · rename_i h
    exact cutN_no _ h

theorem cutN_len (l : List UInt8) : (cutN l).length ≤ l.length := (List.takeWhile_sublist _).length_le

theorem under_lists (v b : List UInt8) (nv nb : Nat) (hv : nv = (Pl.norm (cutN v)).length) (hb : nb = (Pl.norm b).length) :
    underB v b = decide ((Pl.lst (cutN v) 0).drop (nv - nb) = Pl.lst b 0) := by
  rw [Pl.lst_zero, Pl.lst_zero, underB, Bool.eq_iff_iff, List.isPrefixOf_iff_prefix, decide_eq_true_iff, List.prefix_iff_eq_take, ← hb, hv]
  have e : (Pl.norm (cutN v)).reverse.drop ((Pl.norm (cutN v)).length - nb) = ((Pl.norm (cutN v)).take nb).reverse := by
    rw [List.reverse_take]
  rw [e, List.reverse_inj]
  exact eq_comm

theorem under_short (v b : List UInt8) (nv nb : Nat) (hv : nv = (Pl.norm (cutN v)).length) (hb : nb = (Pl.norm b).length) (h : nv < nb) : underB v b = false := by
  rw [Bool.eq_false_iff]
  intro hh
  rw [underB, List.isPrefixOf_iff_prefix] at hh
  have := hh.length_le
  omega

theorem seg_fst (w : World) (p q : ByteArray) : SegAt ((w.alloc (.cells #[.string p, .int .i64 0] 34)).alloc (.cells #[.string q, .int .i64 0] 34)) w.heap.size p 0 := by
  obtain ⟨h1, h2, h3, h4⟩ := segAt_new w p
  refine ⟨?_, ?_, ?_, ?_⟩
  · rw [World.cell?_alloc_old _ _ _ (by simp)]; exact h1
  · rw [World.cell?_alloc_old _ _ _ (by simp)]; exact h2
  · rw [frozen?_alloc_cells]; exact h3
  · rw [frozen?_alloc_cells]; exact h4

theorem seg_snd (w : World) (p q : ByteArray) : SegAt ((w.alloc (.cells #[.string p, .int .i64 0] 34)).alloc (.cells #[.string q, .int .i64 0] 34)) (w.heap.size + 1) q 0 := by
  have h := segAt_new (w.alloc (.cells #[.string p, .int .i64 0] 34)) q
  have e : (w.alloc (.cells #[.string p, .int .i64 0] 34)).heap.size = w.heap.size + 1 := by simp
  rw [e] at h
  exact h

theorem below_two (w : World) (o1 o2 : Obj) : Below w.heap.size w ((w.alloc o1).alloc o2) :=
  ((Below.refl _ _).alloc (Nat.le_refl _) _).alloc (by simp) _

theorem bytes_ne {x y : ByteArray} (h : (!x.toList == y.toList) = true) : ¬ x.data.toList = y.data.toList := by
  rw [Lib.toList_data, Lib.toList_data] at h
  simpa using h

theorem bytes_eq {x y : ByteArray} (h : (!x.toList == y.toList) = false) : x.data.toList = y.data.toList := by
  rw [Lib.toList_data, Lib.toList_data] at h
  simpa using h

/-- The second loop's book. -/
def Pair (R : Bool) (n : Nat) (L M : List (List UInt8)) : Prop := n = M.length ∧ L.length = n ∧ R = decide (L = M)

theorem out_drop {L L' : List (List UInt8)} {ok : Bool} {seg : List UInt8} (h : Out L ok seg L') : L' = L.drop 1 := by
  rcases h with ⟨h1, _, _, h4⟩ | ⟨_, h2⟩
  · simp [h1, h4]
  · simp [h2]

theorem pair_end {R : Bool} {n : Nat} {L M : List (List UInt8)} (h : Pair R n L M) (hM : M = []) : R = true := by
  obtain ⟨h1, h2, h3⟩ := h
  subst hM
  simp at h1
  subst h1
  have : L = [] := List.length_eq_zero_iff.1 h2
  simp [h3, this]

theorem pair_cons {R : Bool} {n : Nat} {L L' M' : List (List UInt8)} {x y : List UInt8} {ok : Bool} (h : Pair R n L (x :: M')) (ho : Out L ok y L') :
    ok = true ∧ L = y :: L' := by
  obtain ⟨h1, h2, h3⟩ := h
  rcases ho with ⟨h4, _⟩ | ⟨h4, h5⟩
  · subst h4; simp at h2; simp at h1; omega
  · exact ⟨h4, h5⟩

theorem pair_ne {R : Bool} {n : Nat} {L' M' : List (List UInt8)} {x y : List UInt8} (h : Pair R n (y :: L') (x :: M')) (hne : ¬ y = x) : R = false := by
  rw [h.2.2]
  simp [hne]

theorem pair_eq {R : Bool} {n : Nat} {L' M' : List (List UInt8)} {x y : List UInt8} (h : Pair R n (y :: L') (x :: M')) (he : y = x) : M'.length < n ∧ Pair R M'.length L' M' := by
  obtain ⟨h1, h2, h3⟩ := h
  subst he
  simp at h1 h2 h3
  exact ⟨by omega, rfl, by omega, h3⟩

set_option maxHeartbeats 2000000 in
set_option maxRecDepth 100000 in
/-- Behind the cut at NUL. -/
theorem under_any (v b : ByteArray) (w : World) (hv : v.size ≤ 1099511627776) (hb : b.size ≤ 1099511627776) :
    Calls Try.prog 26 #[.string v, .string b] w fun e w' => e = .returned (.bool (underB v.data.toList b.data.toList)) ∧ Below w.heap.size w w' := by
  obtain ⟨i, hi⟩ : ∃ i : Int, i = Lib.indexByte v.data.toList (0 : Int).toNat.toUInt8 := ⟨_, rfl⟩
  have hc : ∀ w, Calls Try.prog 28 #[.string v, .int .u8 0] w fun e w' => e = .returned (.int .i64 i) ∧ w' = w := fun w => by rw [hi]; exact str_indexByte v 0 w
  have HC := (show Hid _ from hc)
  obtain ⟨R, hR⟩ : ∃ R, R = underB v.data.toList b.data.toList := ⟨_, rfl⟩
  rw [← hR]
  obtain ⟨x, hx, hxs⟩ : ∃ x : ByteArray, x.data.toList = cutN v.data.toList ∧ x = if 0 ≤ i then v.extract 0 i.toNat else v := ⟨_, cutN_bytes v i hi, rfl⟩
  obtain ⟨nv, hnv⟩ : ∃ n : Nat, n = (Pl.norm x.data.toList).length := ⟨_, rfl⟩
  obtain ⟨nb, hnb⟩ : ∃ n : Nat, n = (Pl.norm b.data.toList).length := ⟨_, rfl⟩
  have hxz : x.size ≤ v.size := by rw [Lib.size_eq, Lib.size_eq, hx]; exact cutN_len _
  have hvz : i ≤ v.size := by rw [hi, Lib.size_eq]; exact indexByte_le _ _
  have hnv1 : nv ≤ 1099511627777 := by have := Pl.norm_length x.data.toList; rw [← Lib.size_eq, ← hnv] at this; omega
  have hnb1 : nb ≤ 1099511627777 := by have := Pl.norm_length b.data.toList; rw [← Lib.size_eq, ← hnb] at this; omega
  have hv1 : ∀ w, Calls Try.prog 24 #[.string x] w fun e w' => e = .returned (.int .i64 nv) ∧ Below w.heap.size w w' := fun w => by rw [hnv]; exact count_any x w (by omega)
  have hb1 : ∀ w, Calls Try.prog 24 #[.string b] w fun e w' => e = .returned (.int .i64 nb) ∧ Below w.heap.size w w' := fun w => by rw [hnb]; exact count_any b w (by omega)
  have HV := (show Hid _ from hv1)
  have HB := (show Hid _ from hb1)
  by_cases hd : nv < nb
  · have hRf : R = false := by rw [hR]; exact under_short _ _ nv nb (by rw [hnv, hx]) hnb hd
    subst hRf
    have HXS := (show Hid _ from hxs)
    clear hc hi hv1 hb1 hnv hnb hx hR hxs
    by_cases hi0 : 0 ≤ i
    · have hxe : v.extract 0 i.toNat = x := by rw [HXS.out, if_pos hi0]
      go_enter Try.func26, Try.ntmps26
      go_wp2_with fail
      refine (HC.out _).mono ?_
      rintro e w' ⟨rfl, rfl⟩
      go_wp2_with fail
      refine (HV.out _).mono ?_
      rintro e w1 ⟨rfl, hb1⟩
      go_wp2_with fail
      refine (HB.out _).mono ?_
      rintro e w2 ⟨rfl, hb2⟩
      go_wp2_with fail
      go_ret
      exact ⟨rfl, hb1.trans (hb2.mono hb1.size)⟩
    · have hxe : x = v := by rw [HXS.out, if_neg hi0]
      subst hxe
      go_enter Try.func26, Try.ntmps26
      go_wp2_with fail
      refine (HC.out _).mono ?_
      rintro e w' ⟨rfl, rfl⟩
      go_wp2_with fail
      refine (HV.out _).mono ?_
      rintro e w1 ⟨rfl, hb1⟩
      go_wp2_with fail
      refine (HB.out _).mono ?_
      rintro e w2 ⟨rfl, hb2⟩
      go_wp2_with fail
      go_ret
      exact ⟨rfl, hb1.trans (hb2.mono hb1.size)⟩
  · have hL := under_lists v.data.toList b.data.toList nv nb (by rw [hnv, hx]) hnb
    rw [← hR, ← hx] at hL
    have HL : Hid (nv = (Pl.lst x.data.toList 0).length ∧ nb = (Pl.lst b.data.toList 0).length ∧ R = decide ((Pl.lst x.data.toList 0).drop (nv - nb) = Pl.lst b.data.toList 0)) := by
      refine ⟨?_, ?_, hL⟩
      · rw [hnv, Pl.lst_zero, List.length_reverse]
      · rw [hnb, Pl.lst_zero, List.length_reverse]
    have HXS := (show Hid _ from hxs)
    clear hc hi hv1 hb1 hnv hnb hx hR hxs hL
    by_cases hi0 : 0 ≤ i
    · have hxe : v.extract 0 i.toNat = x := by rw [HXS.out, if_pos hi0]
      go_enter Try.func26, Try.ntmps26
      go_wp2_with fail
      refine (HC.out _).mono ?_
      rintro e w' ⟨rfl, rfl⟩
      go_wp2_with fail
      refine (HV.out _).mono ?_
      rintro e w1 ⟨rfl, hb1⟩
      go_wp2_with fail
      refine (HB.out _).mono ?_
      rintro e w2 ⟨rfl, hb2⟩
      have hb12 := hb1.trans (hb2.mono hb1.size)
      clear hxe HXS HC HV HB hb1 hb2
      go_wp2_with fail
      go_loopg [32] (nv - nb) (fun n t wr => ∃ (s1 : ByteArray) (k1 j : Nat), t = .int .i64 j ∧ j + n = nv - nb ∧ SegAt wr w2.heap.size s1 k1 ∧ SegAt wr (w2.heap.size + 1) b 0 ∧ Below w2.heap.size w2 wr ∧ s1.size + k1 ≤ x.size ∧ Hid (Pl.lst s1.data.toList k1 = (Pl.lst x.data.toList 0).drop j))
      case atStart => exact ⟨_, 0, 0, rfl, by omega, seg_fst w2 _ _, seg_snd w2 _ _, below_two w2 _ _, Nat.le_refl _, rfl⟩
      case round =>
        obtain ⟨s1, k1, j, rfl, hj, hat1, hat2, hbel, hsz, HD⟩ := hrel
        by_cases hjn : j + nb < nv
        · have hjt : (j : Int) < (nv : Int) - nb := by omega
          go_wp2_with fail
          refine (next_any w2.heap.size s1 k1 _ hat1 (by omega)).mono ?_
          rintro e w3 ⟨seg2, s2, k2, ok2, rfl, hat3, ho2, hle2, hout2⟩
          have HD2 : Hid (Pl.lst s2.data.toList k2 = (Pl.lst x.data.toList 0).drop (j + 1)) := by
            show _ = _
            rw [out_drop hout2, HD.out, List.drop_drop]
          clear HD hout2
          go_wp2_with fail
          go_roundg (gk - 1)
          case measure => omega
          case rel => exact ⟨s2, k2, j + 1, by go_num, by omega, hat3, hat2.other ho2 (by omega), hbel.trans (ho2.below (Nat.le_refl _)), by omega, HD2⟩
        · have hjt : ¬ (j : Int) < (nv : Int) - nb := by omega
          have hjd : j = nv - nb := by omega
          have HP : Hid (Pair R nb (Pl.lst s1.data.toList k1) (Pl.lst b.data.toList 0)) := by
            obtain ⟨h1, h2, h3⟩ := HL.out
            refine ⟨h2, ?_, ?_⟩
            · rw [HD.out, List.length_drop]; omega
            · rw [h3, HD.out, hjd]
          clear HL HD hjd
          go_wp2_with fail
          go_loopg [] nb (fun n wr => ∃ (s1 : ByteArray) (k1 : Nat) (s2 : ByteArray) (k2 : Nat), SegAt wr w2.heap.size s1 k1 ∧ SegAt wr (w2.heap.size + 1) s2 k2 ∧ Below w2.heap.size w2 wr ∧ s1.size + k1 ≤ x.size ∧ s2.size + k2 ≤ b.size ∧ Hid (Pair R n (Pl.lst s1.data.toList k1) (Pl.lst s2.data.toList k2)))
          case atStart => exact ⟨s1, k1, b, 0, hat1, hat2, hbel, hsz, Nat.le_refl _, HP⟩
          case round =>
            clear HP hat1 hat2 hbel hsz
            obtain ⟨t1, l1, t2, l2, hat1, hat2, hbel, hz1, hz2, HP⟩ := hrel
            go_wp2_with fail
            refine (next_any (w2.heap.size + 1) t2 l2 _ hat2 (by omega)).mono ?_
            rintro e w3 ⟨want, t3, l3, ok3, rfl, hat3, ho3, hle3, hout3⟩
            rcases hout3 with ⟨he, rfl, _, _⟩ | ⟨rfl, he⟩
            · have hRt := pair_end HP.out he
              clear HP he
              subst hRt
              go_wp2_with fail
              go_ret
              exact ⟨rfl, hb12.trans ((hbel.trans (ho3.below (Nat.le_succ _))).mono hb12.size)⟩
            · have HE := (show Hid _ from he)
              clear he
              go_wp2_with fail
              refine (next_any w2.heap.size t1 l1 _ (hat1.other ho3 (by omega)) (by omega)).mono ?_
              rintro e w4 ⟨got, t4, l4, ok4, rfl, hat4, ho4, hle4, hout4⟩
              have HP' := HP.out
              rw [HE.out] at HP'
              obtain ⟨rfl, he4⟩ := pair_cons HP' hout4
              rw [he4] at HP'
              have HQ := (show Hid _ from HP')
              clear HP HP' HE he4 hout4
              go_wp2_with fail
              · have hRf := pair_ne HQ.out (bytes_ne (by assumption))
                subst hRf
                go_ret
                exact ⟨rfl, hb12.trans (((hbel.trans (ho3.below (Nat.le_succ _))).trans (ho4.below (Nat.le_refl _))).mono hb12.size)⟩
              · obtain ⟨hlt, hpp⟩ := pair_eq HQ.out (bytes_eq (by assumption))
                go_roundg (Pl.lst t3.data.toList l3).length
                case measure => exact hlt
                case rel => exact ⟨t4, l4, t3, l3, hat4, hat3.other ho4 (by omega), (hbel.trans (ho3.below (Nat.le_succ _))).trans (ho4.below (Nat.le_refl _)), by omega, by omega, hpp⟩
    · have hxe : x = v := by rw [HXS.out, if_neg hi0]
      subst hxe
      go_enter Try.func26, Try.ntmps26
      go_wp2_with fail
      refine (HC.out _).mono ?_
      rintro e w' ⟨rfl, rfl⟩
      go_wp2_with fail
      refine (HV.out _).mono ?_
      rintro e w1 ⟨rfl, hb1⟩
      go_wp2_with fail
      refine (HB.out _).mono ?_
      rintro e w2 ⟨rfl, hb2⟩
      have hb12 := hb1.trans (hb2.mono hb1.size)
      clear HXS HC HV HB hb1 hb2
      go_wp2_with fail
      go_loopg [32] (nv - nb) (fun n t wr => ∃ (s1 : ByteArray) (k1 j : Nat), t = .int .i64 j ∧ j + n = nv - nb ∧ SegAt wr w2.heap.size s1 k1 ∧ SegAt wr (w2.heap.size + 1) b 0 ∧ Below w2.heap.size w2 wr ∧ s1.size + k1 ≤ x.size ∧ Hid (Pl.lst s1.data.toList k1 = (Pl.lst x.data.toList 0).drop j))
      case atStart => exact ⟨_, 0, 0, rfl, by omega, seg_fst w2 _ _, seg_snd w2 _ _, below_two w2 _ _, Nat.le_refl _, rfl⟩
      case round =>
        obtain ⟨s1, k1, j, rfl, hj, hat1, hat2, hbel, hsz, HD⟩ := hrel
        by_cases hjn : j + nb < nv
        · have hjt : (j : Int) < (nv : Int) - nb := by omega
          go_wp2_with fail
          refine (next_any w2.heap.size s1 k1 _ hat1 (by omega)).mono ?_
          rintro e w3 ⟨seg2, s2, k2, ok2, rfl, hat3, ho2, hle2, hout2⟩
          have HD2 : Hid (Pl.lst s2.data.toList k2 = (Pl.lst x.data.toList 0).drop (j + 1)) := by
            show _ = _
            rw [out_drop hout2, HD.out, List.drop_drop]
          clear HD hout2
          go_wp2_with fail
          go_roundg (gk - 1)
          case measure => omega
          case rel => exact ⟨s2, k2, j + 1, by go_num, by omega, hat3, hat2.other ho2 (by omega), hbel.trans (ho2.below (Nat.le_refl _)), by omega, HD2⟩
        · have hjt : ¬ (j : Int) < (nv : Int) - nb := by omega
          have hjd : j = nv - nb := by omega
          have HP : Hid (Pair R nb (Pl.lst s1.data.toList k1) (Pl.lst b.data.toList 0)) := by
            obtain ⟨h1, h2, h3⟩ := HL.out
            refine ⟨h2, ?_, ?_⟩
            · rw [HD.out, List.length_drop]; omega
            · rw [h3, HD.out, hjd]
          clear HL HD hjd
          go_wp2_with fail
          go_loopg [] nb (fun n wr => ∃ (s1 : ByteArray) (k1 : Nat) (s2 : ByteArray) (k2 : Nat), SegAt wr w2.heap.size s1 k1 ∧ SegAt wr (w2.heap.size + 1) s2 k2 ∧ Below w2.heap.size w2 wr ∧ s1.size + k1 ≤ x.size ∧ s2.size + k2 ≤ b.size ∧ Hid (Pair R n (Pl.lst s1.data.toList k1) (Pl.lst s2.data.toList k2)))
          case atStart => exact ⟨s1, k1, b, 0, hat1, hat2, hbel, hsz, Nat.le_refl _, HP⟩
          case round =>
            clear HP hat1 hat2 hbel hsz
            obtain ⟨t1, l1, t2, l2, hat1, hat2, hbel, hz1, hz2, HP⟩ := hrel
            go_wp2_with fail
            refine (next_any (w2.heap.size + 1) t2 l2 _ hat2 (by omega)).mono ?_
            rintro e w3 ⟨want, t3, l3, ok3, rfl, hat3, ho3, hle3, hout3⟩
            rcases hout3 with ⟨he, rfl, _, _⟩ | ⟨rfl, he⟩
            · have hRt := pair_end HP.out he
              clear HP he
              subst hRt
              go_wp2_with fail
              go_ret
              exact ⟨rfl, hb12.trans ((hbel.trans (ho3.below (Nat.le_succ _))).mono hb12.size)⟩
            · have HE := (show Hid _ from he)
              clear he
              go_wp2_with fail
              refine (next_any w2.heap.size t1 l1 _ (hat1.other ho3 (by omega)) (by omega)).mono ?_
              rintro e w4 ⟨got, t4, l4, ok4, rfl, hat4, ho4, hle4, hout4⟩
              have HP' := HP.out
              rw [HE.out] at HP'
              obtain ⟨rfl, he4⟩ := pair_cons HP' hout4
              rw [he4] at HP'
              have HQ := (show Hid _ from HP')
              clear HP HP' HE he4 hout4
              go_wp2_with fail
              · have hRf := pair_ne HQ.out (bytes_ne (by assumption))
                subst hRf
                go_ret
                exact ⟨rfl, hb12.trans (((hbel.trans (ho3.below (Nat.le_succ _))).trans (ho4.below (Nat.le_refl _))).mono hb12.size)⟩
              · obtain ⟨hlt, hpp⟩ := pair_eq HQ.out (bytes_eq (by assumption))
                go_roundg (Pl.lst t3.data.toList l3).length
                case measure => exact hlt
                case rel => exact ⟨t4, l4, t3, l3, hat4, hat3.other ho4 (by omega), (hbel.trans (ho3.below (Nat.le_succ _))).trans (ho4.below (Nat.le_refl _)), by omega, by omega, hpp⟩

set_option maxHeartbeats 1000000 in
theorem zzUnder_any (v b : ByteArray) (w : World) (hv : v.size ≤ 1099511627776) (hb : b.size ≤ 1099511627776) :
    Calls Try.prog 19 #[.string v, .string b] w fun e w' => e = .returned (.bool (underB v.data.toList b.data.toList)) ∧ Below w.heap.size w w' := by
  go_enter Try.func19, Try.ntmps19
  go_wp2_with fail
  refine (under_any v b _ hv hb).mono ?_
  rintro e w1 ⟨rfl, hb1⟩
  go_wp2_with fail
  go_ret
  exact ⟨rfl, hb1⟩

set_option maxHeartbeats 1000000 in
theorem zzCount_any (p : ByteArray) (w : World) (hp : p.size ≤ 1099511627776) :
    Calls Try.prog 10 #[.string p] w fun e w' => e = .returned (.int .i64 (Pl.norm p.data.toList).length) ∧ Below w.heap.size w w' := by
  go_enter Try.func10, Try.ntmps10
  go_wp2_with fail
  refine (count_any p _ hp).mono ?_
  rintro e w1 ⟨rfl, hb1⟩
  go_wp2_with fail
  go_ret
  exact ⟨rfl, hb1⟩

end Go.Proofs.Qxb6000390a
