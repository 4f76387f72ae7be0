import Derived.Test.Qxb6000614aBld
import Derived.Test.Qxb6000614aPlain
import Derived.Lib.PathFns
import Derived.Deep.LoopGhost
import Derived.Deep.DeepCutAuto
import Derived.Deep.RegionWith
import Derived.Deep.QuietTactic
import Derived.BigQuiet
import Derived.WalkSmall
namespace Go.Proofs.Qxb6000614a
open Go.RowKit Go.Lib

/-- The lexer in memory. -/
def LexAt (w : World) (b : Nat) (s : ByteArray) (k : Nat) : Prop :=
  w.cell? ⟨b, 0, none⟩ = some (.string s) ∧ w.cell? ⟨b, 1, none⟩ = some (.int .i64 k) ∧ w.frozen? ⟨b, 0, none⟩ = false ∧ w.frozen? ⟨b, 1, none⟩ = false

/-- Nothing but block b has turned. -/
structure Only (b : Nat) (w w' : World) : Prop where
  os : w'.os = w.os
  tape : w'.tape = w.tape
  output : w'.output = w.output
  size : w'.heap.size = w.heap.size
  block : ∀ k, k ≠ b → w'.heap[k]? = w.heap[k]?

theorem Only.refl (b : Nat) (w : World) : Only b w w := ⟨rfl, rfl, rfl, rfl, fun _ _ => rfl⟩
theorem Only.trans {b : Nat} {x y z : World} (h : Only b x y) (g : Only b y z) : Only b x z :=
  ⟨g.os.trans h.os, g.tape.trans h.tape, g.output.trans h.output, g.size.trans h.size, fun k hk => (g.block k hk).trans (h.block k hk)⟩
theorem Only.drewN {b : Nat} {x y : World} (h : Only b x y) (n : Nat) : Only b x (y.drewN n) := ⟨h.os, h.tape, h.output, h.size, h.block⟩
theorem Only.setCell {b : Nat} {x y : World} (h : Only b x y) {a : Addr} (ha : a.block = b) (v : Value) : Only b x (y.setCell a v) :=
  h.trans ⟨rfl, rfl, rfl, by simp [World.setCell], fun k hk => Below.heap_setCell _ _ _ _ (by omega)⟩
theorem Only.below {B b : Nat} {w w' : World} (h : Only b w w') (hb : B ≤ b) : Below B w w' :=
  ⟨h.os, h.tape, h.output, Nat.le_of_eq h.size.symm, fun k hk => h.block k (by omega)⟩

theorem LexAt.drewN {w : World} {b : Nat} {s : ByteArray} {k : Nat} (h : LexAt w b s k) (n : Nat) : LexAt (w.drewN n) b s k := h
theorem LexAt.put {w : World} {b : Nat} {s : ByteArray} {k : Nat} (h : LexAt w b s k) (q : Int) (k' : Nat) (hq : q = k') : LexAt (w.setCell ⟨b, 1, none⟩ (.int .i64 q)) b s k' := by
  subst hq
  obtain ⟨h1, h2, h3, h4⟩ := h
  exact ⟨(World.cell?_setCell_other _ _ _ _ (by simp)).trans h1, World.cell?_setCell_same _ _ _ h2, (World.frozen?_setCell ..).trans h3, (World.frozen?_setCell ..).trans h4⟩
theorem LexAt.below {w w' : World} {B b : Nat} {s : ByteArray} {k : Nat} (h : LexAt w b s k) (g : Below B w w') (hb : b < B) : LexAt w' b s k := by
  obtain ⟨h1, h2, h3, h4⟩ := h
  exact ⟨(g.cell (p := ⟨b, 0, none⟩) hb).trans h1, (g.cell (p := ⟨b, 1, none⟩) hb).trans h2, (g.frozen (p := ⟨b, 0, none⟩) hb).trans h3, (g.frozen (p := ⟨b, 1, none⟩) hb).trans h4⟩

theorem byte_at {s : ByteArray} {k : Nat} {c : UInt8} (h : s.data.toList[k]? = some c) : ∃ hk : k < s.size, s[k] = c := by
  have hk : k < s.size := by
    rcases Nat.lt_or_ge k s.size with hl | hl
    · exact hl
    · rw [List.getElem?_eq_none (by rw [← Lib.size_eq]; exact hl)] at h; cases h
  refine ⟨hk, ?_⟩
  rw [Pa.at_eq s k hk] at h
  exact Option.some.inj h

set_option maxHeartbeats 2000000 in
set_option maxRecDepth 100000 in
/-- next at the quote that it looks for. -/
theorem next_hit (b : Nat) (s : ByteArray) (k : Nat) (w : World) (h : LexAt w b s k) (hk : k < s.size) (hc : s[k] = 34) (hs : s.size ≤ 1099511627776) :
    Calls Try.prog 25 #[.pointer (some ⟨b, 0, none⟩), .int .u8 34] w fun e w' => e = .returned (.bool true) ∧ LexAt w' b s (k + 1) ∧ Only b w w' := by
  obtain ⟨c0, c1, f0, f1⟩ := id h
  have HA : Hid (LexAt w b s k) := h
  have hcb : ((s[k].toNat : Int) == 34) = true := by rw [hc]; rfl
  have hki : (k : Int) < s.size := by omega
  clear hc h
  go_enter Try.func25, Try.ntmps25
  go_wp2
  go_quiet (fail)
  go_wp2
  go_ret
  exact ⟨rfl, (HA.out.drewN _).put _ _ (by omega), ((Only.refl b w).drewN _).setCell (a := ⟨b, 1, none⟩) rfl _⟩

/-- What value hands back: Z: what lex says of the text behind the opening quote. -/
def ValPost (b : Nat) (s : ByteArray) (Z : Option (List UInt8 × List UInt8)) (w : World) (e : Ending) (w' : World) : Prop :=
  ∃ k' : Nat, LexAt w' b s k' ∧ Below b w w' ∧
    ((Z = none ∧ e = .returned (.tuple #[.string ⟨#[]⟩, .bool false]) ∧ k' = s.size) ∨
      ∃ v r, Z = some (v, r) ∧ e = .returned (.tuple #[.string ⟨v.toArray⟩, .bool true]) ∧ k' + r.length = s.size)

theorem ValPost.some {b : Nat} {s : ByteArray} {Z : Option (List UInt8 × List UInt8)} {w w' : World} {e : Ending} (k' : Nat) (v r : List UInt8) (h1 : LexAt w' b s k') (h2 : Below b w w') (h3 : Z = .some (v, r)) (h4 : e = .returned (.tuple #[.string ⟨v.toArray⟩, .bool true])) (h5 : k' + r.length = s.size) : ValPost b s Z w e w' :=
  ⟨k', h1, h2, .inr ⟨v, r, h3, h4, h5⟩⟩
theorem ValPost.none {b : Nat} {s : ByteArray} {Z : Option (List UInt8 × List UInt8)} {w w' : World} {e : Ending} (k' : Nat) (h1 : LexAt w' b s k') (h2 : Below b w w') (h3 : Z = .none) (h4 : e = .returned (.tuple #[.string ⟨#[]⟩, .bool false])) (h5 : k' = s.size) : ValPost b s Z w e w' :=
  ⟨k', h1, h2, .inl ⟨h3, h4, h5⟩⟩

theorem drop_len (s : ByteArray) (k : Nat) (h : k ≤ s.size) : k + (s.data.toList.drop k).length = s.size := by
  rw [List.length_drop, ← Lib.size_eq]; omega

theorem builder_setCell {T e : TypeId} {B b : Nat} {bs : List Value} {w : World} (h : Lib.IsBuilder T e B b bs w) {a : Addr} (ha : a.block < B) (u : Value) : Lib.IsBuilder T e B b bs (w.setCell a u) := by
  have key : ∀ p, Lib.BuilderAt T e B b p bs w → Lib.BuilderAt T e B b p bs (w.setCell a u) := by
    rintro p ⟨hB, v, hb, hown, hne⟩
    exact ⟨hB, v, by rw [Below.heap_setCell _ _ _ _ (by omega)]; exact hb, ownsRow_setCell_below hown ha u, hne⟩
  rcases h with h | h
  · exact .inl (key _ h)
  · exact .inr (key _ h)

theorem builder_drewN {T e : TypeId} {B b : Nat} {bs : List Value} {w : World} (h : Lib.IsBuilder T e B b bs w) (n : Nat) : Lib.IsBuilder T e B b bs (w.drewN n) := h

theorem builder_cells (acc : List UInt8) (c : UInt8) : Lib.byteCells acc ++ [.int .u8 (c.toNat : Int)] = Lib.byteCells (acc ++ [c]) := by
  rw [Lib.byteCells_append]; rfl

set_option maxHeartbeats 4000000 in
set_option maxRecDepth 100000 in
theorem value_any (b : Nat) (s : ByteArray) (k : Nat) (w : World) (h : LexAt w b s k) (hb : b < w.heap.size) (hk : k < s.size) (hc : s[k] = 34) (hs : s.size ≤ 1099511627776) :
    Calls Try.prog 23 #[.pointer (some ⟨b, 0, none⟩)] w (ValPost b s (Pl.lex (s.data.toList.drop (k + 1)) []) w) := by
  obtain ⟨Z, hZ⟩ : ∃ Z, Z = Pl.lex (s.data.toList.drop (k + 1)) [] := ⟨_, rfl⟩
  rw [← hZ]
  have HZ := (show Hid _ from hZ)
  have C := fun w h => next_hit b s k w h hk hc hs
  have HC := (show Hid _ from C)
  clear hZ C hc
  go_enter Try.func23, Try.ntmps23
  go_wp2_with fail
  refine (HC.out _ h).mono ?_
  rintro e w1 ⟨rfl, hat, ho⟩
  have hsz := ho.size
  have hbel : Below b w w1 := ho.below (Nat.le_refl _)
  have hbw : b < w1.heap.size := by omega
  clear h HC ho hsz
  go_wp2_with fail
  have hB0 : w1.heap.size ≤ (w1.alloc (Obj.cells #[Value.pointer none, Value.slice none 0 0] 55)).heap.size := by simp
  go_loopg [] (s.size - (k + 1)) (fun n wr => ∃ (k1 : Nat) (acc : List UInt8), n + k1 = s.size ∧ acc.length ≤ k1 ∧ LexAt wr b s k1 ∧ Lib.IsBuilder 55 5 w1.heap.size w1.heap.size (Lib.byteCells acc) wr ∧ Below b w wr ∧ w1.heap.size ≤ wr.heap.size ∧ Hid (Pl.lex (s.data.toList.drop k1) acc = Z))
  case atStart => exact ⟨k + 1, [], by omega, by simp, hat.below ((Below.refl w1.heap.size w1).alloc (Nat.le_refl _) _) hbw, Lib.fresh_isBuilder 55 5 w1, hbel.trans ((Below.refl b w1).alloc (by omega) _), hB0, HZ.out.symm⟩
  case round =>
    obtain ⟨k1, acc, hn, hac, hat1, hbd, hbel1, hBw, HL⟩ := hrel
    obtain ⟨c0, c1, f0, f1⟩ := id hat1
    have HA : Hid (LexAt wr b s k1) := hat1
    have HBD : Hid (Lib.IsBuilder 55 5 w1.heap.size w1.heap.size (Lib.byteCells acc) wr) := hbd
    clear hat1 hbd
    by_cases hlt : k1 < s.size
    · have hki : (k1 : Int) < s.size := by omega
      have hcl : s.data.toList.drop k1 = s[k1] :: s.data.toList.drop (k1 + 1) := by
        rw [List.drop_eq_getElem_cons (by rw [← Lib.size_eq]; exact hlt)]; rfl
      have HCL := (show Hid _ from hcl)
      clear hcl
      by_cases h34 : s[k1] = 34
      · have e34 : ((s[k1].toNat : Int) == 34) = true := by rw [h34]; rfl
        have HZ2 : Hid (Z = some (acc, s.data.toList.drop (k1 + 1))) := by
          show _ = _
          rw [← HL.out, HCL.out, h34, Pl.lex_quote]
        clear h34
        go_wp2
        go_quiet (fail)
        go_wp2_with fail
        go_quiet (fail)
        go_wp2_with fail
        refine (string_any w1.heap.size w1.heap.size acc _ (by exact builder_setCell (builder_drewN HBD.out _) hbw _) (by simp; exact hBw)).mono ?_
        rintro e w2 ⟨rfl, hb2⟩
        go_wp2_with fail
        go_ret2
        exact ValPost.some (k1 + 1) acc _ (((HA.out.drewN _).put _ (k1 + 1) (by omega)).below hb2 hbw) (((below_drewN hbel1 _).setCell (p := ⟨b, 1, none⟩) (Nat.le_refl _) _).trans (hb2.mono (by omega))) HZ2.out rfl (drop_len s (k1 + 1) (by omega))
      · have e34 : ((s[k1].toNat : Int) == 34) = false := by
          rw [beq_eq_false_iff_ne]
          intro e
          have e2 : s[k1].toNat = 34 := by omega
          exact h34 (UInt8.toNat.inj e2)
        have HNE := (show Hid _ from h34)
        clear h34
        go_wp2
        go_quiet (fail)
        go_wp2_with fail
        have hn1 : ∃ n1, n1 = nq := ⟨nq, rfl⟩
        obtain ⟨n1, rfl⟩ := hn1
        go_quiet (fail)
        go_wp2_with fail
        generalize hw2 : (wr.drewN (n1 + nq)).setCell ⟨b, 1, none⟩ (.int .i64 ((k1 : Int) + 1)) = w2
        have hat2 : LexAt w2 b s (k1 + 1) := by rw [← hw2]; exact (HA.out.drewN _).put _ (k1 + 1) (by omega)
        have hbd2 : Lib.IsBuilder 55 5 w1.heap.size w1.heap.size (Lib.byteCells acc) w2 := by rw [← hw2]; exact builder_setCell (builder_drewN HBD.out _) hbw _
        have hbel2 : Below b w w2 := by rw [← hw2]; exact (below_drewN hbel1 _).setCell (p := ⟨b, 1, none⟩) (Nat.le_refl _) _
        have hBw2 : w1.heap.size ≤ w2.heap.size := by rw [← hw2]; simp; exact hBw
        clear hw2 HA HBD c0 c1 f0 f1 hBw hbel1
        obtain ⟨c0, c1, f0, f1⟩ := id hat2
        have HA : Hid (LexAt w2 b s (k1 + 1)) := hat2
        have HBD : Hid (Lib.IsBuilder 55 5 w1.heap.size w1.heap.size (Lib.byteCells acc) w2) := hbd2
        clear hat2 hbd2
        by_cases h92 : s[k1] = 92
        · have e92 : ((s[k1].toNat : Int) == 92) = true := by rw [h92]; rfl
          by_cases hlt2 : k1 + 1 < s.size
          · have hki2 : (k1 : Int) + 1 < s.size := by omega
            have HL2 : Hid (Pl.lex (s.data.toList.drop (k1 + 2)) (acc ++ [s[k1 + 1]]) = Z) := by
              show _ = _
              have h2 : s.data.toList.drop (k1 + 1) = s[k1 + 1] :: s.data.toList.drop (k1 + 2) := by
                rw [List.drop_eq_getElem_cons (by rw [← Lib.size_eq]; exact hlt2)]; rfl
              rw [← HL.out, HCL.out, h92, h2, Pl.lex_esc]
            clear h92
            go_quiet (fail)
            go_wp2_with fail
            have hwb : ∀ w, Lib.IsBuilder 55 5 w1.heap.size w1.heap.size (Lib.byteCells acc) w → w1.heap.size ≤ w.heap.size → Calls Try.prog 28 #[.pointer (some ⟨w1.heap.size, 0, none⟩), .int .u8 (s[k1 + 1].toNat : Int)] w fun e w' => e = .returned .nilIface ∧ (Lib.IsBuilder 55 5 w1.heap.size w1.heap.size (Lib.byteCells acc ++ [.int .u8 (s[k1 + 1].toNat : Int)]) w' ∧ Below w1.heap.size w w') := fun w h1 h2 => writeByte_any w1.heap.size w1.heap.size _ _ w h1 (by rw [Lib.byteCells_length]; omega) h2
            have HWB := (show Hid _ from hwb)
            clear hwb
            go_region_with (go_at_call 28; refine (HWB.out _ ?_ ?_).mono ?_; exact builder_drewN HBD.out _; exact hBw2; rintro e w3 ⟨rfl, hbd3, hb3⟩)
            all_goals
              have hat3 : LexAt w3 b s (k1 + 1) := (HA.out.drewN _).below hb3 hbw
              have hbel3 : Below b w w3 := (below_drewN hbel2 _).trans (hb3.mono (by omega))
              have hsz3 : w1.heap.size ≤ w3.heap.size := Nat.le_trans hBw2 hb3.size
              obtain ⟨d0, d1, g0, g1⟩ := id hat3
              go_wp2_with fail
              go_roundg (gk - 2)
              case measure => omega
              case rel => exact ⟨k1 + 2, acc ++ [s[k1 + 1]], by omega, by simp; omega, hat3.put _ _ (by omega), builder_setCell (by rw [← builder_cells]; exact hbd3) hbw _, hbel3.setCell (p := ⟨b, 1, none⟩) (Nat.le_refl _) _, by simp; exact hsz3, HL2⟩
          · have hki2 : decide ((k1 : Int) + 1 < s.size) = false := by rw [decide_eq_false_iff_not]; omega
            have HL2 : Hid (Pl.lex (s.data.toList.drop (k1 + 1)) (acc ++ [s[k1]]) = Z) := by
              show _ = _
              have h2 : s.data.toList.drop (k1 + 1) = [] := List.drop_eq_nil_of_le (by rw [← Lib.size_eq]; omega)
              rw [← HL.out, HCL.out, h92, h2, Pl.lex_nil, Pl.lex_lone]
            clear h92
            have hwb : ∀ w, Lib.IsBuilder 55 5 w1.heap.size w1.heap.size (Lib.byteCells acc) w → w1.heap.size ≤ w.heap.size → Calls Try.prog 28 #[.pointer (some ⟨w1.heap.size, 0, none⟩), .int .u8 (s[k1].toNat : Int)] w fun e w' => e = .returned .nilIface ∧ (Lib.IsBuilder 55 5 w1.heap.size w1.heap.size (Lib.byteCells acc ++ [.int .u8 (s[k1].toNat : Int)]) w' ∧ Below w1.heap.size w w') := fun w h1 h2 => writeByte_any w1.heap.size w1.heap.size _ _ w h1 (by rw [Lib.byteCells_length]; omega) h2
            have HWB := (show Hid _ from hwb)
            clear hwb
            go_quiet (fail)
            go_wp2_with fail
            refine (HWB.out _ ?_ ?_).mono ?_
            · exact builder_drewN HBD.out _
            · exact hBw2
            rintro e w3 ⟨rfl, hbd3, hb3⟩
            have hat3 : LexAt w3 b s (k1 + 1) := (HA.out.drewN _).below hb3 hbw
            have hbel3 : Below b w w3 := (below_drewN hbel2 _).trans (hb3.mono (by omega))
            have hsz3 : w1.heap.size ≤ w3.heap.size := Nat.le_trans hBw2 hb3.size
            go_wp2_with fail
            go_roundg (gk - 1)
            case measure => omega
            case rel => exact ⟨k1 + 1, acc ++ [s[k1]], by omega, by simp; omega, hat3, by rw [← builder_cells]; exact hbd3, hbel3, hsz3, HL2⟩
        · have e92 : ((s[k1].toNat : Int) == 92) = false := by
            rw [beq_eq_false_iff_ne]
            intro e
            have e2 : s[k1].toNat = 92 := by omega
            exact h92 (UInt8.toNat.inj e2)
          have HL2 : Hid (Pl.lex (s.data.toList.drop (k1 + 1)) (acc ++ [s[k1]]) = Z) := by
            show _ = _
            rw [← HL.out, HCL.out, Pl.lex_byte _ _ _ HNE.out h92]
          clear h92
          have hwb : ∀ w, Lib.IsBuilder 55 5 w1.heap.size w1.heap.size (Lib.byteCells acc) w → w1.heap.size ≤ w.heap.size → Calls Try.prog 28 #[.pointer (some ⟨w1.heap.size, 0, none⟩), .int .u8 (s[k1].toNat : Int)] w fun e w' => e = .returned .nilIface ∧ (Lib.IsBuilder 55 5 w1.heap.size w1.heap.size (Lib.byteCells acc ++ [.int .u8 (s[k1].toNat : Int)]) w' ∧ Below w1.heap.size w w') := fun w h1 h2 => writeByte_any w1.heap.size w1.heap.size _ _ w h1 (by rw [Lib.byteCells_length]; omega) h2
          have HWB := (show Hid _ from hwb)
          clear hwb
          go_quiet (fail)
          go_wp2_with fail
          refine (HWB.out _ ?_ ?_).mono ?_
          · exact builder_drewN HBD.out _
          · exact hBw2
          rintro e w3 ⟨rfl, hbd3, hb3⟩
          have hat3 : LexAt w3 b s (k1 + 1) := (HA.out.drewN _).below hb3 hbw
          have hbel3 : Below b w w3 := (below_drewN hbel2 _).trans (hb3.mono (by omega))
          have hsz3 : w1.heap.size ≤ w3.heap.size := Nat.le_trans hBw2 hb3.size
          go_wp2_with fail
          go_roundg (gk - 1)
          case measure => omega
          case rel => exact ⟨k1 + 1, acc ++ [s[k1]], by omega, by simp; omega, hat3, by rw [← builder_cells]; exact hbd3, hbel3, hsz3, HL2⟩
    · have hki : ¬ (k1 : Int) < s.size := by omega
      go_wp2
      go_quiet (fail)
      go_wp2_with fail
      go_ret2
      have hz : Z = .none := by
        rw [← HL.out, List.drop_eq_nil_of_le (by rw [← Lib.size_eq]; omega), Pl.lex_nil]
      exact ValPost.none k1 (HA.out.drewN _) (below_drewN hbel1 _) hz rfl (by omega)

end Go.Proofs.Qxb6000614a
