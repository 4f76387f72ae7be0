import Derived.Test.Qxb6000390aLib
import Derived.Test.Qxb6000390aPlain
import Derived.Deep.LoopGhost
import Derived.Deep.CutRange
import Derived.Deep.DeepCutAuto
import Derived.Deep.RegionWith
namespace Go.Proofs.Qxb6000390a
open Go.RowKit Go.Lib

/-- The iterator in memory. -/
def SegAt (w : World) (b : Nat) (s : ByteArray) (k : Nat) : Prop :=
  w.cell? ⟨b, 0, none⟩ = some (.string s) ∧ w.cell? ⟨b, 1, none⟩ = some (.int .i64 k) ∧ w.frozen? ⟨b, 0, none⟩ = false ∧ w.frozen? ⟨b, 1, none⟩ = false

/-- Nothing but block b has turned. -/
structure Only (b : Nat) (w w' : World) : Prop where
  os : w'.os = w.os
  tape : w'.tape = w.tape
  output : w'.output = w.output
  size : w'.heap.size = w.heap.size
  block : ∀ k, k ≠ b → w'.heap[k]? = w.heap[k]?

theorem Only.refl (b : Nat) (w : World) : Only b w w := ⟨rfl, rfl, rfl, rfl, fun _ _ => rfl⟩
theorem Only.trans {b : Nat} {x y z : World} (h : Only b x y) (g : Only b y z) : Only b x z :=
  ⟨g.os.trans h.os, g.tape.trans h.tape, g.output.trans h.output, g.size.trans h.size, fun k hk => (g.block k hk).trans (h.block k hk)⟩
theorem Only.drew {b : Nat} {x y : World} (h : Only b x y) : Only b x y.drew := ⟨h.os, h.tape, h.output, h.size, h.block⟩
theorem Only.setCell {b : Nat} {x y : World} (h : Only b x y) {a : Addr} (ha : a.block = b) (v : Value) : Only b x (y.setCell a v) :=
  h.trans ⟨rfl, rfl, rfl, by simp [World.setCell], fun k hk => Below.heap_setCell _ _ _ _ (by omega)⟩
theorem Only.cell {b : Nat} {w w' : World} (h : Only b w w') {p : Addr} (hp : p.block ≠ b) : w'.cell? p = w.cell? p := World.cell?_of_block (w := w) (h.block p.block hp)
theorem Only.frozen {b : Nat} {w w' : World} (h : Only b w w') {p : Addr} (hp : p.block ≠ b) : w'.frozen? p = w.frozen? p := World.frozen?_of_block (w := w) (h.block p.block hp)
theorem Only.below {B b : Nat} {w w' : World} (h : Only b w w') (hb : B ≤ b) : Below B w w' :=
  ⟨h.os, h.tape, h.output, Nat.le_of_eq h.size.symm, fun k hk => h.block k (by omega)⟩
theorem SegAt.other {b c : Nat} {w w' : World} {s : ByteArray} {k : Nat} (h : SegAt w b s k) (g : Only c w w') (hc : b ≠ c) : SegAt w' b s k := by
  obtain ⟨h1, h2, h3, h4⟩ := h
  exact ⟨(g.cell (p := ⟨b, 0, none⟩) hc).trans h1, (g.cell (p := ⟨b, 1, none⟩) hc).trans h2, (g.frozen (p := ⟨b, 0, none⟩) hc).trans h3, (g.frozen (p := ⟨b, 1, none⟩) hc).trans h4⟩

/-- What a call of next hands back, of the list that was to come. -/
def Out (L : List (List UInt8)) (ok : Bool) (seg : List UInt8) (L' : List (List UInt8)) : Prop :=
  (L = [] ∧ ok = false ∧ seg = [] ∧ L' = []) ∨ (ok = true ∧ L = seg :: L')

theorem SegAt.drew {w : World} {b : Nat} {s : ByteArray} {k : Nat} (h : SegAt w b s k) : SegAt w.drew b s k := h
theorem SegAt.set0 {w : World} {b : Nat} {s : ByteArray} {k : Nat} (h : SegAt w b s k) (s' : ByteArray) : SegAt (w.setCell ⟨b, 0, none⟩ (.string s')) b s' k := by
  obtain ⟨h1, h2, h3, h4⟩ := h
  exact ⟨World.cell?_setCell_same _ _ _ h1, (World.cell?_setCell_other _ _ _ _ (by simp)).trans h2, (World.frozen?_setCell ..).trans h3, (World.frozen?_setCell ..).trans h4⟩
theorem SegAt.set1 {w : World} {b : Nat} {s : ByteArray} {k : Nat} (h : SegAt w b s k) (k' : Nat) : SegAt (w.setCell ⟨b, 1, none⟩ (.int .i64 k')) b s k' := by
  obtain ⟨h1, h2, h3, h4⟩ := h
  exact ⟨(World.cell?_setCell_other _ _ _ _ (by simp)).trans h1, World.cell?_setCell_same _ _ _ h2, (World.frozen?_setCell ..).trans h3, (World.frozen?_setCell ..).trans h4⟩

theorem SegAt.set1i {w : World} {b : Nat} {s : ByteArray} {k : Nat} (h : SegAt w b s k) (q : Int) (k' : Nat) (hq : q = k') : SegAt (w.setCell ⟨b, 1, none⟩ (.int .i64 q)) b s k' := by
  subst hq
  exact h.set1 k'

theorem empty_of (s : ByteArray) (h : (!s.toList.isEmpty) = false) : s.data.toList = [] := by
  rw [Lib.toList_data] at h
  simpa using h

/-- The two parts of the cut, as the walk spells them. -/
def IsCut (s r g : ByteArray) : Prop := r.data.toList = Pl.cutRest s.data.toList ∧ g.data.toList = Pl.cutSeg s.data.toList

theorem cut_yes (s : ByteArray) (i : Int) (h : i = Pa.lastIndexByte s.data.toList 47) (h0 : 0 ≤ i) : IsCut s (s.extract 0 i.toNat) (s.extract (i + 1).toNat s.size) := by
  subst h
  refine ⟨?_, ?_⟩
  · rw [Lib.extract_data, Pl.cutRest, if_pos h0]; simp
  · rw [Lib.extract_data, Pl.cutSeg, if_pos h0, Lib.size_eq]
    apply List.take_of_length_le
    simp

theorem cut_no (s : ByteArray) (i : Int) (h : i = Pa.lastIndexByte s.data.toList 47) (h0 : ¬ 0 ≤ i) : IsCut s ⟨#[]⟩ s := by
  subst h
  refine ⟨?_, ?_⟩
  · rw [Pl.cutRest, if_neg h0]
  · rw [Pl.cutSeg, if_neg h0]

theorem IsCut.lt {s r g : ByteArray} (h : IsCut s r g) (hs : (!s.toList.isEmpty) = true) : r.size < s.size := by
  rw [Lib.size_eq, Lib.size_eq, h.1]
  apply Pl.cutRest_lt
  rw [Lib.toList_data] at hs
  simpa using hs

theorem IsCut.dot {s r g : ByteArray} (h : IsCut s r g) (k : Nat) (hg : g.toList = [] ∨ g.toList.isEmpty = true ∨ (g.toList == [46]) = true) : Pl.lst r.data.toList k = Pl.lst s.data.toList k := by
  rw [Pl.lst_dot s.data.toList k ?_, h.1]
  rw [Lib.toList_data, h.2] at hg
  unfold Pl.isDot
  rcases hg with hg | hg | hg
  · simp [hg]
  · have := List.isEmpty_iff.1 hg
    simp [this]
  · have : Pl.cutSeg s.data.toList = [46] := by simpa using hg
    simp [this]

theorem IsCut.ndot {s r g : ByteArray} (h : IsCut s r g) (h2 : g.toList.isEmpty = false ∧ (g.toList == [46]) = false) : Pl.isDot (Pl.cutSeg s.data.toList) = false := by
  rw [Lib.toList_data, h.2] at h2
  obtain ⟨h3, h4⟩ := h2
  unfold Pl.isDot
  rw [h4, Bool.or_false]
  revert h3
  cases Pl.cutSeg s.data.toList <;> simp

theorem IsCut.dd {s r g : ByteArray} (h : IsCut s r g) (k : Nat) (h3 : (g.toList == [46, 46]) = true) : Pl.lst r.data.toList (k + 1) = Pl.lst s.data.toList k := by
  rw [Lib.toList_data, h.2] at h3
  rw [Pl.lst_dd s.data.toList k h3, h.1]

theorem IsCut.skip {s r g : ByteArray} (h : IsCut s r g) (k : Nat) (h2 : g.toList.isEmpty = false ∧ (g.toList == [46]) = false) (h3 : (g.toList == [46, 46]) = false) (hk : 0 < k) : Pl.lst r.data.toList (k - 1) = Pl.lst s.data.toList k := by
  have h4 := h.ndot h2
  rw [Lib.toList_data, h.2] at h3
  rw [Pl.lst_skip s.data.toList k h4 h3 hk, h.1]

theorem IsCut.hit {s r g : ByteArray} (h : IsCut s r g) (k : Nat) (h2 : g.toList.isEmpty = false ∧ (g.toList == [46]) = false) (h3 : (g.toList == [46, 46]) = false) (hk : ¬ 0 < k) : Pl.lst s.data.toList k = g.data.toList :: Pl.lst r.data.toList k := by
  have h4 := h.ndot h2
  obtain rfl : k = 0 := by omega
  rw [Lib.toList_data, h.2] at h3
  rw [Pl.lst_hit s.data.toList h4 h3, h.1, h.2]

def NextPost (b : Nat) (s : ByteArray) (k : Nat) (w : World) (e : Ending) (w' : World) : Prop :=
  ∃ (seg s' : ByteArray) (k' : Nat) (ok : Bool), e = .returned (.tuple #[.string seg, .bool ok]) ∧ SegAt w' b s' k' ∧ Only b w w' ∧ s'.size + k' ≤ s.size + k ∧
      Out (Pl.lst s.data.toList k) ok seg.data.toList (Pl.lst s'.data.toList k')

theorem NextPost.intro {b : Nat} {s : ByteArray} {k : Nat} {w : World} {e : Ending} {w' : World} (seg s' : ByteArray) (k' : Nat) (ok : Bool) (h1 : e = .returned (.tuple #[.string seg, .bool ok])) (h2 : SegAt w' b s' k') (h3 : Only b w w') (h4 : s'.size + k' ≤ s.size + k)
    (h5 : Out (Pl.lst s.data.toList k) ok seg.data.toList (Pl.lst s'.data.toList k')) : NextPost b s k w e w' := ⟨seg, s', k', ok, h1, h2, h3, h4, h5⟩

set_option maxHeartbeats 1000000 in
set_option maxRecDepth 100000 in
theorem next_any (b : Nat) (s : ByteArray) (k : Nat) (w : World) (h : SegAt w b s k) (hs : s.size + k ≤ 4611686018427387904) :
    Calls Try.prog 25 #[.pointer (some ⟨b, 0, none⟩)] w (NextPost b s k w) := by
  go_enter Try.func25, Try.ntmps25
  go_wp2
  go_loopg [] s.size (fun n wr => ∃ (s1 : ByteArray) (k1 : Nat), n = s1.size ∧ SegAt wr b s1 k1 ∧ Only b w wr ∧ s1.size + k1 ≤ s.size + k ∧ Hid (Pl.lst s1.data.toList k1 = Pl.lst s.data.toList k))
  case atStart => exact ⟨s, k, rfl, h, Only.refl _ _, Nat.le_refl _, rfl⟩
  case round =>
    obtain ⟨s1, k1, rfl, hat, ho, hle, hh⟩ := hrel
    obtain ⟨c0, c1, f0, f1⟩ := id hat
    have HA : Hid (SegAt wr b s1 k1) := hat
    obtain ⟨i, hi⟩ : ∃ i : Int, i = Pa.lastIndexByte s1.data.toList 47 := ⟨_, rfl⟩
    have hc : ∀ w, Calls Try.prog 27 #[.string s1, .int .u8 47] w fun e w' => e = .returned (.int .i64 i) ∧ w' = w := fun w => by rw [hi]; exact str_lastSlash s1 w (by omega)
    have HC := (show Hid _ from hc)
    have hib : i < s1.size := by have := Pa.lastIndexByte_bounds s1.data.toList 47; rw [← hi, ← Lib.size_eq] at this; omega
    have HI : Hid (i = Pa.lastIndexByte s1.data.toList 47) := hi
    clear hc h hi hat
    by_cases hi0 : 0 ≤ i
    · have hib2 : i + 1 ≤ s1.size := by omega
      have HX : Hid (IsCut s1 (s1.extract 0 i.toNat) (s1.extract (i + 1).toNat s1.size)) := cut_yes s1 i HI.out hi0
      go_wp2_with fail
      · have hne : (!s1.toList.isEmpty) = true := by assumption
        have hlt := HX.out.lt hne
        refine (HC.out _).mono ?_
        rintro e w' ⟨rfl, rfl⟩
        go_wp2_with fail
        go_region
        go_wp2
        · go_roundg (s1.extract 0 i.toNat).size
          case measure => exact hlt
          case rel => exact ⟨_, k1, rfl, (HA.out.set0 _).drew, (ho.setCell rfl _).drew, by omega, (HX.out.dot k1 (.inl (by assumption))).trans hh.out⟩
        · go_roundg (s1.extract 0 i.toNat).size
          case measure => exact hlt
          case rel => exact ⟨_, k1, rfl, (HA.out.set0 _).drew, (ho.setCell rfl _).drew, by omega, (HX.out.dot k1 (.inr (by assumption))).trans hh.out⟩
        · go_roundg (s1.extract 0 i.toNat).size
          case measure => exact hlt
          case rel => exact ⟨_, k1 + 1, rfl, ((HA.out.set0 _).set1i _ _ (by omega)).drew, ((ho.setCell rfl _).setCell rfl _).drew, by omega, (HX.out.dd k1 (by assumption)).trans hh.out⟩
        · have hk : 0 < k1 := by assumption
          go_roundg (s1.extract 0 i.toNat).size
          case measure => exact hlt
          case rel => exact ⟨_, k1 - 1, rfl, ((HA.out.set0 _).set1i _ _ (by omega)).drew, ((ho.setCell rfl _).setCell rfl _).drew, by omega, (HX.out.skip k1 (by assumption) (by assumption) hk).trans hh.out⟩
        · have hk : ¬ 0 < k1 := by assumption
          go_ret2
          exact NextPost.intro (s1.extract (i + 1).toNat s1.size) (s1.extract 0 i.toNat) k1 true rfl (HA.out.set0 _).drew (ho.setCell rfl _).drew (by omega) (.inr ⟨rfl, hh.out.symm.trans (HX.out.hit k1 (by assumption) (by assumption) hk)⟩)
      · have he := empty_of s1 (by assumption)
        go_ret2
        exact NextPost.intro ⟨#[]⟩ s1 k1 false rfl HA.out ho hle (.inl ⟨by rw [← hh.out, he, Pl.lst_nil], rfl, rfl, by rw [he, Pl.lst_nil]⟩)
    · have HX : Hid (IsCut s1 ⟨#[]⟩ s1) := cut_no s1 i HI.out hi0
      go_wp2_with fail
      · have hne : (!s1.toList.isEmpty) = true := by assumption
        have hlt := HX.out.lt hne
        refine (HC.out _).mono ?_
        rintro e w' ⟨rfl, rfl⟩
        go_wp2
        · go_roundg (ByteArray.mk #[]).size
          case measure => exact hlt
          case rel => exact ⟨_, k1, rfl, HA.out.set0 _, ho.setCell rfl _, by omega, (HX.out.dot k1 (.inr (by assumption))).trans hh.out⟩
        · go_roundg (ByteArray.mk #[]).size
          case measure => exact hlt
          case rel => exact ⟨_, k1 + 1, rfl, (HA.out.set0 _).set1i _ _ (by omega), (ho.setCell rfl _).setCell rfl _, by omega, (HX.out.dd k1 (by assumption)).trans hh.out⟩
        · have hk : 0 < k1 := by assumption
          go_roundg (ByteArray.mk #[]).size
          case measure => exact hlt
          case rel => exact ⟨_, k1 - 1, rfl, (HA.out.set0 _).set1i _ _ (by omega), (ho.setCell rfl _).setCell rfl _, by omega, (HX.out.skip k1 (by assumption) (by assumption) hk).trans hh.out⟩
        · have hk : ¬ 0 < k1 := by assumption
          go_ret2
          exact NextPost.intro s1 ⟨#[]⟩ k1 true rfl (HA.out.set0 _) (ho.setCell rfl _) (by omega) (.inr ⟨rfl, hh.out.symm.trans (HX.out.hit k1 (by assumption) (by assumption) hk)⟩)
      · have he := empty_of s1 (by assumption)
        go_ret2
        exact NextPost.intro ⟨#[]⟩ s1 k1 false rfl HA.out ho hle (.inl ⟨by rw [← hh.out, he, Pl.lst_nil], rfl, rfl, by rw [he, Pl.lst_nil]⟩)

end Go.Proofs.Qxb6000390a
