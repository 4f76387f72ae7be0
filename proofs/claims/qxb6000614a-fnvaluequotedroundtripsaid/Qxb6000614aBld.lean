import Derived.Test.Qxb6000614aRows
import Derived.Shelf.Strings.Builder1
namespace Go.Proofs.Qxb6000614a
open Go.RowKit Go.Lib Go.Shelf

/-- The shelf's numbers at this dump. -/
def ren : Go.Shelf.Ren := ⟨fun | 167 => 28 | 240 => 30 | 276 => 32 | 169 => 27 | n => n, fun | 0 => 0 | 3 => 3 | 4 => 4 | 5 => 5 | 9 => 9 | 20 => 20 | 37 => 23 | 70 => 53 | 72 => 55 | 75 => 58 | 80 => 56 | 127 => 60 | 164 => 61 | n => n, fun n => n⟩

theorem lays167 : Lays.n167 Try.prog ren :=
  { mixed := by kernel_rfl,
    f167 := Try.func28.trans (congrArg some (by kernel_rfl)),
    f240 := Try.func30.trans (congrArg some (by kernel_rfl)),
    f276 := Try.func32.trans (congrArg some (by kernel_rfl)),
    t0 := Try.underlying0,
    a0 := Try.isAgg0,
    z0 := Try.sizeOf0,
    v0 := Try.zeroValue0,
    t4 := Try.underlying4,
    a4 := Try.isAgg4,
    z4 := Try.sizeOf4,
    v4 := Try.zeroValue4,
    t5 := Try.underlying5,
    a5 := Try.isAgg5,
    z5 := Try.sizeOf5,
    v5 := Try.zeroValue5,
    t9 := Try.underlying9,
    a9 := Try.isAgg9,
    z9 := Try.sizeOf9,
    v9 := Try.zeroValue9,
    t20 := Try.underlying20,
    a20 := Try.isAgg20,
    z20 := Try.sizeOf20,
    v20 := Try.zeroValue20,
    t37 := Try.underlying23,
    a37 := Try.isAgg23,
    z37 := Try.sizeOf23,
    v37 := Try.zeroValue23,
    t70 := Try.underlying53,
    a70 := Try.isAgg53,
    z70 := Try.sizeOf53,
    v70 := Try.zeroValue53,
    t72 := Try.underlying55,
    a72 := Try.isAgg55,
    z72 := Try.sizeOf55,
    v72 := Try.zeroValue55,
    t75 := Try.underlying58,
    a75 := Try.isAgg58,
    z75 := Try.sizeOf58,
    v75 := Try.zeroValue58,
    t164 := Try.underlying61,
    a164 := Try.isAgg61,
    z164 := Try.sizeOf61,
    v164 := Try.zeroValue61 }

theorem lays169 : Lays.n169 Try.prog ren :=
  { mixed := by kernel_rfl,
    f169 := Try.func27.trans (congrArg some (by kernel_rfl)),
    t0 := Try.underlying0,
    a0 := Try.isAgg0,
    z0 := Try.sizeOf0,
    v0 := Try.zeroValue0,
    t3 := Try.underlying3,
    a3 := Try.isAgg3,
    z3 := Try.sizeOf3,
    v3 := Try.zeroValue3,
    t9 := Try.underlying9,
    a9 := Try.isAgg9,
    z9 := Try.sizeOf9,
    v9 := Try.zeroValue9,
    t37 := Try.underlying23,
    a37 := Try.isAgg23,
    z37 := Try.sizeOf23,
    v37 := Try.zeroValue23,
    t70 := Try.underlying53,
    a70 := Try.isAgg53,
    z70 := Try.sizeOf53,
    v70 := Try.zeroValue53,
    t72 := Try.underlying55,
    a72 := Try.isAgg55,
    z72 := Try.sizeOf55,
    v72 := Try.zeroValue55,
    t127 := Try.underlying60,
    a127 := Try.isAgg60,
    z127 := Try.sizeOf60,
    v127 := Try.zeroValue60 }

theorem infoByte : (Try.prog.info? 5).map (fun i => (i.zero, i.size, i.bytes)) = some (some (.int .u8 0), 1, 1) := by kernel_rfl

theorem extra : Builder.Extra Try.prog ren :=
  { sizeBuilder := by kernel_rfl, liesBuilder := by kernel_rfl, t5 := Try.underlying5, a5 := Try.isAgg5, z5 := Try.sizeOf5, v5 := Try.zeroValue5, infoByte := infoByte, cellsByte := by kernel_rfl, sizeByte := by kernel_rfl, neB5 := by decide }

theorem byte_new (w : World) (x : Value) (t : TypeId) : ∀ j u, [x][j]? = some u → (w.alloc (.cells #[x] t)).cell? ((⟨w.heap.size, 0, none⟩ : Addr).add j) = some u := by
  intro j u hj
  match j, hj with
  | 0, hj => simp at hj; subst hj; simp [Addr.add]
  | j + 1, hj => simp at hj

theorem byte_cell (c : Int) : ∀ u ∈ [Value.int .u8 c], u.oneCell' = true := by
  intro u hu; simp at hu; subst hu; rfl

/-- WriteByte, by the shelf's contract. -/
theorem writeByte_any (B b : Nat) (bs : List Value) (c : Int) (w : World) (h : Lib.IsBuilder 55 5 B b bs w) (hlen : bs.length + 1 ≤ 140737488355328) (hBw : B ≤ w.heap.size) :
    Calls Try.prog 28 #[.pointer (some ⟨b, 0, none⟩), .int .u8 c] w fun e w' => e = .returned .nilIface ∧ (Lib.IsBuilder 55 5 B b (bs ++ [.int .u8 c]) w' ∧ Below B w w') := by
  have key : Calls Try.prog 28 #[.pointer (some ⟨b, 0, none⟩), .int .u8 c] w fun e w' => e = .returned .nilIface ∧ (Lib.BuilderAt 55 5 B b (.pointer (some ⟨b, 0, none⟩)) (bs ++ [.int .u8 c]) w' ∧ Below B w w') :=
    Any.Builder_WriteByte lays167 extra B b bs c w h hlen hBw
  refine key.mono ?_
  rintro e w' ⟨rfl, h1, h2⟩
  exact ⟨rfl, .inr h1, h2⟩

/-- String, whatever the builder holds, by the shelf's contract. -/
theorem string_any (B b : Nat) (l : List UInt8) (w : World) (h : Lib.IsBuilder 55 5 B b (Lib.byteCells l) w) (hBw : B ≤ w.heap.size) :
    Calls Try.prog 27 #[.pointer (some ⟨b, 0, none⟩)] w fun e w' => e = .returned (.string ⟨l.toArray⟩) ∧ Below B w w' :=
  Any.Builder_String_any lays169 extra B b l w h hBw

end Go.Proofs.Qxb6000614a
