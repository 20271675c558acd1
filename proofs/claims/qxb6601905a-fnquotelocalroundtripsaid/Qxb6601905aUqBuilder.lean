/-
  strings.Builder at this program: WriteByte and String, by the library's own contracts (Derived/Shelf/Strings/Builder1.lean), laid in plain words at this program's numbers (the shelf's tool lays String; WriteByte's table is completed by hand: two of its numbers are named by no body of the closure).
-/
import Derived.Test.Qxb6601905aRows
import Derived.WalkKit
import Derived.WalkSpells
import Derived.WalkLawsBesides
import Derived.Shelf.Strings.Builder1
namespace Go.Proofs.Qxb6601905a.Uq
open Go.RowKit

theorem info5 : (Try.prog.info? 5).map (fun i => (i.zero, i.size, i.bytes)) = some (some (.int .u8 0), 1, 1) := by kernel_rfl

/-! ### the layings -/
def ren167 : Go.Shelf.Ren := ⟨fun | 167 => 22 | 240 => 24 | 276 => 25 | n => n, fun | 0 => 0 | 4 => 4 | 5 => 5 | 9 => 9 | 20 => 20 | 37 => 26 | 70 => 27 | 72 => 29 | 75 => 31 | 80 => 33 | 164 => 35 | n => n, fun | n => n⟩
theorem lays167 : Go.Proofs.Lays.n167 Try.prog ren167 := {
  mixed := by kernel_rfl
  f167 := Try.func22.trans (congrArg some (by kernel_rfl))
  f240 := Try.func24.trans (congrArg some (by kernel_rfl))
  f276 := Try.func25.trans (congrArg some (by kernel_rfl))
  t0 := Try.underlying0
  a0 := Try.isAgg0
  z0 := Try.sizeOf0
  v0 := Try.zeroValue0
  t4 := Try.underlying4
  a4 := Try.isAgg4
  z4 := Try.sizeOf4
  v4 := Try.zeroValue4
  t5 := Try.underlying5
  a5 := Try.isAgg5
  z5 := Try.sizeOf5
  v5 := Try.zeroValue5
  t9 := Try.underlying9
  a9 := Try.isAgg9
  z9 := Try.sizeOf9
  v9 := Try.zeroValue9
  t20 := Try.underlying20
  a20 := Try.isAgg20
  z20 := Try.sizeOf20
  v20 := Try.zeroValue20
  t37 := Try.underlying26
  a37 := Try.isAgg26
  z37 := Try.sizeOf26
  v37 := Try.zeroValue26
  t70 := Try.underlying27
  a70 := Try.isAgg27
  z70 := Try.sizeOf27
  v70 := Try.zeroValue27
  t72 := Try.underlying29
  a72 := Try.isAgg29
  z72 := Try.sizeOf29
  v72 := Try.zeroValue29
  t75 := Try.underlying31
  a75 := Try.isAgg31
  z75 := Try.sizeOf31
  v75 := Try.zeroValue31
  t164 := Try.underlying35
  a164 := Try.isAgg35
  z164 := Try.sizeOf35
  v164 := Try.zeroValue35 }
theorem extra167 : Builder.Extra Try.prog ren167 := {
  sizeBuilder := by kernel_rfl
  liesBuilder := by kernel_rfl
  t5 := Try.underlying5
  a5 := Try.isAgg5
  z5 := Try.sizeOf5
  v5 := Try.zeroValue5
  infoByte := by kernel_rfl
  cellsByte := by kernel_rfl
  sizeByte := by kernel_rfl
  neB5 := by decide }
def ren169 : Go.Shelf.Ren := ⟨fun | 169 => 23 | n => n, fun | 70 => 27 | 9 => 9 | 0 => 0 | 72 => 29 | 37 => 26 | 127 => 34 | 3 => 3 | 5 => 5 | n => n, fun | n => n⟩
theorem lays169 : Go.Proofs.Lays.n169 Try.prog ren169 := {
  mixed := by kernel_rfl
  f169 := Try.func23.trans (congrArg some (by kernel_rfl))
  t0 := Try.underlying0
  a0 := Try.isAgg0
  z0 := Try.sizeOf0
  v0 := Try.zeroValue0
  t3 := Try.underlying3
  a3 := Try.isAgg3
  z3 := Try.sizeOf3
  v3 := Try.zeroValue3
  t9 := Try.underlying9
  a9 := Try.isAgg9
  z9 := Try.sizeOf9
  v9 := Try.zeroValue9
  t37 := Try.underlying26
  a37 := Try.isAgg26
  z37 := Try.sizeOf26
  v37 := Try.zeroValue26
  t70 := Try.underlying27
  a70 := Try.isAgg27
  z70 := Try.sizeOf27
  v70 := Try.zeroValue27
  t72 := Try.underlying29
  a72 := Try.isAgg29
  z72 := Try.sizeOf29
  v72 := Try.zeroValue29
  t127 := Try.underlying34
  a127 := Try.isAgg34
  z127 := Try.sizeOf34
  v127 := Try.zeroValue34 }
theorem extra169 : Builder.Extra Try.prog ren169 := {
  sizeBuilder := by kernel_rfl
  liesBuilder := by kernel_rfl
  t5 := Try.underlying5
  a5 := Try.isAgg5
  z5 := Try.sizeOf5
  v5 := Try.zeroValue5
  infoByte := by kernel_rfl
  cellsByte := by kernel_rfl
  sizeByte := by kernel_rfl
  neB5 := by decide }

theorem writeByte_any (B b : Nat) (bs : List Value) (c : Int) (w : World) (h : Lib.IsBuilder 29 5 B b bs w) (hlen : bs.length + 1 ≤ 140737488355328) (hBw : B ≤ w.heap.size) :
    Calls Try.prog 22 #[.pointer (some ⟨b, 0, none⟩), .int .u8 c] w fun e w' => e = .returned .nilIface ∧ (Lib.BuilderAt 29 5 B b (.pointer (some ⟨b, 0, none⟩)) (bs ++ [.int .u8 c]) w' ∧ Below B w w') :=
  Any.Builder_WriteByte lays167 extra167 B b bs c w h hlen hBw

theorem string_any (B b : Nat) (l : List UInt8) (w : World) (h : Lib.IsBuilder 29 5 B b (Lib.byteCells l) w) (hBw : B ≤ w.heap.size) :
    Calls Try.prog 23 #[.pointer (some ⟨b, 0, none⟩)] w fun e w' => e = .returned (.string ⟨l.toArray⟩) ∧ Below B w w' :=
  Any.Builder_String_any lays169 extra169 B b l w h hBw

/-! ### the builder of a call, as one list of bytes -/
/-- Block b holds a builder of the bytes l: new and untouched, or written to. -/
def Bld (w : World) (B b : Nat) (l : List UInt8) : Prop :=
  (l = [] ∧ B ≤ b ∧ w.heap[b]? = some (.cells #[.pointer none, .slice none 0 0] 29 (0, 0))) ∨ (l ≠ [] ∧ Lib.BuilderAt 29 5 B b (.pointer (some ⟨b, 0, none⟩)) (Lib.byteCells l) w)

theorem Bld.is {w : World} {B b : Nat} {l : List UInt8} (h : Bld w B b l) : Lib.IsBuilder 29 5 B b (Lib.byteCells l) w := by
  rcases h with ⟨rfl, hB, hb⟩ | ⟨_, h⟩
  · exact .inl ⟨hB, _, hb, World.ownsRow_nil _ _ _ _, by simp [Value.ownBlock]⟩
  · exact .inr h

theorem write_bld (B b : Nat) (l : List UInt8) (c : UInt8) (w : World) (h : Bld w B b l) (hlen : l.length ≤ 100000000) (hBw : B ≤ w.heap.size) :
    Calls Try.prog 22 #[.pointer (some ⟨b, 0, none⟩), .int .u8 c.toNat] w fun e w' => e = .returned .nilIface ∧ Bld w' B b (l ++ [c]) ∧ Below B w w' := by
  refine (writeByte_any B b _ c.toNat w h.is (by rw [Lib.byteCells_length]; omega) hBw).mono ?_
  rintro e w' ⟨rfl, h1, h2⟩
  refine ⟨rfl, .inr ⟨by simp, ?_⟩, h2⟩
  rw [Lib.byteCells_append]
  exact h1

theorem string_bld (B b : Nat) (l : List UInt8) (w : World) (h : Bld w B b l) (hBw : B ≤ w.heap.size) :
    Calls Try.prog 23 #[.pointer (some ⟨b, 0, none⟩)] w fun e w' => e = .returned (.string ⟨l.toArray⟩) ∧ Below B w w' :=
  string_any B b l w h.is hBw

end Go.Proofs.Qxb6601905a.Uq
