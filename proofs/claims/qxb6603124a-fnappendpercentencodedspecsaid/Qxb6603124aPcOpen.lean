/-
  A slice of bytes among the arguments, opened as a list of bytes.
-/
import Derived.Test.Qxb6603124aPcClone
import Derived.ProofKit
import Derived.OpenShut
import Derived.ShutString
import Derived.ChangeOld
namespace Go.Proofs.Qxb6603124a.Pc
open Go.ChangeShapes Go.WideShapes Go.ChangeAt Go.RowKit

theorem own : ownKnob Try.prog.godebug = none := by kernel_rfl
theorem laidOut : laidOutB Try.prog = true := by kernel_rfl
theorem cells5 : Try.prog.cellsOf 5 = 1 := by kernel_rfl

/-- The numbers as bytes. -/
def toBytes (zs : List Int) : List UInt8 := zs.map fun z => UInt8.ofNat z.toNat

theorem cells_toBytes (zs : List Int) (h : ∀ n ∈ zs, (Lit.int .u8 n).wf = true) : cells (toBytes zs) = zs.map (Value.int .u8) := by
  unfold cells toBytes
  rw [List.map_map]
  refine List.map_congr_left (fun z hz => ?_)
  have hb := bounds_u8 (h z hz)
  have e : (((UInt8.ofNat z.toNat).toNat : Nat) : Int) = z := by
    rw [UInt8.toNat_ofNat']
    omega
  show Value.int .u8 _ = _
  rw [e]

theorem came_of {H : Type} {enc : TypeId × Value → H} {W : World} {a : Option Addr} {len cap : Nat} {d : DataW H} {p : List MemPlace} (h : DataW.Trod enc Try.prog W 0 (fun _ => true) true 25 (.slice a len cap) d p) :
    ∃ l : List UInt8, l.length = len ∧ Came W a l ∧ l.length ≤ maxLen := by
  obtain ⟨fuel, hf⟩ := h
  rcases open_ints Try.underlying25 Try.underlying5 cells5 hf with ⟨hcs, _⟩ | ⟨x, len', cap', zs, hcs, _, hl, hm, hz, _, hcell, hwz⟩
  · simp [Value.cells] at hcs
    obtain ⟨rfl, rfl, rfl⟩ := hcs
    exact ⟨[], rfl, .inl ⟨rfl, rfl⟩, by decide⟩
  · simp [Value.cells] at hcs
    obtain ⟨rfl, rfl, rfl⟩ := hcs
    simp only [if_true] at hz
    have hlen : (toBytes (zs.take len)).length = len := by simp [toBytes]; omega
    refine ⟨toBytes (zs.take len), hlen, .inr ⟨x, rfl, fun j u hj => ?_⟩, by rw [hlen]; omega⟩
    rw [cells_toBytes _ (fun n hn => hwz n (List.mem_of_mem_take hn))] at hj
    have hjl : j < len := by
      have := (List.getElem?_eq_some_iff.1 hj).1
      simp at this
      omega
    rw [hcell j (by omega), ← hj]
    simp [hjl, List.getElem?_eq_getElem (show j < zs.length by omega)]

end Go.Proofs.Qxb6603124a.Pc
