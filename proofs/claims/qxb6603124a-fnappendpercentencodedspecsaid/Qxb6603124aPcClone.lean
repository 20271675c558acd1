/-
  zzCloneBytes, zzCloneWithRoom, ZZAppendPercentEncoded: their contracts.
-/
import Derived.Test.Qxb6603124aPcCanon
import Derived.Laws.CopyRow
namespace Go.Proofs.Qxb6603124a.Pc
open Go.RowKit

/-- A slice of bytes that came in: nil, or 'len' cells behind an address that hold the bytes l. -/
def Came (w : World) (a : Option Addr) (l : List UInt8) : Prop :=
  (a = none ∧ l = []) ∨ ∃ ad, a = some ad ∧ ∀ j u, (cells l)[j]? = some u → w.cell? (ad.add j) = some u

theorem Came.later {w w' : World} {a : Option Addr} {l : List UInt8} (h : Came w a l) (hb : Below w.heap.size w w') : Came w' a l := by
  rcases h with h | ⟨ad, ha, hc⟩
  · exact .inl h
  · exact .inr ⟨ad, ha, fun j u hj => cell_later hb (hc j u hj)⟩

/-- It returns one of the two bools. -/
def ABool (e : Ending) : Prop := ∃ r, e = .returned (.bool r)
theorem ABool.mk {e : Ending} {r : Bool} (h : e = .returned (.bool r)) : ABool e := ⟨r, h⟩

theorem size5 : (Try.prog.info? 5).map (·.size) = some 1 := by kernel_rfl

theorem setRow_size (w : World) (g : Nat) (cs : Array Value) : (w.setRow g cs).heap.size = w.heap.size := by simp [World.setRow]

/-- make and copy, run. -/
theorem clone_steps (w : World) (ad : Addr) (l : List UInt8) (cap : Nat) (h : ∀ j u, (cells l)[j]? = some u → w.cell? (ad.add j) = some u) (c : Int) (hc : (l.length : Int) ≤ c) (hc2 : c ≤ 100000000) :
    ∃ w1 w2, (Instr.makeSlice 25 (.int .i64 l.length) (.int .i64 c)).run Try.prog w = .ok (.slice (some ⟨w.heap.size, 0, none⟩) l.length c.toNat) w1 ∧
      (Builtin.copy_ #[25, 25] 3 #[.slice (some ⟨w.heap.size, 0, none⟩) l.length c.toNat, .slice (some ad) l.length cap]).run Try.prog w1 = .ok (.int .i64 l.length) w2 ∧
      Buf w2 w.heap.size (.slice (some ⟨w.heap.size, 0, none⟩) l.length c.toNat) l ∧ Below w.heap.size w w2 := by
  obtain ⟨i, hi, hz0, hz1, hz2⟩ := info_parts info5
  have hmk := run_make (P := Try.prog) w 25 5 i (.int .u8 0) Try.underlying25 hi hz0 .i64 .i64 l.length c (by omega) hc (by rw [hz2]; omega) (by omega)
  rw [Int.toNat_natCast, hz1, Nat.mul_one] at hmk
  have hsz : (madeCells (Value.int .u8 0).cells c.toNat).size = c.toNat := size_madeCells _ _
  generalize madeCells (Value.int .u8 0).cells c.toNat = C at hmk hsz
  have hg : (w.alloc (.cells C 5)).heap[w.heap.size]? = some (.cells C 5 (0, 0)) := heap_alloc_new w _
  have hcp := run_copy_row (P := Try.prog) (w.alloc (.cells C 5)) 25 25 3 5 w.heap.size 0 l.length c.toNat ad l.length cap C 5 (cells l)
    Try.underlying25 size5 hg (by rw [cells_length]; exact (Nat.min_self _).symm)
    (fun j u hj => by
      have := h j u hj
      rw [World.cell?_alloc_lt _ _ _ (World.block_lt_of_cell? w _ this)]; exact this)
    (by rw [cells_length, hsz]; omega) (cells_one l)
  rw [cells_length, Nat.zero_add, List.take_zero, List.nil_append] at hcp
  obtain ⟨R, hR⟩ : ∃ R, R = (cells l ++ List.drop l.length C.toList).toArray := ⟨_, rfl⟩
  have hRs : R.size = c.toNat := by rw [hR]; simp [cells_length, hsz]; omega
  have hRc : ∀ (j : Nat) (u : Value), (cells l)[j]? = some u → R[j]? = some u := by
    intro j u hj
    rw [hR, List.getElem?_toArray, List.getElem?_append_left (List.getElem?_eq_some_iff.1 hj).1]
    exact hj
  rw [← hR] at hcp
  have hrow := setRow_heap (w.alloc (.cells C 5)) w.heap.size C R 5 (0, 0) hg
  refine ⟨_, _, hmk, hcp, .inr ⟨w.heap.size, c.toNat, rfl, Nat.le_refl _, by rw [setRow_size]; simp, by omega, by unfold maxLen; omega, ?_, ?_⟩, ?_⟩
  · intro j u hj
    rw [show 0 + j = j from Nat.zero_add j, cell_of_row _ w.heap.size j R 5 (0, 0) hrow]
    exact hRc j u hj
  · intro j hj
    rw [show 0 + j = j from Nat.zero_add j]
    refine ⟨?_, frozen_of_row _ w.heap.size j R 5 hrow⟩
    rw [cell_of_row _ w.heap.size j R 5 (0, 0) hrow, Array.getElem?_eq_getElem (by omega)]
    rfl
  · refine (((Below.refl w.heap.size w).alloc (Nat.le_refl _) _)).trans ⟨rfl, rfl, rfl, by rw [setRow_size]; exact Nat.le_refl _, fun k hk => setRow_other _ _ _ _ (by omega)⟩

theorem nil_eq (w : World) (a : Option Addr) (n c : Nat) : (binOp .eql 25 (.slice a n c) (.slice none 0 0)).run Try.prog w = .ok (.bool a.isNone) w := Lib.run_eql_slice_nil w 25 5 a n c 0 0 Try.underlying25

set_option maxHeartbeats 400000 in
theorem clone_any (w : World) (a : Option Addr) (l : List UInt8) (cap : Nat) (h : Came w a l) (hl : l.length ≤ 10000000) :
    Calls Try.prog 14 #[.slice a l.length cap] w fun e w' => ∃ v', e = .returned v' ∧ Buf w' w.heap.size v' l ∧ Below w.heap.size w w' := by
  have hnil := nil_eq
  rcases h with ⟨rfl, rfl⟩ | ⟨ad, rfl, hc⟩
  · go_enter Try.func14, Try.ntmps14
    go_wp2
    go_ret
    exact ⟨_, rfl, Buf.bare _ _, Below.refl _ _⟩
  · obtain ⟨w1, w2, hmk, hcp, hbuf, hbel⟩ := clone_steps w ad l cap hc l.length (by omega) (by omega)
    rw [Int.toNat_natCast] at hmk hcp hbuf
    generalize l.length = n at *
    go_enter Try.func14, Try.ntmps14
    go_wp2
    go_ret
    exact ⟨_, rfl, hbuf, hbel⟩

set_option maxHeartbeats 400000 in
theorem room_any (w : World) (a : Option Addr) (l : List UInt8) (cap : Nat) (h : Came w a l) (hl : l.length ≤ 10000000) (room : Int) (h0 : 0 ≤ room) (h1 : room ≤ 10000000) :
    Calls Try.prog 15 #[.slice a l.length cap, .int .i64 room] w fun e w' => ∃ v', e = .returned v' ∧ Buf w' w.heap.size v' l ∧ Below w.heap.size w w' := by
  have hnil := nil_eq
  rcases h with ⟨rfl, rfl⟩ | ⟨ad, rfl, hc⟩
  · go_enter Try.func15, Try.ntmps15
    go_wp2
    go_ret
    exact ⟨_, rfl, Buf.bare _ _, Below.refl _ _⟩
  · obtain ⟨w1, w2, hmk, hcp, hbuf, hbel⟩ := clone_steps w ad l cap hc (l.length + room) (by omega) (by omega)
    generalize l.length = n at *
    go_enter Try.func15, Try.ntmps15
    go_wp2
    go_ret
    exact ⟨_, rfl, hbuf, hbel⟩

theorem zzapp_any (B : Nat) (v : Value) (l : List UInt8) (s : ByteArray) (w : World) (hb : Buf w B v l) (hB : B ≤ w.heap.size) (hs : s.size ≤ 1048576) (hl : l.length ≤ 10000000) :
    Calls Try.prog 16 #[v, .string s] w fun e w' => ∃ v', e = .returned v' ∧ Buf w' B v' (l ++ enc (bs s)) ∧ Below B w w' := by
  go_enter Try.func16, Try.ntmps16
  go_wp2_with fail
  refine (app_any B v l s w hb hB hs hl).mono ?_
  rintro e w1 ⟨v', rfl, hbuf, hbel⟩
  go_wp2
  go_ret
  exact ⟨v', rfl, hbuf, hbel⟩
end Go.Proofs.Qxb6603124a.Pc
