/-
  A slice of bytes that the call itself made and appends to: what is known of it ('Buf'), and append as one law for the walk, whatever is appended (a string's bytes, a short slice).
-/
import Derived.Test.Qxb6601905aUqWalk
import Derived.WalkKit
import Derived.WalkSpells
import Derived.WalkLawsBesides
import Derived.Deep.AppendSrc
import Derived.Deep.MidRow
import Derived.Deep.RegionLaw
import Derived.Deep.QuietTactic
import Derived.BigQuiet
namespace Go.Proofs.Qxb6601905a.Uq
open Go.RowKit

/-- Bytes as cells. -/
def cells (l : List UInt8) : List Value := l.map fun c => Value.int .u8 c.toNat
theorem cells_length (l : List UInt8) : (cells l).length = l.length := by simp [cells]
theorem cells_get (l : List UInt8) (j : Nat) : (cells l)[j]? = l[j]?.map fun c => Value.int .u8 c.toNat := by simp [cells]
theorem cells_one (l : List UInt8) : ∀ u ∈ cells l, u.oneCell' = true := by
  intro u hu
  obtain ⟨_, _, rfl⟩ := List.mem_map.1 hu
  rfl

theorem cells_append (a b : List UInt8) : cells (a ++ b) = cells a ++ cells b := by simp [cells]

/-- The slice v holds the bytes l; it is nil, or lies at the head of a block from B on, all of whose capacity may be written. -/
def Buf (w : World) (B : Nat) (v : Value) (l : List UInt8) : Prop :=
  (v = .slice none 0 0 ∧ l = []) ∨
  ∃ g cap, v = .slice (some ⟨g, 0, none⟩) l.length cap ∧ B ≤ g ∧ g < w.heap.size ∧ l.length ≤ cap ∧ cap ≤ maxLen ∧ w.rangeAt g 0 (cells l) ∧ w.there g 0 cap

theorem Buf.bare (w : World) (B : Nat) : Buf w B (.slice none 0 0) [] := .inl ⟨rfl, rfl⟩

theorem Buf.later {w w' : World} {B : Nat} {v : Value} {l : List UInt8} (h : Buf w B v l) (hb : Below w.heap.size w w') : Buf w' B v l := by
  rcases h with h | ⟨g, cap, hv, hB, hg, hl, hm, hr, ht⟩
  · exact .inl h
  · refine .inr ⟨g, cap, hv, hB, Nat.lt_of_lt_of_le hg hb.size, hl, hm, fun j v hj => ?_, fun j hj => ?_⟩
    · rw [hb.cell (p := ⟨g, 0 + j, none⟩) hg]; exact hr j v hj
    · rw [hb.cell (p := ⟨g, 0 + j, none⟩) hg, hb.frozen (p := ⟨g, 0 + j, none⟩) hg]; exact ht j hj

theorem below_setCells {B g : Nat} {w0 : World} (hBg : B ≤ g) : ∀ (vs : List Value) (o : Nat) (w : World), Below B w0 w → Below B w0 (w.setCells g o vs)
  | [], _, _, h => h
  | v :: r, o, w, h => by
    rw [World.setCells]
    exact below_setCells hBg r (o + 1) _ (h.setCell (p := ⟨g, o, none⟩) hBg v)

theorem size_setCells (g : Nat) : ∀ (vs : List Value) (o : Nat) (w : World), (w.setCells g o vs).heap.size = w.heap.size
  | [], _, _ => rfl
  | v :: r, o, w => by
    rw [World.setCells, size_setCells g r]
    simp [World.setCell]

/-- append onto such a slice: the run. -/
theorem run_append_buf {w : World} {B : Nat} {v : Value} {l : List UInt8} (h : Buf w B v l) (hB : B ≤ w.heap.size) (tx ty : TypeId) (x : Value) (news : List UInt8) (hs : Src Try.prog 1 tx x news.length (cells news) w)
    (hbd : l.length + news.length ≤ 100000000) :
    ∃ v' w', (Builtin.append_ #[26, tx] ty #[v, x]).run Try.prog w = .ok v' w' ∧ Buf w' B v' (l ++ news) ∧ Below B w w' := by
  obtain ⟨i, hi, hz0, hz1, hz2⟩ := info_parts info5
  have hs' : Src Try.prog i.size tx x news.length (cells news) w := by rw [hz1]; exact hs
  -- the arm that grows
  have grow : ∀ (ao : Option Addr) (cap : Nat), v = .slice ao l.length cap → cap < l.length + news.length → (Builtin.firstCells i.size l.length (.slice ao l.length cap)).run Try.prog w.drew = .ok (cells l).toArray w.drew →
      ∃ v' w', (Builtin.append_ #[26, tx] ty #[v, x]).run Try.prog w = .ok v' w' ∧ Buf w' B v' (l ++ news) ∧ Below B w w' := by
    intro ao cap hv hlt hold
    have hr := run_append_grow_src (P := Try.prog) w 26 tx ty 5 i (.int .u8 0) Try.underlying26 hi hz0 ao l.length cap (cells l) hold x news.length (cells news) hs' hlt (by omega) (growslice_fits (by omega) (by rw [hz2]; omega))
    rw [hv]
    refine ⟨_, _, hr, .inr ⟨w.heap.size, _, by rw [List.length_append], hB, by simp, by rw [List.length_append]; exact grownCap_ge _ _ _ _, grownCap_le_maxLen _ _ _ _ (by unfold maxLen; omega), ?_, ?_⟩, ((Below.refl B w).drew).alloc hB _⟩
    · intro j u hj
      rw [Nat.zero_add, cells_append] at *
      have hlt2 : j < (cells l ++ cells news).length := (List.getElem?_eq_some_iff.1 hj).1
      have hc := World.cell?_alloc_mark w.drew ((cells l ++ cells news).toArray ++ Builtin.zeroCells (Value.int .u8 0).cells (grownCap w (l.length + news.length) cap 5 - (l.length + news.length))) 5 (0, 0) j
      refine Eq.trans hc ?_
      rw [Array.getElem?_append_left (by simpa using hlt2)]
      simpa using hj
    · intro j hj
      rw [Nat.zero_add]
      have hc := World.cell?_alloc_mark w.drew ((cells l ++ cells news).toArray ++ Builtin.zeroCells (Value.int .u8 0).cells (grownCap w (l.length + news.length) cap 5 - (l.length + news.length))) 5 (0, 0) j
      have hge := grownCap_ge w (l.length + news.length) cap 5
      have hsz : ((cells l ++ cells news).toArray ++ Builtin.zeroCells (Value.int .u8 0).cells (grownCap w (l.length + news.length) cap 5 - (l.length + news.length))).size = grownCap w (l.length + news.length) cap 5 := by
        rw [Array.size_append, size_zeroCells]
        simp [cells_length, Value.cells]
        omega
      refine ⟨?_, ?_⟩
      · rw [show (⟨w.heap.size, j, none⟩ : Addr) = ⟨w.drew.heap.size, j, none⟩ from rfl, hc, Array.getElem?_eq_getElem (by rw [hsz]; exact hj)]
        rfl
      · exact frozen_of_row _ w.heap.size j _ 5 (heap_alloc_new w.drew _)
  rcases h with ⟨rfl, rfl⟩ | ⟨g, cap, rfl, hBg, hg, hl, hm, hr, ht⟩
  · by_cases h0 : news.length = 0
    · obtain rfl : news = [] := List.eq_nil_of_length_eq_zero h0
      refine ⟨.slice none 0 0, w, ?_, .inl ⟨rfl, rfl⟩, Below.refl _ _⟩
      have hc : (Builtin.firstCells i.size 0 x).run Try.prog w = .ok #[] w := hs'.cells
      rcases hs.kind with ⟨e', hk⟩ | hk <;> simp [Builtin.append_, run_underlying Try.underlying26, run_underlying hk, sizeOf, typeInfo, hi, hs.len, hc]
    · exact grow none 0 rfl (by simpa using Nat.pos_of_ne_zero h0) (by simp [Builtin.firstCells, cells])
  · by_cases hroom : l.length + news.length ≤ cap
    · have hr2 := run_append_room_src (P := Try.prog) w 26 tx ty 5 i Try.underlying26 hi g 0 l.length cap x news.length (cells news) hs' hroom
        (fun j hj => by rw [cells_length] at hj; rw [hz1]; simpa using (ht (l.length + j) (by omega)).1) (fun j hj => by rw [cells_length] at hj; rw [hz1]; simpa using (ht (l.length + j) (by omega)).2)
      rw [hz1, Nat.mul_one, Nat.zero_add] at hr2
      refine ⟨_, _, hr2, .inr ⟨g, cap, by rw [List.length_append], hBg, by rw [size_setCells]; exact hg, by rw [List.length_append]; exact hroom, hm, ?_, World.there_setCells ht _ _ _⟩, below_setCells hBg _ _ _ (Below.refl B w)⟩
      intro j u hj
      rw [Nat.zero_add]
      rw [cells_append] at hj
      by_cases hjl : j < l.length
      · rw [World.cell?_setCells_out g _ _ _ _ (fun _ _ => .inl hjl)]
        rw [List.getElem?_append_left (by rw [cells_length]; exact hjl)] at hj
        have := hr j u hj
        rwa [Nat.zero_add] at this
      · rw [List.getElem?_append_right (by rw [cells_length]; omega), cells_length] at hj
        have hjn := (List.getElem?_eq_some_iff.1 hj)
        obtain ⟨hjn, hju⟩ := hjn
        have hin := World.cell?_setCells_in g (cells news) l.length w (fun i hi => by rw [cells_length] at hi; simpa using (ht (l.length + i) (by omega)).1) (j - l.length) hjn
        rw [show l.length + (j - l.length) = j from by omega] at hin
        rw [hin, hju]
    · exact grow (some ⟨g, 0, none⟩) cap rfl (by omega) (by
        rw [hz1]
        have := run_firstCells_some (P := Try.prog) w.drew 1 l.length ⟨g, 0, none⟩ l.length cap (cells l) (by simp [cells]) (fun j u hj => by rw [Addr.add_mid]; simpa using hr j u hj)
        exact this)

/-- .. at the operation, for the walk. -/
theorem wpList_append_buf {ops : Array Oper} {rest : List Oper} {o : Oper} {a : Act} {Q : Exit → Act → World → Prop} (w : World) (hgd : o.guard = none) (s x : Operand) (tx : TypeId)
    (ho : o.op = .call { callee := .builtin .append, args := #[s, x], argTypes := #[26, tx] }) (B : Nat) (v xv : Value) (l news : List UInt8) (hs : a.eval s = v) (hx : a.eval x = xv)
    (hb : Buf w B v l) (hB : B ≤ w.heap.size) (hsrc : Src Try.prog 1 tx xv news.length (cells news) w) (hbd : l.length + news.length ≤ 100000000)
    (h : ∀ v' w', Buf w' B v' (l ++ news) → Below B w w' → wpList Try.prog ops Q rest (a.put o.dst v') w') : wpList Try.prog ops Q (o :: rest) a w := by
  refine wpList_plain hgd fun K hK => ?_
  obtain ⟨v', w', hrun, r1, r2⟩ := run_append_buf hb hB tx o.type xv news hsrc hbd
  unfold Oper.wp
  simp [execOp, ho, resolve, invoke, builtin, hs, hx, hrun, Result.andThen]
  exact hK _ _ (h v' w' r1 r2)

/-- .. as one step of a region that draws its order. -/
theorem step_append_buf {ops : Array Oper} {o : Oper} {a : Act} {w : World} {K : Act → World → Prop} {Q : Exit → Act → World → Prop} {E : Prop} (hgd : o.guard = none) (s x : Operand) (tx : TypeId)
    (ho : o.op = .call { callee := .builtin .append, args := #[s, x], argTypes := #[26, tx] }) (B : Nat) (v xv : Value) (l news : List UInt8) (hs : a.eval s = v) (hx : a.eval x = xv)
    (hb : Buf w B v l) (hB : B ≤ w.heap.size) (hsrc : Src Try.prog 1 tx xv news.length (cells news) w) (hbd : l.length + news.length ≤ 100000000)
    (h : ∀ v' w', Buf w' B v' (l ++ news) → Below B w w' → K (a.put o.dst v') w') :
    if Region.wanted o (yielded ops a.tmps) = true then Oper.wp Try.prog o a w K Q else E := by
  have hw : Region.wanted o (yielded ops a.tmps) = true := by simp [Region.wanted, hgd]
  rw [if_pos hw]
  obtain ⟨v', w', hrun, r1, r2⟩ := run_append_buf hb hB tx o.type xv news hsrc hbd
  unfold Oper.wp
  simp [execOp, ho, resolve, invoke, builtin, hs, hx, hrun, Result.andThen]
  exact h v' w' r1 r2

/-- One byte, laid as a slice of one. -/
theorem src_one (w : World) (x : UInt8) : Src Try.prog 1 26 (.slice (some ⟨w.heap.size, 0, none⟩) 1 1) [x].length (cells [x]) (w.alloc (.cells #[.int .u8 (x.toNat : Int)] 5)) := by
  refine Src.ofSlice _ (e' := 5) Try.underlying26 ⟨w.heap.size, 0, none⟩ 1 1 (cells [x]) rfl (fun j u hj => ?_) (cells_one _)
  rw [Addr.add_mid, Nat.zero_add]
  have hc := World.cell?_alloc_mark w #[.int .u8 (x.toNat : Int)] 5 (0, 0) j
  rw [hc]
  simpa [cells] using hj

/-- 'string(b)' -/
theorem conv_buf {w : World} {B : Nat} {v : Value} {l : List UInt8} (h : Buf w B v l) : (convert 26 9 v).run Try.prog w = .ok (.string (mk l)) w := by
  rcases h with ⟨rfl, rfl⟩ | ⟨g, cap, rfl, _, _, _, _, hr, _⟩
  · exact run_convert_bytes_nil w 26 5 Try.underlying26 Try.underlying5 0 0 9 Try.underlying9
  · refine run_convert_bytes_back w 26 9 5 ⟨g, 0, none⟩ cap l Try.underlying26 Try.underlying5 Try.underlying9 (fun j hj => ?_)
    rw [Addr.add_mid]
    exact hr j _ (by rw [cells_get, List.getElem?_eq_getElem hj]; rfl)

/-- A new array, nothing in it yet. -/
theorem buf_fresh (w : World) (C : Array Value) (t : TypeId) (n : Nat) (h : C.size = n) (hn : n ≤ maxLen) : Buf (w.alloc (.cells C t)) w.heap.size (.slice (some ⟨w.heap.size, 0, none⟩) 0 n) [] := by
  refine .inr ⟨w.heap.size, n, rfl, Nat.le_refl _, by simp, Nat.zero_le _, hn, fun j u hj => by simp [cells] at hj, fun j hj => ?_⟩
  rw [Nat.zero_add, World.cell?_alloc_mark, Array.getElem?_eq_getElem (by omega)]
  exact ⟨rfl, frozen_of_row _ w.heap.size j _ t (heap_alloc_new w _)⟩

/-- 'make([]byte, 0, n)' -/
theorem make_buf (w : World) (c : Int) (h0 : 0 ≤ c) (hc : c ≤ 100000000) : ∃ w1, (Instr.makeSlice 26 (.int .i64 0) (.int .i64 c)).run Try.prog w = .ok (.slice (some ⟨w.heap.size, 0, none⟩) 0 c.toNat) w1 ∧
    Buf w1 w.heap.size (.slice (some ⟨w.heap.size, 0, none⟩) 0 c.toNat) [] ∧ Below w.heap.size w w1 := by
  obtain ⟨i, hi, hz0, hz1, hz2⟩ := info_parts info5
  have hmk := run_make (P := Try.prog) w 26 5 i (.int .u8 0) Try.underlying26 hi hz0 .i64 .i64 0 c (Int.le_refl _) h0 (by rw [hz2]; omega) (by omega)
  rw [hz1, Nat.mul_one] at hmk
  exact ⟨_, hmk, buf_fresh w _ 5 c.toNat (size_madeCells _ _) (by unfold maxLen; omega), (Below.refl _ _).alloc (Nat.le_refl _) _⟩

end Go.Proofs.Qxb6601905a.Uq
