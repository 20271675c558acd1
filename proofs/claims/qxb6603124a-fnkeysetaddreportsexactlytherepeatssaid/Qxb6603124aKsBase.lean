/-
  The key set of package bindr in memory, and the plain facts on it: what a block of ten cells holds, what a store makes of it, what a map of strings to bools says of a key. No walk here.
-/
import Derived.Test.Qxb6603124aRows
import Derived.WalkKit
import Derived.WalkSpells
import Derived.WalkLawsBesides
import Derived.Maps.OwnSet
namespace Go.Proofs.Qxb6603124a.Ks
open Go.RowKit Go.Maps

/-! ### the map of strings to bools -/
theorem law9 : Keyed Try.prog 9 := string_keyed Try.underlying9
theorem zero4 (w : World) : (zeroValue 4).run Try.prog w = .ok (.bool false) w := by kernel_rfl

/-- An element that reads as a bool's datum is that bool. -/
theorem elem_bool {H : Type} {P : Program} {e : TypeId} (he : P.underlying e = some .bool) {v : Value} {z : DataW H × List MemPlace} (h : plainElem P e v = some z) : ∃ x, v = .bool x ∧ z = (.lit (.bool x), []) := by
  unfold plainElem at h
  rw [he] at h
  cases v <;> simp at h
  exact ⟨_, rfl, h.symm⟩

/-- 'm[k]' in a map of bools that the call made: the world stands; what comes back is the bool that the datum has at the key. -/
theorem lookup_bool {H : Type} {P : Program} {k e t : TypeId} {w : World} {b n : Nat} {D : DataW H} (h : w.ownsMap P k (plainElem P e) b n D) (K : Keyed P k) (ht : P.underlying t = some (.map k e)) (he : P.underlying e = some .bool) (hz : (zeroValue e).run P w = .ok (.bool false) w)
    {key : Value} {kl : Lit} (hkey : keyOf P k key = some kl) (c : Bool) (hc : D.atKey kl (.lit (.bool false)) = .lit (.bool c)) :
    (Instr.lookup t (.map (some b)) key false).run P w = .ok (.bool c) w := by
  obtain ⟨v, ps, hrun, hv⟩ := h.lookup K ht hz (plainElem_bool he false) hkey
  obtain ⟨x, rfl, hx⟩ := elem_bool he hv
  simp only [Prod.mk.injEq] at hx
  rw [hc] at hx
  obtain ⟨hx, _⟩ := hx
  injection hx with hx
  injection hx with hx
  subst hx
  exact hrun

/-- .. at the operation, for the walk. -/
theorem wpList_lookup_bool {H : Type} {P : Program} (w : World) {ops : Array Oper} {rest : List Oper} {o : Oper} {a : Act} {Q : Exit → Act → World → Prop}
    (hg : o.guard = none) (m x : Operand) (t : TypeId) (hop : o.op = Op.lookup t m x false)
    (k e : TypeId) (K : Keyed P k) (ht : P.underlying t = some (.map k e)) (he : P.underlying e = some .bool) (hz : (zeroValue e).run P w = .ok (.bool false) w) (b n : Nat) (D : DataW H)
    (hm : a.eval m = .map (some b)) (hown : w.ownsMap P k (plainElem P e) b n D) (key : Value) (kl : Lit) (hx : a.eval x = key) (hkey : keyOf P k key = some kl) (c : Bool) (hc : D.atKey kl (.lit (.bool false)) = .lit (.bool c))
    (hK : wpList P ops Q rest (a.put o.dst (.bool c)) w) :
    wpList P ops Q (o :: rest) a w := by
  refine wpList_plain hg fun K' hK' => ?_
  have hrun := lookup_bool hown K ht he hz hkey c hc
  unfold Oper.wp
  simp [execOp, hop, hm, hx, hrun, Result.andThen]
  exact hK' _ _ hK

/-- 'make(map[K]V, 16)' -/
theorem make_hint (t k e : TypeId) (P : Program) (ht : P.underlying t = some (.map k e)) (n : Int) (w : World) : (Instr.makeMap t (some (.int .i64 n))).run P w = .ok (.map (some w.heap.size)) (w.alloc (.map #[] 0)) := by
  simp [Instr.makeMap, run_underlying ht, asInt]
  rfl

/-! ### the ten cells -/
def cellsOf (few : List ByteArray) (n : Int) (m : Option Nat) : List Value := few.map Value.string ++ [.int .i64 n, .map m]

/-- Block b holds a key set: eight strings, the count, the map. -/
def At (w : World) (b : Nat) (few : List ByteArray) (n : Nat) (m : Option Nat) : Prop :=
  few.length = 8 ∧ w.heap[b]? = some (.cells (cellsOf few n m).toArray 45 (0, 0))

theorem At.lt {w : World} {b : Nat} {few : List ByteArray} {n : Nat} {m : Option Nat} (h : At w b few n m) : b < w.heap.size := (Array.getElem?_eq_some_iff.1 h.2).1

theorem At.cell {w : World} {b : Nat} {few : List ByteArray} {n : Nat} {m : Option Nat} (h : At w b few n m) (j : Nat) : w.cell? ⟨b, j, none⟩ = (cellsOf few n m)[j]? := by
  simp [World.cell?, h.2]

theorem At.count {w : World} {b : Nat} {few : List ByteArray} {n : Nat} {m : Option Nat} (h : At w b few n m) : w.cell? ⟨b, 8, none⟩ = some (.int .i64 n) := by
  rw [h.cell]; unfold cellsOf; rw [List.getElem?_append_right (by simp [h.1])]; simp [h.1]

theorem At.many {w : World} {b : Nat} {few : List ByteArray} {n : Nat} {m : Option Nat} (h : At w b few n m) : w.cell? ⟨b, 9, none⟩ = some (.map m) := by
  rw [h.cell]; unfold cellsOf; rw [List.getElem?_append_right (by simp [h.1])]; simp [h.1]

theorem At.key {w : World} {b : Nat} {few : List ByteArray} {n : Nat} {m : Option Nat} (h : At w b few n m) (j : Nat) (hj : j < 8) : w.cell? ⟨b, j, none⟩ = some (.string (few.getD j ByteArray.empty)) := by
  have := h.1
  rw [h.cell]; unfold cellsOf; rw [List.getElem?_append_left (by simp; omega)]; simp [List.getElem?_eq_getElem (show j < few.length by omega)]

theorem At.free {w : World} {b : Nat} {few : List ByteArray} {n : Nat} {m : Option Nat} (h : At w b few n m) (j : Nat) : w.frozen? ⟨b, j, none⟩ = false := by
  simp [World.frozen?, h.2]

theorem At.heap {w w' : World} {b : Nat} {few : List ByteArray} {n : Nat} {m : Option Nat} (h : At w b few n m) (e : w'.heap[b]? = w.heap[b]?) : At w' b few n m := ⟨h.1, e.trans h.2⟩

theorem At.alloc {w : World} {b : Nat} {few : List ByteArray} {n : Nat} {m : Option Nat} (h : At w b few n m) (o : Obj) : At (w.alloc o) b few n m := h.heap (Below.heap_alloc w o b h.lt)

theorem heap_set {w : World} {b : Nat} {cs : Array Value} {t : TypeId} (h : w.heap[b]? = some (.cells cs t (0, 0))) (j : Nat) (v : Value) : (w.setCell ⟨b, j, none⟩ v).heap[b]? = some (.cells (cs.setIfInBounds j v) t (0, 0)) := by
  simp [World.setCell, Array.getElem?_modify, h]

theorem At.putKey {w : World} {b : Nat} {few : List ByteArray} {n : Nat} {m : Option Nat} (h : At w b few n m) (j : Nat) (hj : j < 8) (s : ByteArray) : At (w.setCell ⟨b, j, none⟩ (.string s)) b (few.set j s) n m := by
  refine ⟨by simp [h.1], ?_⟩
  rw [heap_set h.2]
  have := h.1
  congr 2
  unfold cellsOf
  simp [this, hj]

theorem At.putCount {w : World} {b : Nat} {few : List ByteArray} {n : Nat} {m : Option Nat} (h : At w b few n m) (k : Nat) : At (w.setCell ⟨b, 8, none⟩ (.int .i64 k)) b few k m := by
  refine ⟨h.1, ?_⟩
  rw [heap_set h.2]
  have := h.1
  congr 2
  unfold cellsOf
  simp [this]

theorem At.putMany {w : World} {b : Nat} {few : List ByteArray} {n : Nat} {m : Option Nat} (h : At w b few n m) (r : Option Nat) : At (w.setCell ⟨b, 9, none⟩ (.map r)) b few n r := by
  refine ⟨h.1, ?_⟩
  rw [heap_set h.2]
  have := h.1
  congr 2
  unfold cellsOf
  simp [this]

/-! ### what the set holds -/
/-- A string's bytes. -/
def bs (x : ByteArray) : List UInt8 := x.data.toList

/-- The map at block bm, of at most c entries, says of each string whether it is among S. -/
def Says (w : World) (bm c : Nat) (S : List (List UInt8)) : Prop :=
  ∃ D : DataW Unit, w.ownsMap Try.prog 9 (plainElem Try.prog 4) bm c D ∧ ∀ l : List UInt8, D.atKey (.string l) (.lit (.bool false)) = .lit (.bool (decide (l ∈ S)))

/-- Block b holds a key set whose keys are those of S; its map, if it has one, lies behind b and has at most c entries. -/
def Holds (w : World) (b c : Nat) (S : List (List UInt8)) : Prop :=
  ∃ few n m, At w b few n m ∧ (∀ x ∈ few, x.size ≤ maxLen) ∧
    ((m = none ∧ n ≤ 8 ∧ ∀ l, l ∈ S ↔ l ∈ (few.map bs).take n) ∨ ∃ bm, m = some bm ∧ b < bm ∧ Says w bm c S)

theorem isKey (x : List UInt8) : WideAt.IsKeyLit (.string x) := by
  first | exact trivial | constructor | simp [WideAt.IsKeyLit]

/-- A store of 'true' at a key. -/
theorem says_put {D : DataW Unit} {S : List (List UInt8)} (hD : IsMap D) (hs : ∀ l : List UInt8, D.atKey (.string l) (.lit (.bool false)) = .lit (.bool (decide (l ∈ S)))) (key : List UInt8) :
    ∀ l : List UInt8, (D.put (.string key) (.lit (.bool true))).atKey (.string l) (.lit (.bool false)) = .lit (.bool (decide (l ∈ key :: S))) := by
  intro l
  by_cases e : l = key
  · subst e
    rw [atKey_put_same hD (isKey _)]
    simp
  · rw [atKey_put_other (fun h => e (by injection h)), hs]
    simp [e]

end Go.Proofs.Qxb6603124a.Ks
