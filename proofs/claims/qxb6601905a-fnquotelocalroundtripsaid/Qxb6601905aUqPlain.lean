/-
  Unquoting as a plain function on lists of bytes: no Go in sight.
-/
import Derived.Below
namespace Go.Proofs.Qxb6601905a.Uq

/-- A string's bytes; the string of these bytes. -/
def bs (x : ByteArray) : List UInt8 := x.data.toList
def mk (l : List UInt8) : ByteArray := ⟨l.toArray⟩
theorem bs_length (s : ByteArray) : (bs s).length = s.size := by
  unfold bs; rw [Array.length_toList]; rfl
theorem bs_mk (l : List UInt8) : bs (mk l) = l := by simp [bs, mk]
theorem mk_bs (s : ByteArray) : mk (bs s) = s := by simp [bs, mk]
theorem mk_size (l : List UInt8) : (mk l).size = l.length := by rw [← bs_length, bs_mk]
theorem bs_extract (s : ByteArray) (a b : Nat) : bs (s.extract a b) = ((bs s).drop a).take (b - a) := by
  unfold bs; simp
theorem bs_get (s : ByteArray) (k : Nat) (h : k < s.size) : (bs s)[k]? = some (s[k]'h) := by
  unfold bs
  rw [Array.getElem?_toList, Array.getElem?_eq_getElem (by exact h)]
  rfl

/-- The body without its escapes: a backslash that a byte follows is dropped and that byte kept. -/
def unq : List UInt8 → List UInt8
  | [] => []
  | [c] => [c]
  | c :: d :: r => if c = 92 then d :: unq r else c :: unq (d :: r)

theorem unq_esc (d : UInt8) (r : List UInt8) : unq (92 :: d :: r) = d :: unq r := by simp [unq]
theorem unq_plain (c : UInt8) (r : List UInt8) (h : c ≠ 92) : unq (c :: r) = c :: unq r := by
  cases r with
  | nil => simp [unq]
  | cons d r => simp [unq, h]
theorem unq_one (c : UInt8) : unq [c] = [c] := rfl

theorem unq_length : ∀ l : List UInt8, (unq l).length ≤ l.length ∧ l.length ≤ 2 * (unq l).length
  | [] => by simp [unq]
  | [c] => by simp [unq]
  | c :: d :: r => by
    unfold unq
    split
    · have := unq_length r
      simp; omega
    · have := unq_length (d :: r)
      simp at this ⊢
      omega

/-- UnquoteLocal. -/
def uq (s : ByteArray) : ByteArray := if s.size < 2 ∨ (bs s)[0]? ≠ some 34 then s else mk (unq (bs (s.extract 1 (s.size - 1))))

end Go.Proofs.Qxb6601905a.Uq
