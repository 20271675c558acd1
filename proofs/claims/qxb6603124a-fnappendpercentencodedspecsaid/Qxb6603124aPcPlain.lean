/-
  Percent-encoding as plain functions on lists of bytes: no Go in sight.
-/
import Derived.Below
namespace Go.Proofs.Qxb6603124a.Pc

/-- Is the byte of number n in the unreserved set? -/
def unr (n : Int) : Bool := decide ((65 ≤ n ∧ n ≤ 90) ∨ (97 ≤ n ∧ n ≤ 122) ∨ (48 ≤ n ∧ n ≤ 57) ∨ n = 45 ∨ n = 46 ∨ n = 95 ∨ n = 126)

/-- The hexadecimal digit of k. -/
def hexD (k : Nat) : UInt8 := ([48, 49, 50, 51, 52, 53, 54, 55, 56, 57, 65, 66, 67, 68, 69, 70] : List UInt8).getD k 0

/-- The value of an upper-case hexadecimal digit, or -1. -/
def hexV (n : Int) : Int := if 48 ≤ n ∧ n ≤ 57 then n - 48 else if 65 ≤ n ∧ n ≤ 70 then n - 65 + 10 else -1

/-- What one byte is written as. -/
def tok (c : UInt8) : List UInt8 := if unr c.toNat then [c] else [37, hexD (c.toNat / 16), hexD (c.toNat % 16)]

/-- What a string is written as. -/
def enc : List UInt8 → List UInt8
  | [] => []
  | c :: r => tok c ++ enc r

theorem enc_append (a b : List UInt8) : enc (a ++ b) = enc a ++ enc b := by
  induction a with
  | nil => rfl
  | cons c r ih => simp [enc, ih]

theorem tok_length (c : UInt8) : 1 ≤ (tok c).length ∧ (tok c).length ≤ 3 := by
  unfold tok; split <;> simp

theorem enc_length (l : List UInt8) : (enc l).length ≤ 3 * l.length := by
  induction l with
  | nil => simp [enc]
  | cons c r ih =>
    have := (tok_length c).2
    simp [enc]
    omega

theorem enc_snoc (l : List UInt8) (c : UInt8) : enc (l ++ [c]) = enc l ++ tok c := by
  rw [enc_append]; simp [enc]

/-- All bytes unreserved: nothing turns. -/
theorem enc_same : ∀ (l : List UInt8), (∀ c ∈ l, unr c.toNat = true) → enc l = l
  | [], _ => rfl
  | c :: r, h => by
    have hc := h c (by simp)
    simp [enc, tok, hc, enc_same r (fun x hx => h x (by simp [hx]))]

theorem byte_lt (c : UInt8) : (c.toNat : Int) < 256 := by have := c.toNat_lt; omega

theorem hexD_val (k : Nat) (hk : k < 16) : hexV (hexD k).toNat = k := by
  have : ∀ k, k < 16 → hexV (hexD k).toNat = k := by decide
  exact this k hk

theorem unr37 : unr 37 = false := by decide
end Go.Proofs.Qxb6603124a.Pc
