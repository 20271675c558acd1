/-
  quoteLocalAB1, isPrintAB1, allPrintAB1: their contracts.
-/
import Derived.Test.Qxb6601905aUqBuf
namespace Go.Proofs.Qxb6601905a.Uq
open Go.RowKit

/-! ### the plain functions -/
/-- What one byte is quoted as. -/
def qtok (c : UInt8) : List UInt8 := if c = 34 ∨ c = 92 then [92, c] else [c]
/-- The body of the canonical quoting. -/
def quo : List UInt8 → List UInt8
  | [] => []
  | c :: r => qtok c ++ quo r
/-- The canonical quoting. -/
def quoted (l : List UInt8) : List UInt8 := 34 :: (quo l ++ [34])

theorem quo_append (a b : List UInt8) : quo (a ++ b) = quo a ++ quo b := by
  induction a with
  | nil => rfl
  | cons c r ih => simp [quo, ih]
theorem qtok_length (c : UInt8) : 1 ≤ (qtok c).length ∧ (qtok c).length ≤ 2 := by
  unfold qtok; split <;> simp
theorem quo_length (l : List UInt8) : (quo l).length ≤ 2 * l.length := by
  induction l with
  | nil => simp [quo]
  | cons c r ih =>
    have := (qtok_length c).2
    simp [quo]
    omega
theorem unq_quo (l : List UInt8) : unq (quo l) = l := by
  induction l with
  | nil => rfl
  | cons c r ih =>
    unfold quo qtok
    split
    · rw [List.cons_append, List.cons_append, unq_esc, List.nil_append, ih]
    · rename_i h
      rw [List.cons_append, List.nil_append, unq_plain c _ (fun e => h (.inr e)), ih]

/-- Printable US-ASCII? -/
def prt (n : Int) : Bool := decide (32 ≤ n ∧ n ≤ 126)
def allP (l : List UInt8) : Bool := l.all fun c => prt c.toNat

theorem ret_bool {a b : Bool} (h : a = b) : Ending.returned (.bool a) = .returned (.bool b) := by rw [h]

/-! ### the walks -/
theorem print_any (n : Int) (w : World) : Calls Try.prog 20 #[.int .u8 n] w fun e w' => e = .returned (.bool (prt n)) ∧ w = w' := by
  go_enter Try.func20, Try.ntmps20
  go_wp2
  all_goals
    go_ret
    refine ⟨ret_bool ?_, rfl⟩
    unfold prt
    rw [Bool.eq_iff_iff]
    simp
    omega

theorem allP_false {l : List UInt8} {k : Nat} {c : UInt8} (h : l[k]? = some c) (hp : prt c.toNat = false) : allP l = false := by
  unfold allP
  rw [List.all_eq_false]
  exact ⟨c, List.mem_of_getElem? h, by simp [hp]⟩

set_option maxHeartbeats 400000 in
theorem allPrint_any (s : ByteArray) (hs : s.size ≤ 4000000) (w : World) : Calls Try.prog 13 #[.string s] w fun e w' => e = .returned (.bool (allP (bs s))) ∧ w = w' := by
  go_enter Try.func13, Try.ntmps13
  go_wp2
  go_loop [3] (fun i => ∃ k : Nat, k ≤ s.size ∧ i = .int .i64 k ∧ ∀ c ∈ (bs s).take k, prt c.toNat = true) (fun i => s.size - (intOf i).toNat)
  case atStart => exact ⟨0, by omega, rfl, by simp⟩
  case round =>
    obtain ⟨k, hk, rfl, hall⟩ := hrel
    have HA : Hid (∀ c ∈ (bs s).take k, prt c.toNat = true) := hall
    clear hall
    by_cases hlt : k < s.size
    · obtain ⟨c, hc⟩ : ∃ c, c = s[k]'hlt := ⟨_, rfl⟩
      have hg : (bs s)[k]? = some c := by rw [bs_get s k hlt, hc]
      have hik := idx_at s k c hg
      have HG : Hid ((bs s)[k]? = some c) := hg
      clear hc hg
      go_wp2_with fail
      refine (print_any _ _).mono ?_
      rintro e w1 ⟨rfl, rfl⟩
      cases hp : prt (c.toNat : Int)
      · have HR : Hid (allP (bs s) = false) := allP_false HG.out hp
        go_wp2
        go_ret
        exact ⟨ret_bool HR.out.symm, rfl⟩
      · go_wp2
        go_round
        case rel =>
          refine ⟨k + 1, by omega, by go_num, fun d hd => ?_⟩
          obtain ⟨hk2, e⟩ := List.getElem?_eq_some_iff.1 HG.out
          rw [List.take_succ_eq_append_getElem hk2, e] at hd
          rcases List.mem_append.1 hd with h | h
          · exact HA.out d h
          · rw [List.mem_singleton.1 h]; exact hp
        case measure => simp [intOf]; omega
    · have HR : Hid (allP (bs s) = true) := by
        show allP (bs s) = true
        have h := HA.out
        rw [List.take_of_length_le (by rw [bs_length]; omega)] at h
        unfold allP
        rw [List.all_eq_true]
        exact h
      clear HA
      go_wp2
      go_ret
      exact ⟨ret_bool HR.out.symm, rfl⟩
end Go.Proofs.Qxb6601905a.Uq
