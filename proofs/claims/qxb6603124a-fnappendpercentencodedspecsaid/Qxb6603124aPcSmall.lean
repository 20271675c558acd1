/-
  unreserved, zzIsUnreserved, zzUpperHexValue: their contracts.
-/
import Derived.Test.Qxb6603124aPcBuf
import Derived.Test.Qxb6603124aPcPlain
namespace Go.Proofs.Qxb6603124a.Pc
open Go.RowKit

theorem ret_bool {a b : Bool} (h : a = b) : Ending.returned (.bool a) = .returned (.bool b) := by rw [h]
theorem unr_yes {n : Int} (h : (65 ≤ n ∧ n ≤ 90) ∨ (97 ≤ n ∧ n ≤ 122) ∨ (48 ≤ n ∧ n ≤ 57) ∨ n = 45 ∨ n = 46 ∨ n = 95 ∨ n = 126) : true = unr n := (decide_eq_true h).symm
theorem unr_last {n : Int} (h : ¬ ((65 ≤ n ∧ n ≤ 90) ∨ (97 ≤ n ∧ n ≤ 122) ∨ (48 ≤ n ∧ n ≤ 57))) : (n == 45 || n == 46 || n == 95 || n == 126) = unr n := by
  unfold unr
  rw [Bool.eq_iff_iff]
  simp only [Bool.or_eq_true, beq_iff_eq, decide_eq_true_eq]
  omega

set_option maxHeartbeats 400000 in
theorem unreserved_any (n : Int) (h0 : 0 ≤ n) (h1 : n < 256) (w : World) :
    Calls Try.prog 26 #[.int .u8 n] w fun e w' => e = .returned (.bool (unr n)) ∧ w = w' := by
  go_enter Try.func26, Try.ntmps26
  go_wp2
  all_goals
    go_ret
    refine ⟨ret_bool ?_, rfl⟩
    first
      | (refine unr_yes ?_; omega)
      | (refine unr_last ?_; omega)

/-- The bytes of the law's own list, one by one. -/
def setL : List Int := [65, 66, 67, 68, 69, 70, 71, 72, 73, 74, 75, 76, 77, 78, 79, 80, 81, 82, 83, 84, 85, 86, 87, 88, 89, 90, 97, 98, 99, 100, 101, 102, 103, 104, 105, 106, 107, 108, 109, 110, 111, 112, 113, 114, 115, 116, 117, 118, 119, 120, 121, 122, 48, 49, 50, 51, 52, 53, 54, 55, 56, 57, 45, 46, 95, 126]
theorem setL_unr (n : Int) (h : n ∈ setL) : unr n = true := by
  have : ∀ m ∈ setL, unr m = true := by decide +kernel
  exact this n h
theorem unr_setL (n : Int) (h : unr n = true) : n ∈ setL := by
  have : ∀ k : Nat, k < 256 → unr k = true → (k : Int) ∈ setL := by decide +kernel
  have hn : 0 ≤ n ∧ n < 256 := by unfold unr at h; have := of_decide_eq_true h; omega
  obtain ⟨k, rfl⟩ := Int.eq_ofNat_of_zero_le hn.1
  exact this k (by omega) h

theorem setB_get (k : Nat) (h : k < 66) : ((((⟨#[65, 66, 67, 68, 69, 70, 71, 72, 73, 74, 75, 76, 77, 78, 79, 80, 81, 82, 83, 84, 85, 86, 87, 88, 89, 90, 97, 98, 99, 100, 101, 102, 103, 104, 105, 106, 107, 108, 109, 110, 111, 112, 113, 114, 115, 116, 117, 118, 119, 120, 121, 122, 48, 49, 50, 51, 52, 53, 54, 55, 56, 57, 45, 46, 95, 126]⟩ : ByteArray)[k]'h).toNat : Int)) = setL.getD k 0 := by
  have : ∀ (k : Nat) (h : k < 66), ((((⟨#[65, 66, 67, 68, 69, 70, 71, 72, 73, 74, 75, 76, 77, 78, 79, 80, 81, 82, 83, 84, 85, 86, 87, 88, 89, 90, 97, 98, 99, 100, 101, 102, 103, 104, 105, 106, 107, 108, 109, 110, 111, 112, 113, 114, 115, 116, 117, 118, 119, 120, 121, 122, 48, 49, 50, 51, 52, 53, 54, 55, 56, 57, 45, 46, 95, 126]⟩ : ByteArray)[k]'h).toNat : Int)) = setL.getD k 0 := by decide +kernel
  exact this k h

set_option maxHeartbeats 400000 in
theorem isUnreserved_any (n : Int) (w : World) :
    Calls Try.prog 25 #[.int .u8 n] w fun e w' => e = .returned (.bool (unr n)) ∧ w = w' := by
  go_enter Try.func25, Try.ntmps25
  go_wp2
  go_loop [3] (fun i => ∃ k : Nat, k ≤ 66 ∧ i = .int .i64 k ∧ ∀ j, j < k → setL.getD j 0 ≠ n) (fun i => 66 - (intOf i).toNat)
  case atStart => exact ⟨0, by omega, rfl, fun j hj => by omega⟩
  case round =>
    obtain ⟨k, hk, rfl, hno⟩ := hrel
    have HN : Hid (∀ j, j < k → setL.getD j 0 ≠ n) := hno
    clear hno
    by_cases hlt : k < 66
    · have hg := setB_get k hlt
      by_cases he : setL.getD k 0 = n
      · have hq : ((((⟨#[65, 66, 67, 68, 69, 70, 71, 72, 73, 74, 75, 76, 77, 78, 79, 80, 81, 82, 83, 84, 85, 86, 87, 88, 89, 90, 97, 98, 99, 100, 101, 102, 103, 104, 105, 106, 107, 108, 109, 110, 111, 112, 113, 114, 115, 116, 117, 118, 119, 120, 121, 122, 48, 49, 50, 51, 52, 53, 54, 55, 56, 57, 45, 46, 95, 126]⟩ : ByteArray)[k]'hlt).toNat : Int) == n) = true := by rw [hg, he]; simp
        have HR : Hid (unr n = true) := setL_unr n (by rw [← he, List.getD_eq_getElem?_getD, List.getElem?_eq_getElem (by exact hlt)]; exact List.getElem_mem _)
        clear hg he
        go_wp2
        go_ret
        exact ⟨ret_bool HR.out.symm, rfl⟩
      · have hq : ((((⟨#[65, 66, 67, 68, 69, 70, 71, 72, 73, 74, 75, 76, 77, 78, 79, 80, 81, 82, 83, 84, 85, 86, 87, 88, 89, 90, 97, 98, 99, 100, 101, 102, 103, 104, 105, 106, 107, 108, 109, 110, 111, 112, 113, 114, 115, 116, 117, 118, 119, 120, 121, 122, 48, 49, 50, 51, 52, 53, 54, 55, 56, 57, 45, 46, 95, 126]⟩ : ByteArray)[k]'hlt).toNat : Int) == n) = false := by rw [hg]; simpa using he
        have HE : Hid (setL.getD k 0 ≠ n) := he
        clear hg he
        go_wp2
        go_round
        case rel =>
          refine ⟨k + 1, by omega, by go_num, fun j hj => ?_⟩
          by_cases e : j = k
          · rw [e]; exact HE.out
          · exact HN.out j (by omega)
        case measure => simp [intOf]; omega
    · have HR : Hid (unr n = false) := by
        cases hu : unr n
        · rfl
        · obtain ⟨j, hj, e⟩ := List.mem_iff_getElem.1 (unr_setL n hu)
          refine absurd ?_ (HN.out j (by have : setL.length = 66 := rfl; omega))
          rw [List.getD_eq_getElem?_getD, List.getElem?_eq_getElem hj]
          exact e
      clear HN
      go_wp2
      go_ret
      exact ⟨ret_bool HR.out.symm, rfl⟩

theorem ret_int {k : IntKind} {a b : Int} (h : a = b) : Ending.returned (.int k a) = .returned (.int k b) := by rw [h]

set_option maxHeartbeats 400000 in
theorem hexValue_any (n : Int) (h0 : 0 ≤ n) (h1 : n < 256) (w : World) :
    Calls Try.prog 24 #[.int .u8 n] w fun e w' => e = .returned (.int .i64 (hexV n)) ∧ w = w' := by
  go_enter Try.func24, Try.ntmps24
  go_wp2
  all_goals
    go_ret
    refine ⟨ret_int ?_, rfl⟩
    unfold hexV
    split <;> (try split) <;> omega
end Go.Proofs.Qxb6603124a.Pc
