/-
  PercentEncode: its contract.
-/
import Derived.Test.Qxb6603124aPcApp
namespace Go.Proofs.Qxb6603124a.Pc
open Go.RowKit

/-- The string of these bytes. -/
def mk (l : List UInt8) : ByteArray := ⟨l.toArray⟩
theorem bs_mk (l : List UInt8) : bs (mk l) = l := by simp [bs, mk]
theorem mk_bs (s : ByteArray) : mk (bs s) = s := by simp [bs, mk]
theorem mk_size (l : List UInt8) : (mk l).size = l.length := by rw [← bs_length, bs_mk]

/-- 'string(b)' -/
theorem conv_buf {w : World} {B : Nat} {v : Value} {l : List UInt8} (h : Buf w B v l) : (convert 25 9 v).run Try.prog w = .ok (.string (mk l)) w := by
  rcases h with ⟨rfl, rfl⟩ | ⟨g, cap, rfl, _, _, _, _, hr, _⟩
  · exact run_convert_bytes_nil w 25 5 Try.underlying25 Try.underlying5 0 0 9 Try.underlying9
  · refine run_convert_bytes_back w 25 9 5 ⟨g, 0, none⟩ cap l Try.underlying25 Try.underlying5 Try.underlying9 (fun j hj => ?_)
    rw [Addr.add_mid]
    exact hr j _ (by rw [cells_get, List.getElem?_eq_getElem hj]; rfl)

/-- A new array, cut to nothing. -/
theorem buf_fresh (w : World) (C : Array Value) (t : TypeId) (n : Nat) (h : C.size = n) (hn : n ≤ maxLen) : Buf (w.alloc (.cells C t)) w.heap.size (.slice (some ⟨w.heap.size, 0, none⟩) 0 n) [] := by
  refine .inr ⟨w.heap.size, n, rfl, Nat.le_refl _, by simp, Nat.zero_le _, hn, fun j u hj => by simp [cells] at hj, fun j hj => ?_⟩
  rw [Nat.zero_add, World.cell?_alloc_mark, Array.getElem?_eq_getElem (by omega)]
  exact ⟨rfl, frozen_of_row _ w.heap.size j _ t (heap_alloc_new w _)⟩

theorem enc_all {s : ByteArray} (h : Plain s 0 s.size) : enc (bs s) = bs s := by
  have h1 := enc_mid (Nat.zero_le _) h
  rwa [List.drop_zero, Nat.sub_zero, List.take_of_length_le (by rw [bs_length]; exact Nat.le_refl _)] at h1

set_option maxHeartbeats 400000 in
theorem enc_any (s : ByteArray) (w : World) (hs : s.size ≤ 1048576) :
    Calls Try.prog 11 #[.string s] w fun e w' => e = .returned (.string (mk (enc (bs s)))) ∧ Below w.heap.size w w' := by
  go_enter Try.func11, Try.ntmps11
  go_wp2
  go_loop [3, 4] (fun n i => ∃ k m : Nat, k ≤ s.size ∧ i = .int .i64 k ∧ n = .int .i64 m ∧ m ≤ k ∧ (m = 0 → Plain s 0 k)) (fun _ i => s.size - (intOf i).toNat)
  case atStart => exact ⟨0, 0, by omega, rfl, rfl, by omega, fun _ j c h1 h2 => by omega⟩
  case round =>
    obtain ⟨k, m, hk, rfl, rfl, hm, hp⟩ := hrel
    have HP : Hid (m = 0 → Plain s 0 k) := hp
    clear hp
    by_cases hlt : k < s.size
    · cases hu : unr ((s[k]'hlt).toNat : Int)
      · go_wp2_with fail
        refine (unreserved_any _ (by omega) (byte_lt _) _).mono ?_
        rintro e w1 ⟨rfl, rfl⟩
        rw [hu]
        go_wp2
        go_round
        case rel => exact ⟨k + 1, m + 1, by omega, by go_num, by go_num, by omega, fun h => by omega⟩
        case measure => simp [intOf]; omega
      · go_wp2_with fail
        refine (unreserved_any _ (by omega) (byte_lt _) _).mono ?_
        rintro e w1 ⟨rfl, rfl⟩
        rw [hu]
        go_wp2
        go_round
        case rel => exact ⟨k + 1, m, by omega, by go_num, rfl, by omega, fun h => plain_snoc hlt (HP.out h) hu⟩
        case measure => simp [intOf]; omega
    · have hke : k = s.size := by omega
      by_cases hm0 : m = 0
      · have hd : ((m : Int) == 0) = true := by simp [hm0]
        have HQ : Hid (mk (enc (bs s)) = s) := by
          show mk (enc (bs s)) = s
          rw [enc_all (hke ▸ HP.out hm0), mk_bs]
        clear HP hke hm0
        go_wp2
        go_ret
        exact ⟨by rw [HQ.out]; rfl, Below.refl _ _⟩
      · have hd : ((m : Int) == 0) = false := by simp; omega
        clear HP hke
        go_wp2_with fail
        refine (app_any w.heap.size _ [] s _ (buf_fresh w _ 42 64 rfl (by decide)) (by simp) hs (by simp)).mono ?_
        rintro e w1 ⟨v', rfl, hbuf, hbel⟩
        have hcv := conv_buf hbuf
        rw [List.nil_append] at hcv
        have hB : Below w.heap.size w w1 := ((Below.refl _ _).alloc (Nat.le_refl _) _).trans hbel
        generalize hr : mk (enc (bs s)) = r at hcv
        have HR : Hid (mk (enc (bs s)) = r) := hr
        clear hbuf hbel hr
        go_wp2
        go_ret
        exact ⟨by rw [HR.out]; rfl, hB⟩
end Go.Proofs.Qxb6603124a.Pc
