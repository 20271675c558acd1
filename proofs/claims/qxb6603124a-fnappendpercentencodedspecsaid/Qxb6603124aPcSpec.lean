/-
  FnAppendPercentEncodedSpec: the walk.
-/
import Derived.Test.Qxb6603124aPcClone
namespace Go.Proofs.Qxb6603124a.Pc
open Go.RowKit

set_option maxHeartbeats 400000 in
theorem bytesSpec_any (a : Option Addr) (n cap : Nat) (s1 : ByteArray) (w : World) :
    Calls Try.prog 13 #[.slice a n cap, .string s1] w fun e w' => ABool e ∧ w = w' := by
  go_enter Try.func13, Try.ntmps13
  go_wp2
  all_goals
    go_ret
    exact ⟨.mk rfl, rfl⟩

/-- The slice's shape. -/
theorem Buf.form {w : World} {B : Nat} {v : Value} {l : List UInt8} (h : Buf w B v l) : ∃ (a : Option Addr) (c : Nat), v = .slice a l.length c ∧ (0 < l.length → ∃ g, a = some ⟨g, 0, none⟩ ∧ ∀ j u, (cells l)[j]? = some u → w.cell? ⟨g, j, none⟩ = some u) := by
  rcases h with ⟨rfl, rfl⟩ | ⟨g, cap, rfl, _, _, _, _, hr, _⟩
  · exact ⟨none, 0, rfl, fun h => by simp at h⟩
  · exact ⟨_, _, rfl, fun _ => ⟨g, rfl, fun j u hj => by have := hr j u hj; rwa [Nat.zero_add] at this⟩⟩

/-- 'string(res[len(want):])' -/
theorem tail_conv {W : World} {B : Nat} {a3 : Option Addr} {n L c3 : Nat} {l m : List UInt8} (hn : n = l.length) (h : Buf W B (.slice a3 L c3) (l ++ m)) :
    ∃ v5, (Instr.slice 25 (.slice a3 L c3) (some (.int .i64 n)) none none).run Try.prog W = .ok v5 W ∧ (convert 25 9 v5).run Try.prog W = .ok (.string (mk m)) W := by
  subst hn
  have hel : Try.prog.elem 25 = 5 := by kernel_rfl
  have hs5 : (sizeOf 5).run Try.prog W = .ok 1 W := by kernel_rfl
  rcases h with ⟨hv, hl⟩ | ⟨g, cap, hv, _, _, hlc, _, hr, _⟩
  · obtain ⟨rfl, rfl⟩ := List.append_eq_nil_iff.1 hl
    simp only [Value.slice.injEq] at hv
    obtain ⟨rfl, rfl, rfl⟩ := hv
    refine ⟨.slice none 0 0, ?_, run_convert_bytes_nil W 25 5 Try.underlying25 Try.underlying5 0 0 9 Try.underlying9⟩
    rw [run_slice_l W 25 none 0 0 (by rw [hel]; exact Try.underlying25) .i64 _ (by simp) (by simp), hel, hs5]
    rfl
  · simp only [Value.slice.injEq] at hv
    obtain ⟨rfl, rfl, rfl⟩ := hv
    rw [List.length_append] at hlc ⊢
    refine ⟨sliced (some ⟨g, 0, none⟩) l.length (l.length + m.length) c3 1, ?_, ?_⟩
    · rw [run_slice_l W 25 _ _ _ (by rw [hel]; exact Try.underlying25) .i64 _ (by omega) (by omega), hel, hs5]
      rfl
    · by_cases hm : m = []
      · subst hm
        have hsv : ∀ (A : Option Addr), (convert 25 9 (.slice A 0 (c3 - l.length))).run Try.prog W = .ok (.string (mk [])) W := by
          intro A
          cases A with
          | none => exact run_convert_bytes_nil W 25 5 Try.underlying25 Try.underlying5 0 _ 9 Try.underlying9
          | some ad => exact run_convert_bytes_back W 25 9 5 ad _ [] Try.underlying25 Try.underlying5 Try.underlying9 (fun j hj => by simp at hj)
        simp [sliced, hsv]
      · have hml : 0 < m.length := by cases m with | nil => exact absurd rfl hm | cons _ _ => simp
        have hne : ¬ c3 = l.length := by omega
        simp only [sliced, hne, if_false, Option.map_some, Nat.mul_one, Nat.add_sub_cancel_left]
        refine run_convert_bytes_back W 25 9 5 _ _ m Try.underlying25 Try.underlying5 Try.underlying9 (fun j hj => ?_)
        rw [Addr.add_mid, Addr.add_mid, Nat.add_assoc]
        refine hr (l.length + j) _ ?_
        rw [cells_get, List.getElem?_append_right (by omega), Nat.add_sub_cancel_left, List.getElem?_eq_getElem hj]
        rfl

set_option maxHeartbeats 800000 in
theorem spec_law (a : Option Addr) (cap : Nat) (l : List UInt8) (s : ByteArray) (w : World) (h : Came w a l) (hlm : l.length ≤ maxLen) (hsm : s.size ≤ maxLen) :
    Calls Try.prog 5 #[.slice a l.length cap, .string s] w fun e w' => e = .returned (.bool true) ∧ Below w.heap.size w w' := by
  unfold maxLen at hlm hsm
  go_enter Try.func5, Try.ntmps5
  go_wp2_with fail
  refine (bytesSpec_any a l.length cap s w).mono ?_
  rintro e w1 ⟨⟨r, rfl⟩, rfl⟩
  cases r
  · go_wp2
    go_ret
    exact ⟨rfl, Below.refl _ _⟩
  by_cases g1 : l.length ≤ 1048576
  case neg =>
    have hd : (1048576 : Int) < (l.length : Int) := by omega
    generalize l.length = n at *
    go_wp2
    go_ret
    exact ⟨rfl, Below.refl _ _⟩
  by_cases g2 : l.length + s.size ≤ 1048576
  case neg =>
    have hd : (1048576 : Int) - (l.length : Int) < (s.size : Int) := by omega
    generalize l.length = n at *
    go_wp2
    go_ret
    exact ⟨rfl, Below.refl _ _⟩
  have hs1 : s.size ≤ 1048576 := by omega
  have e1 := enc_length (bs s)
  rw [bs_length] at e1
  go_wp2_with fail
  refine (clone_any w a l cap h (by omega)).mono ?_
  rintro e w1 ⟨v1, rfl, hb1, hbel1⟩
  go_wp2_with fail
  refine (room_any w1 a l cap (h.later hbel1) (by omega) _ (by omega) (by omega)).mono ?_
  rintro e w2 ⟨v2, rfl, hb2, hbel2⟩
  clear h
  go_wp2_with fail
  refine (zzapp_any w1.heap.size v2 l s w2 hb2 hbel2.size hs1 (by omega)).mono ?_
  rintro e w3 ⟨v3, rfl, hb3, hbel3⟩
  have hB : Below w1.heap.size w1 w3 := hbel2.trans hbel3
  have hw := hb1.later hB
  have B3 := hbel1.trans (hB.mono hbel1.size)
  clear hb1 hbel1 hbel2 hbel3 hb2 hB
  obtain ⟨a1, c1, rfl, hc1⟩ := hw.form
  obtain ⟨a3, c3, rfl, hc3⟩ := hb3.form
  have HT : Hid (Buf w3 w1.heap.size (.slice a3 (l ++ enc (bs s)).length c3) (l ++ enc (bs s))) := hb3
  have hL : (l ++ enc (bs s)).length = l.length + (enc (bs s)).length := List.length_append
  have hle : l.length ≤ (l ++ enc (bs s)).length := by omega
  have hL2 : (l ++ enc (bs s)).length ≤ 10000000 := by omega
  clear hw hb3 hL
  have hf1 : Hid (0 < l.length → ∃ g, a1 = some ⟨g, 0, none⟩ ∧ ∀ j u, (cells l)[j]? = some u → w3.cell? ⟨g, j, none⟩ = some u) := hc1
  have hf3 : Hid (0 < (l ++ enc (bs s)).length → ∃ g, a3 = some ⟨g, 0, none⟩ ∧ ∀ j u, (cells (l ++ enc (bs s)))[j]? = some u → w3.cell? ⟨g, j, none⟩ = some u) := hc3
  obtain ⟨n, hn⟩ : ∃ n, n = l.length := ⟨_, rfl⟩
  obtain ⟨L, hLe⟩ : ∃ L, L = (l ++ enc (bs s)).length := ⟨_, rfl⟩
  rw [← hn] at hle g1 g2 hlm hf1 ⊢
  rw [← hLe] at hle hL2 hf3 HT ⊢
  have HN : Hid (n = l.length) := hn
  have HL : Hid (L = (l ++ enc (bs s)).length) := hLe
  clear hc1 hc3 hn hLe e1
  have hd : decide ((L : Int) < (n : Int)) = false := by simp; omega
  by_cases h0 : n = 0
  · subst h0
    have hcv := conv_buf HT.out
    rw [List.eq_nil_of_length_eq_zero HN.out.symm, List.nil_append] at hcv
    clear hf1 hf3
    go_wp2
    refine wp_loop_rounds 1 ?_
    rw [rounds_succ]
    go_wp2_with fail
    refine (canon_any _ s _ (bs_mk _) hs1).mono ?_
    rintro e w5 ⟨rfl, rfl⟩
    go_wp2
    go_ret
    exact ⟨rfl, B3⟩
  obtain ⟨g1, rfl, hw1⟩ := hf1.out (by omega)
  obtain ⟨g3, rfl, hw3⟩ := hf3.out (by omega)
  clear hf1 hf3
  have HW : Hid (∀ j b, l[j]? = some b → w3.cell? ⟨g1, j, none⟩ = some (.int .u8 b.toNat) ∧ w3.cell? ⟨g3, j, none⟩ = some (.int .u8 b.toNat)) := by
    intro j b hj
    have hjl := (List.getElem?_eq_some_iff.1 hj).1
    exact ⟨hw1 j _ (by rw [cells_get, hj]; rfl), hw3 j _ (by rw [cells_get, List.getElem?_append_left hjl, hj]; rfl)⟩
  clear hw1 hw3
  go_wp2
  go_loopw [7] (fun i wr => ∃ k q : Nat, k ≤ n ∧ i = .int .i64 k ∧ wr = w3.drewN q) (fun i _ => n - (intOf i).toNat)
  case atStart => exact ⟨0, 0, by omega, rfl, rfl⟩
  case round =>
    obtain ⟨k, q, hk, rfl, rfl⟩ := hrel
    by_cases hlt : k < n
    · obtain ⟨b, hb⟩ : ∃ b, l[k]? = some b := ⟨_, List.getElem?_eq_getElem (by rw [← HN.out]; exact hlt)⟩
      obtain ⟨c1', c3'⟩ := HW.out k b hb
      clear hb
      have i1 : (k : Int) < (n : Int) := by omega
      have i3 : (k : Int) < (L : Int) := by omega
      go_wp2
      go_quiet (fail)
      go_wp2
      go_roundw
      case rel => exact ⟨k + 1, _, by omega, by go_num, rfl⟩
      case measure => simp [intOf]; omega
    · have e : k = n := by omega
      subst e
      obtain ⟨v5, hsl, hcv⟩ := tail_conv (W := w3.drewN q) HN.out HT.out
      go_wp2_with fail
      refine (canon_any _ s _ (bs_mk _) hs1).mono ?_
      rintro e w5 ⟨rfl, rfl⟩
      go_wp2
      go_ret
      exact ⟨rfl, ⟨B3.os, B3.tape, B3.output, B3.size, B3.block⟩⟩
end Go.Proofs.Qxb6603124a.Pc
