/-
  quoteLocalAB1: its contract.
-/
import Derived.Test.Qxb6601905aUqQuote
namespace Go.Proofs.Qxb6601905a.Uq
open Go.RowKit

/-- What an append of one byte asks, behind the block that the byte is laid in. -/
theorem one_more {w : World} {B : Nat} {v : Value} {acc : List UInt8} (hb : Buf w B v acc) (hB : B ≤ w.heap.size) (c : UInt8) :
    Buf (w.alloc (.cells #[.int .u8 (c.toNat : Int)] 5)) B v acc ∧ B ≤ (w.alloc (.cells #[.int .u8 (c.toNat : Int)] 5)).heap.size ∧ Src Try.prog 1 26 (.slice (some ⟨w.heap.size, 0, none⟩) 1 1) [c].length (cells [c]) (w.alloc (.cells #[.int .u8 (c.toNat : Int)] 5)) :=
  ⟨hb.later ((Below.refl _ _).alloc (Nat.le_refl _) _), by simp; omega, src_one w c⟩

theorem beq_byte {c : UInt8} {n : Nat} (hn : n < 256) (h : ¬ c = UInt8.ofNat n) : ((c.toNat : Int) == (n : Int)) = false := by
  cases e : ((c.toNat : Int) == (n : Int))
  · rfl
  · refine absurd (UInt8.toNat_inj.1 ?_) h
    have := beq_iff_eq.1 e
    rw [UInt8.toNat_ofNat']
    omega

theorem quo_snoc {v : ByteArray} {k : Nat} {c : UInt8} (h : (bs v)[k]? = some c) : quo ((bs v).take (k + 1)) = quo ((bs v).take k) ++ qtok c := by
  obtain ⟨hk, e⟩ := List.getElem?_eq_some_iff.1 h
  rw [List.take_succ_eq_append_getElem hk, e, quo_append]
  simp [quo]

set_option maxHeartbeats 800000 in
theorem quote_any (v : ByteArray) (hv : v.size ≤ 1048576) (w : World) :
    Calls Try.prog 12 #[.string v] w fun e w' => e = .returned (.string (mk (quoted (bs v)))) ∧ Below w.heap.size w w' := by
  obtain ⟨w1, hmk, hb1, hbel1⟩ := make_buf w (2 * (v.size : Int) + 2) (by omega) (by omega)
  have HX1 : Hid (Buf (w1.alloc (.cells #[.int .u8 34] 5)) w.heap.size _ [] ∧ w.heap.size ≤ (w1.alloc (.cells #[.int .u8 34] 5)).heap.size ∧ Src Try.prog 1 26 (.slice (some ⟨w1.heap.size, 0, none⟩) 1 1) [(34 : UInt8)].length (cells [34]) (w1.alloc (.cells #[.int .u8 34] 5))) := one_more hb1 hbel1.size 34
  go_enter Try.func12, Try.ntmps12
  go_wp2_with (first | (at_builtin; refine wpList_append_buf _ rfl (.tmp 11) (.tmp 12) 26 rfl w.heap.size _ (.slice (some ⟨w1.heap.size, 0, none⟩) 1 1) _ [34] rfl rfl HX1.out.1 HX1.out.2.1 HX1.out.2.2 (by simp) ?_; intro v2 w2 hb2 hbel2))
  have B2 := (hbel1.alloc hbel1.size (.cells #[.int .u8 34] 5)).trans hbel2
  clear hmk hb1 hbel1 HX1 hbel2
  go_loopw [3, 4] (fun out i wr => ∃ k : Nat, k ≤ v.size ∧ i = .int .i64 k ∧ Buf wr w.heap.size out (34 :: quo ((bs v).take k)) ∧ Below w.heap.size w wr) (fun _ i _ => v.size - (intOf i).toNat)
  case atStart => exact ⟨0, by omega, rfl, hb2, B2⟩
  case round =>
    clear hb2 B2
    obtain ⟨k, hk, rfl, hb, hbel⟩ := hrel
    have hql : (34 :: quo ((bs v).take k)).length ≤ 10000000 := by
      have h1 := quo_length ((bs v).take k)
      have h2 := List.length_take_le k (bs v)
      simp; omega
    by_cases hlt : k < v.size
    · obtain ⟨c, hc⟩ : ∃ c, c = v[k]'hlt := ⟨_, rfl⟩
      have hg : (bs v)[k]? = some c := by rw [bs_get v k hlt, hc]
      have hik := idx_at v k c hg
      have HQ : Hid (quo ((bs v).take (k + 1)) = quo ((bs v).take k) ++ qtok c) := quo_snoc hg
      clear hc hg
      by_cases hesc : c = 34 ∨ c = 92
      · have HX : Hid (Buf (wr.alloc (.cells #[.int .u8 92] 5)) w.heap.size _ (34 :: quo ((bs v).take k)) ∧ w.heap.size ≤ (wr.alloc (.cells #[.int .u8 92] 5)).heap.size ∧ Src Try.prog 1 26 (.slice (some ⟨wr.heap.size, 0, none⟩) 1 1) [(92 : UInt8)].length (cells [92]) (wr.alloc (.cells #[.int .u8 92] 5))) := one_more hb hbel.size 92
        have HT : Hid (34 :: quo ((bs v).take k) ++ [92] ++ [c] = 34 :: quo ((bs v).take (k + 1))) := by
          show _ = _
          rw [HQ.out]
          unfold qtok
          rw [if_pos hesc]
          simp
        clear HQ
        rcases (show ((c.toNat : Int) == 34) = true ∨ (((c.toNat : Int) == 34) = false ∧ ((c.toNat : Int) == 92) = true) from by
            rcases hesc with h | h
            · left; rw [h]; rfl
            · right; rw [h]; exact ⟨rfl, rfl⟩) with h34 | ⟨h34, h92⟩
        all_goals
          clear hesc
          go_wp2_with (first | (at_builtin; refine wpList_append_buf _ rfl (.tmp 29) (.tmp 30) 26 rfl w.heap.size _ (.slice (some ⟨wr.heap.size, 0, none⟩) 1 1) _ [92] rfl rfl HX.out.1 HX.out.2.1 HX.out.2.2 (by simp only [List.length_cons, List.length_nil] at hql ⊢; omega) ?_; intro v2 w2 hb2 hbel2; have B2 := (hbel.alloc hbel.size (.cells #[.int .u8 92] 5)).trans hbel2; have HY := one_more hb2 B2.size c; have HZ : Hid _ := HY; clear HY) | (at_builtin; refine wpList_append_buf _ rfl (.tmp 32) (.tmp 34) 26 rfl w.heap.size _ (.slice (some ⟨w2.heap.size, 0, none⟩) 1 1) _ [c] rfl rfl HZ.out.1 HZ.out.2.1 HZ.out.2.2 (by simp only [List.length_append, List.length_cons, List.length_nil] at hql ⊢; omega) ?_; intro v3 w3 hb3 hbel3))
          go_wp2
          rw [HT.out] at hb3
          have B3 := (B2.alloc B2.size (.cells #[.int .u8 (c.toNat : Int)] 5)).trans hbel3
          go_roundw
          case rel => exact ⟨k + 1, by omega, by go_num, hb3, B3⟩
          case measure => simp [intOf]; omega
      · have HX := one_more hb hbel.size c
        have HZ : Hid _ := HX
        have h34 : ((c.toNat : Int) == 34) = false := beq_byte (n := 34) (by omega) (fun e => hesc (.inl e))
        have h92 : ((c.toNat : Int) == 92) = false := beq_byte (n := 92) (by omega) (fun e => hesc (.inr e))
        have HT : Hid (34 :: quo ((bs v).take k) ++ [c] = 34 :: quo ((bs v).take (k + 1))) := by
          show _ = _
          rw [HQ.out]
          unfold qtok
          rw [if_neg hesc]
          simp
        clear HX HQ hesc
        go_wp2_with (first | (at_builtin; refine wpList_append_buf _ rfl (.tmp 32) (.tmp 34) 26 rfl w.heap.size _ (.slice (some ⟨wr.heap.size, 0, none⟩) 1 1) _ [c] rfl rfl HZ.out.1 HZ.out.2.1 HZ.out.2.2 (by simp only [List.length_cons, List.length_nil] at hql ⊢; omega) ?_; intro v3 w3 hb3 hbel3))
        go_wp2
        rw [HT.out] at hb3
        have B3 := (hbel.alloc hbel.size (.cells #[.int .u8 (c.toNat : Int)] 5)).trans hbel3
        go_roundw
        case rel => exact ⟨k + 1, by omega, by go_num, hb3, B3⟩
        case measure => simp [intOf]; omega
    · have HX : Hid (Buf (wr.alloc (.cells #[.int .u8 34] 5)) w.heap.size _ (34 :: quo ((bs v).take k)) ∧ w.heap.size ≤ (wr.alloc (.cells #[.int .u8 34] 5)).heap.size ∧ Src Try.prog 1 26 (.slice (some ⟨wr.heap.size, 0, none⟩) 1 1) [(34 : UInt8)].length (cells [34]) (wr.alloc (.cells #[.int .u8 34] 5))) := one_more hb hbel.size 34
      have HT : Hid (34 :: quo ((bs v).take k) ++ [34] = quoted (bs v)) := by
        show _ = _
        rw [List.take_of_length_le (by rw [bs_length]; omega)]
        rfl
      go_wp2_with (first | (at_builtin; refine wpList_append_buf _ rfl (.tmp 36) (.tmp 37) 26 rfl w.heap.size _ (.slice (some ⟨wr.heap.size, 0, none⟩) 1 1) _ [34] rfl rfl HX.out.1 HX.out.2.1 HX.out.2.2 (by simp only [List.length_cons, List.length_nil] at hql ⊢; omega) ?_; intro v3 w3 hb3 hbel3; have hcv := conv_buf hb3; rw [HT.out] at hcv))
      have B3 := (hbel.alloc hbel.size (.cells #[.int .u8 34] 5)).trans hbel3
      go_ret
      exact ⟨rfl, B3⟩
end Go.Proofs.Qxb6601905a.Uq
