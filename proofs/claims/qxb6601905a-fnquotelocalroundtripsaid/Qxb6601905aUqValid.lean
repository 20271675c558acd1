/-
  validQuotedString at a canonical quoting: it answers whether the text is printable.
-/
import Derived.Test.Qxb6601905aUqQuote2
namespace Go.Proofs.Qxb6601905a.Uq
open Go.RowKit

theorem quoted_length (l : List UInt8) : (quoted l).length = (quo l).length + 2 := by simp [quoted]

theorem body_quoted {q v : ByteArray} (hq : bs q = quoted (bs v)) : bs (q.extract 1 (q.size - 1)) = quo (bs v) := by
  have hl : q.size = (quo (bs v)).length + 2 := by rw [← bs_length, hq, quoted_length]
  rw [bs_extract, hq, hl]
  simp [quoted]

theorem quo_split {v : ByteArray} {k : Nat} {c : UInt8} (h : (bs v)[k]? = some c) : quo (bs v) = quo ((bs v).take k) ++ (qtok c ++ quo ((bs v).drop (k + 1))) := by
  have h1 := List.take_append_drop k (bs v)
  rw [drop_cons h] at h1
  have h2 := congrArg quo h1
  rw [quo_append] at h2
  exact h2.symm

theorem at_qtok {t v : ByteArray} (ht : bs t = quo (bs v)) {k : Nat} {c : UInt8} (h : (bs v)[k]? = some c) (j : Nat) (b : UInt8) (hj : (qtok c)[j]? = some b) : (bs t)[(quo ((bs v).take k)).length + j]? = some b := by
  have hjl := (List.getElem?_eq_some_iff.1 hj).1
  rw [ht, quo_split h, List.getElem?_append_right (by omega), Nat.add_sub_cancel_left, List.getElem?_append_left hjl]
  exact hj

theorem lt_of_get {o : ByteArray} {i : Nat} {b : UInt8} (h : (bs o)[i]? = some b) : i < o.size := by
  rw [← bs_length]; exact (List.getElem?_eq_some_iff.1 h).1

theorem all_snoc {v : ByteArray} {k : Nat} {c : UInt8} (h : (bs v)[k]? = some c) (ha : ∀ d ∈ (bs v).take k, prt d.toNat = true) (hp : prt c.toNat = true) : ∀ d ∈ (bs v).take (k + 1), prt d.toNat = true := by
  intro d hd
  obtain ⟨hk2, e⟩ := List.getElem?_eq_some_iff.1 h
  rw [List.take_succ_eq_append_getElem hk2, e] at hd
  rcases List.mem_append.1 hd with h | h
  · exact ha d h
  · rw [List.mem_singleton.1 h]; exact hp

set_option maxHeartbeats 800000 in
theorem valid_any (q v : ByteArray) (hq : bs q = quoted (bs v)) (hv : v.size ≤ 1048576) (w : World) :
    Calls Try.prog 19 #[.string q] w fun e w' => e = .returned (.bool (allP (bs v))) ∧ w = w' := by
  have hl : q.size = (quo (bs v)).length + 2 := by rw [← bs_length, hq, quoted_length]
  have hql := quo_length (bs v)
  rw [bs_length] at hql
  have h0 : ∀ w, (Instr.index 9 (.string q) (.int .i64 0)).run Try.prog w = .ok (.int .u8 34) w := idx_at q 0 34 (by rw [hq]; rfl)
  have h9 : ∀ w, (Instr.index 9 (.string q) (.int .i64 ((q.size - 1 : Nat) : Int))).run Try.prog w = .ok (.int .u8 34) w := idx_at q (q.size - 1) 34 (by
    rw [hq, hl]
    unfold quoted
    rw [show (quo (bs v)).length + 2 - 1 = (quo (bs v)).length + 1 from by omega, List.getElem?_cons_succ, List.getElem?_append_right (Nat.le_refl _), Nat.sub_self]
    rfl)
  have hqs : 2 ≤ q.size ∧ q.size ≤ 4000000 := by omega
  obtain ⟨hq1, hq2⟩ := hqs
  rw [show ((q.size - 1 : Nat) : Int) = (q.size : Int) - 1 from by omega] at h9
  have HB : Hid (bs (q.extract 1 (q.size - 1)) = quo (bs v)) := body_quoted hq
  have hd1 : decide ((q.size : Int) < 2) = false := by simp; omega
  clear hq hl hql
  go_enter Try.func19, Try.ntmps19
  go_wp2
  have hts : (q.extract 1 (q.size - 1)).size ≤ 4000000 := by rw [ByteArray.size_extract]; omega
  generalize q.extract 1 (q.size - 1) = t at *
  clear h0 h9 hd1
  go_loop [4] (fun i => ∃ k n : Nat, k ≤ v.size ∧ i = .int .i64 n ∧ n ≤ t.size ∧ n = (quo ((bs v).take k)).length ∧ ∀ c ∈ (bs v).take k, prt c.toNat = true) (fun i => t.size - (intOf i).toNat)
  case atStart => exact ⟨0, 0, by omega, rfl, by omega, rfl, by simp⟩
  case round =>
    obtain ⟨k, n, hk, rfl, hnt, hn, hall⟩ := hrel
    have HA : Hid (∀ c ∈ (bs v).take k, prt c.toNat = true) := hall
    have HN : Hid (n = (quo ((bs v).take k)).length) := hn
    clear hall hn
    by_cases hlt : k < v.size
    · obtain ⟨c, hc⟩ : ∃ c, (bs v)[k]? = some c := ⟨_, List.getElem?_eq_getElem (by rw [bs_length]; exact hlt)⟩
      have HC : Hid ((bs v)[k]? = some c) := hc
      have HT : Hid (∀ j b, (qtok c)[j]? = some b → (bs t)[n + j]? = some b) := fun j b hj => by
        rw [HN.out]; exact at_qtok HB.out hc j b hj
      have HQ : Hid ((quo ((bs v).take (k + 1))).length = n + (qtok c).length) := by
        show _ = _
        rw [quo_snoc hc, List.length_append, ← HN.out]
      clear hc
      by_cases hesc : c = 34 ∨ c = 92
      · have htk : qtok c = [92, c] := by unfold qtok; rw [if_pos hesc]
        have g0 := HT.out 0 92 (by rw [htk]; rfl)
        have g1 := HT.out 1 c (by rw [htk]; rfl)
        have i0 : ∀ w, (Instr.index 9 (.string t) (.int .i64 n)).run Try.prog w = .ok (.int .u8 92) w := idx_at t n 92 g0
        have i1 := idx_at t (n + 1) c g1
        rw [show ((n + 1 : Nat) : Int) = (n : Int) + 1 from by omega] at i1
        have hl1 := lt_of_get g1
        have hp : prt (c.toNat : Int) = true := by rcases hesc with h | h <;> (rw [h]; rfl)
        have hc1 : 32 ≤ (c.toNat : Int) ∧ (c.toNat : Int) ≤ 126 := by unfold prt at hp; exact of_decide_eq_true hp
        obtain ⟨hc1, hc2⟩ := hc1
        have HS : Hid (∀ d ∈ (bs v).take (k + 1), prt d.toNat = true) := all_snoc HC.out HA.out hp
        have HL : Hid (n + 2 = (quo ((bs v).take (k + 1))).length) := by
          show _ = _
          rw [HQ.out, htk]; rfl
        have hne : (((n : Int) + 1) == (t.size : Int)) = false := by simp; omega
        clear htk g0 g1 hesc hp HT HQ HA HC
        go_wp2
        go_round
        case rel => exact ⟨k + 1, n + 2, by omega, by go_num, by omega, HL.out, HS.out⟩
        case measure => simp [intOf]; omega
      · have htk : qtok c = [c] := by unfold qtok; rw [if_neg hesc]
        have g0 := HT.out 0 c (by rw [htk]; rfl)
        have i0 := idx_at t n c g0
        have hl0 := lt_of_get g0
        have h34 : ((c.toNat : Int) == 34) = false := beq_byte (n := 34) (by omega) (fun e => hesc (.inl e))
        have h92 : ((c.toNat : Int) == 92) = false := beq_byte (n := 92) (by omega) (fun e => hesc (.inr e))
        have HL : Hid (n + 1 = (quo ((bs v).take (k + 1))).length) := by
          show _ = _
          rw [HQ.out, htk]; rfl
        clear htk g0 hesc HT HQ
        by_cases hp : 32 ≤ (c.toNat : Int) ∧ (c.toNat : Int) ≤ 126
        · have HS : Hid (∀ d ∈ (bs v).take (k + 1), prt d.toNat = true) := all_snoc HC.out HA.out (decide_eq_true hp)
          obtain ⟨hc1, hc2⟩ := hp
          clear HA HC
          go_wp2
          go_round
          case rel => exact ⟨k + 1, n + 1, by omega, by go_num, by omega, HL.out, HS.out⟩
          case measure => simp [intOf]; omega
        · have HR : Hid (allP (bs v) = false) := allP_false HC.out (decide_eq_false hp)
          clear HA HC
          by_cases hc1 : (c.toNat : Int) < 32
          · go_wp2
            go_ret
            exact ⟨ret_bool HR.out.symm, rfl⟩
          · have hc2 : 126 < (c.toNat : Int) := by omega
            go_wp2
            go_ret
            exact ⟨ret_bool HR.out.symm, rfl⟩
    · have HR : Hid (allP (bs v) = true) := by
        show allP (bs v) = true
        have h := HA.out
        rw [List.take_of_length_le (by rw [bs_length]; omega)] at h
        unfold allP
        rw [List.all_eq_true]
        exact h
      have hnt2 : n = t.size := by
        have h := HN.out
        rw [List.take_of_length_le (by rw [bs_length]; omega), ← HB.out, bs_length] at h
        exact h
      have hd : ¬ ((n : Int) < (t.size : Int)) := by omega
      clear HA HN hnt2
      go_wp2
      go_ret
      exact ⟨ret_bool HR.out.symm, rfl⟩

theorem zzvalid_any (q v : ByteArray) (hq : bs q = quoted (bs v)) (hv : v.size ≤ 1048576) (w : World) :
    Calls Try.prog 9 #[.string q] w fun e w' => e = .returned (.bool (allP (bs v))) ∧ w = w' := by
  go_enter Try.func9, Try.ntmps9
  go_wp2_with fail
  refine (valid_any q v hq hv w).mono ?_
  rintro e w1 ⟨rfl, rfl⟩
  go_wp2
  go_ret
  exact ⟨rfl, rfl⟩
end Go.Proofs.Qxb6601905a.Uq
