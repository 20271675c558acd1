/-
  UnquoteLocal: its contract.
-/
import Derived.Test.Qxb6601905aUqBuilder
import Derived.Test.Qxb6601905aUqPlain
namespace Go.Proofs.Qxb6601905a.Uq
open Go.RowKit

theorem idx_at (o : ByteArray) (i : Nat) (b : UInt8) (h : (bs o)[i]? = some b) (w : World) : (Instr.index 9 (.string o) (.int .i64 i)).run Try.prog w = .ok (.int .u8 b.toNat) w := by
  have hi : i < o.size := by rw [← bs_length]; exact (List.getElem?_eq_some_iff.1 h).1
  have hb : 0 ≤ (i : Int) ∧ (i : Int) < (o.size : Int) := by omega
  rw [run_index_string w 9 _ .i64 _ Try.underlying9, dif_pos hb]
  rw [bs_get o i hi] at h
  injection h with h
  simp only [Int.toNat_natCast, h]

theorem drop_cons {l : List UInt8} {k : Nat} {c : UInt8} (h : l[k]? = some c) : l.drop k = c :: l.drop (k + 1) := by
  obtain ⟨hk, e⟩ := List.getElem?_eq_some_iff.1 h
  rw [List.drop_eq_getElem_cons hk, e]

set_option maxHeartbeats 400000 in
theorem unquote_quoted (s : ByteArray) (h2 : 2 ≤ s.size) (hs : s.size ≤ 4000000) (hq : (bs s)[0]? = some 34) (w : World) :
    Calls Try.prog 14 #[.string s] w fun e w' => e = .returned (.string (mk (unq (bs (s.extract 1 (s.size - 1)))))) ∧ Below w.heap.size w w' := by
  have h0 : ∀ w, (Instr.index 9 (.string s) (.int .i64 0)).run Try.prog w = .ok (.int .u8 34) w := idx_at s 0 34 hq
  have hn1 : ¬ ((s.size : Int) < 2) := by omega
  have hd1 : decide ((s.size : Int) < 2) = false := by simp; omega
  go_enter Try.func14, Try.ntmps14
  go_wp2
  have hts : (s.extract 1 (s.size - 1)).size ≤ 4000000 := by rw [ByteArray.size_extract]; omega
  generalize ht : s.extract 1 (s.size - 1) = t at *
  have HT : Hid (s.extract 1 (s.size - 1) = t) := ht
  clear ht h0 hn1 hd1 hq
  go_loopw [5] (fun i wr => ∃ (k : Nat) (acc : List UInt8), k ≤ t.size ∧ i = .int .i64 k ∧ Bld wr w.heap.size w.heap.size acc ∧ acc ++ unq ((bs t).drop k) = unq (bs t) ∧ acc.length ≤ k ∧ Below w.heap.size w wr) (fun i _ => t.size - (intOf i).toNat)
  case atStart => exact ⟨0, [], by omega, rfl, .inl ⟨rfl, Nat.le_refl _, heap_alloc_new w _⟩, rfl, Nat.le_refl _, (Below.refl _ _).alloc (Nat.le_refl _) _⟩
  case round =>
    obtain ⟨k, acc, hk, rfl, hb, hacc, hal, hbel⟩ := hrel
    have HA : Hid (acc ++ unq ((bs t).drop k) = unq (bs t)) := hacc
    clear hacc
    by_cases hlt : k < t.size
    · obtain ⟨c, hc⟩ : ∃ c, c = t[k]'hlt := ⟨_, rfl⟩
      have hg : (bs t)[k]? = some c := by rw [bs_get t k hlt, hc]
      have hik := idx_at t k c hg
      have HD : Hid ((bs t).drop k = c :: (bs t).drop (k + 1)) := drop_cons hg
      clear hc hg
      by_cases he : c = 92 ∧ k + 1 < t.size
      · obtain ⟨rfl, hlt2⟩ := he
        obtain ⟨d, hd⟩ : ∃ d, d = t[k + 1]'hlt2 := ⟨_, rfl⟩
        have hg2 : (bs t)[k + 1]? = some d := by rw [bs_get t (k + 1) hlt2, hd]
        have hik2 := idx_at t (k + 1) d hg2
        rw [show ((k + 1 : Nat) : Int) = (k : Int) + 1 from by omega] at hik2
        have HN : Hid (acc ++ [d] ++ unq ((bs t).drop (k + 2)) = unq (bs t)) := by
          show _ = _
          rw [← HA.out, HD.out, drop_cons hg2, unq_esc, List.append_assoc]
          rfl
        clear hd hg2 HD HA
        have hik' : ∀ w, (Instr.index 9 (.string t) (.int .i64 k)).run Try.prog w = .ok (.int .u8 92) w := hik
        clear hik
        go_wp2_with fail
        refine (write_bld w.heap.size w.heap.size acc d wr hb (by omega) hbel.size).mono ?_
        rintro e w1 ⟨rfl, hb1, hbel1⟩
        go_wp2
        go_roundw
        case rel => exact ⟨k + 2, acc ++ [d], by omega, by go_num, hb1, HN.out, by simp; omega, hbel.trans hbel1⟩
        case measure => simp [intOf]; omega
      · have HN : Hid (acc ++ [c] ++ unq ((bs t).drop (k + 1)) = unq (bs t)) := by
          show _ = _
          rw [← HA.out, HD.out, List.append_assoc]
          by_cases h92 : c = 92
          · have hk1 : ¬ (k + 1 < t.size) := fun h => he ⟨h92, h⟩
            have hend : (bs t).drop (k + 1) = [] := List.drop_eq_nil_of_le (by rw [bs_length]; omega)
            rw [hend, unq_one]; rfl
          · rw [unq_plain c _ h92]; rfl
        clear HA HD
        by_cases h92 : c = 92
        · have hk1 : ¬ (k + 1 < t.size) := fun h => he ⟨h92, h⟩
          clear he
          subst h92
          have hlt2 : ¬ ((k : Int) + 1 < (t.size : Int)) := by omega
          have hik' : ∀ w, (Instr.index 9 (.string t) (.int .i64 k)).run Try.prog w = .ok (.int .u8 92) w := hik
          clear hik
          go_wp2_with fail
          refine (write_bld w.heap.size w.heap.size acc 92 wr hb (by omega) hbel.size).mono ?_
          rintro e w1 ⟨rfl, hb1, hbel1⟩
          go_wp2
          go_roundw
          case rel => exact ⟨k + 1, acc ++ [92], by omega, by go_num, hb1, HN.out, by simp; omega, hbel.trans hbel1⟩
          case measure => simp [intOf]; omega
        · have hne : ((c.toNat : Int) == 92) = false := by
            cases h : ((c.toNat : Int) == 92)
            · rfl
            · refine absurd ?_ h92
              have := beq_iff_eq.1 h
              apply UInt8.toNat_inj.1
              show c.toNat = 92
              omega
          go_wp2_with fail
          refine (write_bld w.heap.size w.heap.size acc c wr hb (by omega) hbel.size).mono ?_
          rintro e w1 ⟨rfl, hb1, hbel1⟩
          go_wp2
          go_roundw
          case rel => exact ⟨k + 1, acc ++ [c], by omega, by go_num, hb1, HN.out, by simp; omega, hbel.trans hbel1⟩
          case measure => simp [intOf]; omega
    · have HQ : Hid (acc = unq (bs t)) := by
        have h := HA.out
        rw [List.drop_eq_nil_of_le (by rw [bs_length]; omega)] at h
        show acc = unq (bs t)
        simpa [unq] using h
      clear HA
      go_wp2_with fail
      refine (string_bld w.heap.size w.heap.size acc wr hb hbel.size).mono ?_
      rintro e w1 ⟨rfl, hbel1⟩
      go_wp2
      go_ret
      refine ⟨?_, hbel.trans hbel1⟩
      rw [HT.out, ← HQ.out]
      rfl

/-- What does not open with a double quote, or is too short, stands as it is. -/
theorem unquote_plain (s : ByteArray) (hs : s.size ≤ 4000000) (hq : s.size < 2 ∨ (bs s)[0]? ≠ some 34) (w : World) :
    Calls Try.prog 14 #[.string s] w fun e w' => e = .returned (.string s) ∧ w = w' := by
  by_cases h2 : s.size < 2
  · have hd : (s.size : Int) < 2 := by omega
    go_enter Try.func14, Try.ntmps14
    go_wp2
    go_ret
    exact ⟨rfl, rfl⟩
  · obtain ⟨c, hc⟩ : ∃ c, (bs s)[0]? = some c := ⟨_, List.getElem?_eq_getElem (by rw [bs_length]; omega)⟩
    have h0 : ∀ w, (Instr.index 9 (.string s) (.int .i64 0)).run Try.prog w = .ok (.int .u8 c.toNat) w := idx_at s 0 c hc
    have hne : ((c.toNat : Int) != 34) = true := by
      rw [bne_iff_ne]
      intro h
      rcases hq with h' | h'
      · exact h2 h'
      · refine h' ?_
        rw [hc]
        congr 1
        apply UInt8.toNat_inj.1
        show c.toNat = 34
        omega
    have hd : ¬ ((s.size : Int) < 2) := by omega
    clear hq hc
    go_enter Try.func14, Try.ntmps14
    go_wp2
    go_ret
    exact ⟨rfl, rfl⟩

theorem unquote_any (s : ByteArray) (hs : s.size ≤ 4000000) (w : World) :
    Calls Try.prog 14 #[.string s] w fun e w' => e = .returned (.string (uq s)) ∧ Below w.heap.size w w' := by
  unfold uq
  by_cases hq : s.size < 2 ∨ (bs s)[0]? ≠ some 34
  · rw [if_pos hq]
    refine (unquote_plain s hs hq w).mono ?_
    rintro e w' ⟨rfl, rfl⟩
    exact ⟨rfl, Below.refl _ _⟩
  · rw [if_neg hq]
    refine unquote_quoted s (by omega) hs ?_ w
    by_cases h : (bs s)[0]? = some 34
    · exact h
    · exact absurd (.inr h) hq

end Go.Proofs.Qxb6601905a.Uq
