/-
  unquoteModelAB1: its contract: it gives what UnquoteLocal gives.
-/
import Derived.Test.Qxb6601905aUqBuf
namespace Go.Proofs.Qxb6601905a.Uq
open Go.RowKit

/-! ### the plain law: runs of backslashes -/
theorem unq_run_two (r : Nat) (l : List UInt8) : unq (List.replicate (r + 2) 92 ++ l) = 92 :: unq (List.replicate r 92 ++ l) := by
  simp [List.replicate_succ, unq]

theorem unq_run : ∀ (r : Nat) (c : UInt8) (l : List UInt8), c ≠ 92 → unq (List.replicate r 92 ++ c :: l) = List.replicate (r / 2) 92 ++ unq (c :: l)
  | 0, c, l, h => by simp
  | 1, c, l, h => by
    rw [unq_plain c l h]
    simp [unq]
  | r + 2, c, l, h => by
    rw [unq_run_two, unq_run r c l h, show (r + 2) / 2 = r / 2 + 1 from by omega, List.replicate_succ]
    rfl

theorem unq_run_end : ∀ (r : Nat), unq (List.replicate r 92) = List.replicate ((r + 1) / 2) 92
  | 0 => rfl
  | 1 => rfl
  | r + 2 => by
    have h := unq_run_two r []
    rw [List.append_nil, List.append_nil] at h
    rw [h, unq_run_end r, show (r + 2 + 1) / 2 = (r + 1) / 2 + 1 from by omega, List.replicate_succ]

/-- A stretch of backslashes. -/
theorem drop_run {l : List UInt8} {k r : Nat} (h : ∀ j, j < r → l[k + j]? = some 92) : l.drop k = List.replicate r 92 ++ l.drop (k + r) := by
  induction r generalizing k with
  | zero => simp
  | succ r ih =>
    rw [drop_cons (by simpa using h 0 (by omega)), ih (k := k + 1) (fun j hj => by have := h (j + 1) (by omega); rwa [show k + 1 + j = k + (j + 1) from by omega]), List.replicate_succ, show k + 1 + r = k + (r + 1) from by omega]
    rfl

theorem run_snoc {l : List UInt8} {k j : Nat} (h : ∀ x, k ≤ x → x < j → l[x]? = some 92) (hj : l[j]? = some 92) : ∀ x, k ≤ x → x < j + 1 → l[x]? = some 92 := by
  intro x h1 h2
  by_cases e : x = j
  · rw [e]; exact hj
  · exact h x h1 (by omega)

theorem run_split {l : List UInt8} {k j : Nat} (hkj : k ≤ j) (h : ∀ x, k ≤ x → x < j → l[x]? = some 92) : l.drop k = List.replicate (j - k) 92 ++ l.drop j := by
  have := drop_run (l := l) (k := k) (r := j - k) (fun x hx => h (k + x) (by omega) (by omega))
  rwa [show k + (j - k) = j from by omega] at this

/-- A run that another byte follows. -/
theorem run_mid {l : List UInt8} {k j : Nat} (hkj : k ≤ j) (h : ∀ x, k ≤ x → x < j → l[x]? = some 92) {d : UInt8} (hd : l[j]? = some d) (hd92 : d ≠ 92) : unq (l.drop k) = List.replicate ((j - k) / 2) 92 ++ unq (l.drop j) := by
  rw [run_split hkj h, drop_cons hd, unq_run _ _ _ hd92]

/-- A run that ends the body. -/
theorem run_end {l : List UInt8} {k j : Nat} (hkj : k ≤ j) (hj : l.length ≤ j) (h : ∀ x, k ≤ x → x < j → l[x]? = some 92) : unq (l.drop k) = List.replicate ((j - k + 1) / 2) 92 := by
  rw [run_split hkj h, List.drop_eq_nil_of_le hj, List.append_nil, unq_run_end]

set_option maxHeartbeats 1600000 in
theorem model_quoted (s : ByteArray) (h2 : 2 ≤ s.size) (hs : s.size ≤ 4000000) (hq : (bs s)[0]? = some 34) (w : World) :
    Calls Try.prog 17 #[.string s] w fun e w' => e = .returned (.string (mk (unq (bs (s.extract 1 (s.size - 1)))))) ∧ Below w.heap.size w w' := by
  have h0 : ∀ w, (Instr.index 9 (.string s) (.int .i64 0)).run Try.prog w = .ok (.int .u8 34) w := idx_at s 0 34 hq
  have hn1 : ¬ ((s.size : Int) < 2) := by omega
  have hd1 : decide ((s.size : Int) < 2) = false := by simp; omega
  obtain ⟨w1, hmk, hb1, hbel1⟩ := make_buf w ((s.size - 1 - 1 : Nat) : Int) (by omega) (by omega)
  rw [Int.toNat_natCast] at hmk hb1
  go_enter Try.func17, Try.ntmps17
  go_wp2
  have hts : (s.extract 1 (s.size - 1)).size ≤ 4000000 := by rw [ByteArray.size_extract]; omega
  generalize ht : s.extract 1 (s.size - 1) = t at *
  have HT : Hid (s.extract 1 (s.size - 1) = t) := ht
  clear ht h0 hn1 hd1 hq hmk
  go_loopw [4, 5] (fun out i wr => ∃ (k : Nat) (acc : List UInt8), k ≤ t.size ∧ i = .int .i64 k ∧ Buf wr w.heap.size out acc ∧ acc ++ unq ((bs t).drop k) = unq (bs t) ∧ acc.length ≤ k ∧ Below w.heap.size w wr) (fun _ i _ => t.size - (intOf i).toNat)
  case atStart => exact ⟨0, [], by omega, rfl, hb1, rfl, Nat.le_refl _, hbel1⟩
  case round =>
    clear hb1 hbel1
    obtain ⟨k, acc, hk, rfl, hb, hacc, hal, hbel⟩ := hrel
    have HA : Hid (acc ++ unq ((bs t).drop k) = unq (bs t)) := hacc
    clear hacc
    by_cases hlt : k < t.size
    · obtain ⟨c, hc⟩ : ∃ c, c = t[k]'hlt := ⟨_, rfl⟩
      have hg : (bs t)[k]? = some c := by rw [bs_get t k hlt, hc]
      have hik := idx_at t k c hg
      clear hc
      by_cases h92 : c = 92
      · subst h92
        have hik' : ∀ w, (Instr.index 9 (.string t) (.int .i64 k)).run Try.prog w = .ok (.int .u8 92) w := hik
        clear hik
        go_wp2
        go_loop [6] (fun jj => ∃ j : Nat, k ≤ j ∧ j ≤ t.size ∧ jj = .int .i64 j ∧ ∀ x, k ≤ x → x < j → (bs t)[x]? = some 92) (fun jj => t.size - (intOf jj).toNat)
        case atStart => exact ⟨k, Nat.le_refl _, by omega, rfl, fun x h1 h2 => by omega⟩
        case round =>
          obtain ⟨j, hkj, hjs, rfl, hrun⟩ := hrel
          have HR : Hid (∀ x, k ≤ x → x < j → (bs t)[x]? = some 92) := hrun
          have HK : Hid ((bs t)[k]? = some 92) := hg
          clear hrun hik'
          by_cases hltj : j < t.size
          · obtain ⟨d, hd⟩ : ∃ d, d = t[j]'hltj := ⟨_, rfl⟩
            have hgj : (bs t)[j]? = some d := by rw [bs_get t j hltj, hd]
            have hij := idx_at t j d hgj
            clear hd
            by_cases hd92 : d = 92
            · subst hd92
              have hij' : ∀ w, (Instr.index 9 (.string t) (.int .i64 j)).run Try.prog w = .ok (.int .u8 92) w := hij
              have HJ : Hid ((bs t)[j]? = some 92) := hgj
              clear hij hgj hg
              go_wp2
              go_round
              case rel => exact ⟨j + 1, by omega, by omega, by go_num, run_snoc HR.out HJ.out⟩
              case measure => simp [intOf]; omega
            obtain ⟨M, hMr⟩ : ∃ M, M = (j - k) / 2 := ⟨_, rfl⟩
            have hM : ((j : Int) - (k : Int)) / 2 = (M : Int) := by omega
            have hMk : acc.length + M ≤ j := by omega
            have hne : ((d.toNat : Int) == 92) = false := by
              cases h : ((d.toNat : Int) == 92)
              · rfl
              · refine absurd (UInt8.toNat_inj.1 ?_) hd92
                have := beq_iff_eq.1 h
                show d.toNat = 92
                omega
            have hkj2 : k < j := by
              rcases Nat.lt_or_ge k j with h | h
              · exact h
              · have e : k = j := by omega
                rw [← e, HK.out] at hgj
                injection hgj with hgj
                exact absurd hgj.symm hd92
            have hjl : ((j : Int) == (t.size : Int)) = false := by simp; omega
            have HN : Hid (acc ++ List.replicate M 92 ++ unq ((bs t).drop j) = unq (bs t)) := by
              show _ = _
              rw [← HA.out, run_mid (by omega) HR.out hgj hd92, hMr, List.append_assoc]
            clear hMr hgj hg HR HK HA hd92
            go_wp2
            go_loopw [4, 9] (fun out tt wx => ∃ x : Nat, x ≤ M ∧ tt = .int .i64 x ∧ Buf wx w.heap.size out (acc ++ List.replicate x 92) ∧ Below w.heap.size w wx) (fun _ tt _ => M - (intOf tt).toNat)
            case atStart => exact ⟨0, by omega, rfl, by simpa using hb, hbel⟩
            case round =>
              clear hb hbel
              obtain ⟨x, hx, rfl, hb, hbel⟩ := hrel
              by_cases hltx : x < M
              · have HU : Hid (Buf (wr.alloc (.cells #[.int .u8 92] 5)) w.heap.size _ (acc ++ List.replicate x 92)) := hb.later ((Below.refl _ _).alloc (Nat.le_refl _) _)
                have HV : Hid (Src Try.prog 1 26 (.slice (some ⟨wr.heap.size, 0, none⟩) 1 1) [(92 : UInt8)].length (cells [92]) (wr.alloc (.cells #[.int .u8 92] 5))) := src_one wr 92
                have hB1 : w.heap.size ≤ (wr.alloc (.cells #[.int .u8 92] 5)).heap.size := by have := hbel.size; simp; omega
                have hbd : (acc ++ List.replicate x 92).length + [(92 : UInt8)].length ≤ 100000000 := by simp only [List.length_append, List.length_replicate, List.length_cons, List.length_nil]; omega
                go_wp2_with (first | (at_builtin; refine wpList_append_buf _ rfl (.tmp 73) (.tmp 74) 26 rfl w.heap.size _ (.slice (some ⟨wr.heap.size, 0, none⟩) 1 1) _ [92] rfl rfl HU.out hB1 HV.out hbd ?_; intro v2 w2 hbuf2 hbel2))
                clear HU HV
                go_wp2
                have B2 := (hbel.alloc hbel.size (.cells #[.int .u8 92] 5)).trans hbel2
                rw [List.append_assoc, ← List.replicate_succ'] at hbuf2
                go_roundw
                case rel => exact ⟨x + 1, by omega, by go_num, hbuf2, B2⟩
                case measure => simp [intOf]; omega
              · have e : x = M := by omega
                subst e
                go_wp2
                go_roundw
                case rel => exact ⟨j, acc ++ List.replicate x 92, by omega, rfl, hb, HN.out, by simp; omega, hbel⟩
                case measure => simp [intOf]; omega
          · obtain ⟨M, hMr⟩ : ∃ M, M = (j - k + 1) / 2 := ⟨_, rfl⟩
            have hkj2 : k < j := by omega
            have hM0 : 0 ≤ (j : Int) - (k : Int) := by omega
            have hM : ((j : Int) - (k : Int) + 1) / 2 = (M : Int) := by omega
            have hMk : acc.length + M ≤ j := by omega
            have hjl : ((j : Int) == (t.size : Int)) = true := by simp; omega
            have HN : Hid (acc ++ List.replicate M 92 ++ unq ((bs t).drop j) = unq (bs t)) := by
              show _ = _
              rw [← HA.out, run_end (by omega) (by rw [bs_length]; omega) HR.out, hMr]
              rw [List.drop_eq_nil_of_le (show (bs t).length ≤ j by rw [bs_length]; omega)]
              simp [unq]
            clear hMr hg HR HK HA
            go_wp2
            go_loopw [4, 9] (fun out tt wx => ∃ x : Nat, x ≤ M ∧ tt = .int .i64 x ∧ Buf wx w.heap.size out (acc ++ List.replicate x 92) ∧ Below w.heap.size w wx) (fun _ tt _ => M - (intOf tt).toNat)
            case atStart => exact ⟨0, by omega, rfl, by simpa using hb, hbel⟩
            case round =>
              clear hb hbel
              obtain ⟨x, hx, rfl, hb, hbel⟩ := hrel
              by_cases hltx : x < M
              · have HU : Hid (Buf (wr.alloc (.cells #[.int .u8 92] 5)) w.heap.size _ (acc ++ List.replicate x 92)) := hb.later ((Below.refl _ _).alloc (Nat.le_refl _) _)
                have HV : Hid (Src Try.prog 1 26 (.slice (some ⟨wr.heap.size, 0, none⟩) 1 1) [(92 : UInt8)].length (cells [92]) (wr.alloc (.cells #[.int .u8 92] 5))) := src_one wr 92
                have hB1 : w.heap.size ≤ (wr.alloc (.cells #[.int .u8 92] 5)).heap.size := by have := hbel.size; simp; omega
                have hbd : (acc ++ List.replicate x 92).length + [(92 : UInt8)].length ≤ 100000000 := by simp only [List.length_append, List.length_replicate, List.length_cons, List.length_nil]; omega
                go_wp2_with (first | (at_builtin; refine wpList_append_buf _ rfl (.tmp 73) (.tmp 74) 26 rfl w.heap.size _ (.slice (some ⟨wr.heap.size, 0, none⟩) 1 1) _ [92] rfl rfl HU.out hB1 HV.out hbd ?_; intro v2 w2 hbuf2 hbel2))
                clear HU HV
                go_wp2
                have B2 := (hbel.alloc hbel.size (.cells #[.int .u8 92] 5)).trans hbel2
                rw [List.append_assoc, ← List.replicate_succ'] at hbuf2
                go_roundw
                case rel => exact ⟨x + 1, by omega, by go_num, hbuf2, B2⟩
                case measure => simp [intOf]; omega
              · have e : x = M := by omega
                subst e
                go_wp2
                go_roundw
                case rel => exact ⟨j, acc ++ List.replicate x 92, by omega, rfl, hb, HN.out, by simp; omega, hbel⟩
                case measure => simp [intOf]; omega
      · have HN : Hid (acc ++ [c] ++ unq ((bs t).drop (k + 1)) = unq (bs t)) := by
          show _ = _
          rw [← HA.out, drop_cons hg, List.append_assoc, unq_plain c _ h92]; rfl
        have hne : ((c.toNat : Int) != 92) = true := by
          rw [bne_iff_ne]
          intro h
          refine h92 (UInt8.toNat_inj.1 ?_)
          show c.toNat = 92
          omega
        have HU : Hid (Buf (wr.alloc (.cells #[.int .u8 (c.toNat : Int)] 5)) w.heap.size _ acc) := hb.later ((Below.refl _ _).alloc (Nat.le_refl _) _)
        have HV := src_one wr c
        have hB1 : w.heap.size ≤ (wr.alloc (.cells #[.int .u8 (c.toNat : Int)] 5)).heap.size := by have := hbel.size; simp; omega
        have HV' : Hid (Src Try.prog 1 26 (.slice (some ⟨wr.heap.size, 0, none⟩) 1 1) [c].length (cells [c]) (wr.alloc (.cells #[.int .u8 (c.toNat : Int)] 5))) := HV
        have hbd : acc.length + [c].length ≤ 100000000 := by simp only [List.length_cons, List.length_nil]; omega
        clear HV HA hg
        go_wp2_with (first | (at_builtin; refine wpList_append_buf _ rfl (.tmp 35) (.tmp 39) 26 rfl w.heap.size _ (.slice (some ⟨wr.heap.size, 0, none⟩) 1 1) _ [c] rfl rfl HU.out hB1 HV'.out hbd ?_; intro v2 w2 hbuf2 hbel2))
        clear HU HV'
        go_wp2
        have B2 := (hbel.alloc hbel.size (.cells #[.int .u8 (c.toNat : Int)] 5)).trans hbel2
        go_roundw
        case rel => exact ⟨k + 1, acc ++ [c], by omega, by go_num, hbuf2, HN.out, by simp; omega, B2⟩
        case measure => simp [intOf]; omega
    · have HQ : Hid (acc = unq (bs t)) := by
        have h := HA.out
        rw [List.drop_eq_nil_of_le (by rw [bs_length]; omega)] at h
        show acc = unq (bs t)
        simpa [unq] using h
      have hcv := conv_buf hb
      clear HA
      go_wp2
      go_ret
      refine ⟨?_, hbel⟩
      rw [HT.out, ← HQ.out]
      rfl

/-- What does not open with a double quote, or is too short, stands as it is. -/
theorem model_plain (s : ByteArray) (hs : s.size ≤ 4000000) (hq : s.size < 2 ∨ (bs s)[0]? ≠ some 34) (w : World) :
    Calls Try.prog 17 #[.string s] w fun e w' => e = .returned (.string s) ∧ w = w' := by
  by_cases h2 : s.size < 2
  · have hd : (s.size : Int) < 2 := by omega
    go_enter Try.func17, Try.ntmps17
    go_wp2
    go_ret
    exact ⟨rfl, rfl⟩
  · obtain ⟨c, hc⟩ : ∃ c, (bs s)[0]? = some c := ⟨_, List.getElem?_eq_getElem (by rw [bs_length]; omega)⟩
    have h0 : ∀ w, (Instr.index 9 (.string s) (.int .i64 0)).run Try.prog w = .ok (.int .u8 c.toNat) w := idx_at s 0 c hc
    have hne : ((c.toNat : Int) != 34) = true := by
      rw [bne_iff_ne]
      intro h
      rcases hq with h' | h'
      · exact h2 h'
      · refine h' ?_
        rw [hc]
        congr 1
        apply UInt8.toNat_inj.1
        show c.toNat = 34
        omega
    have hd : ¬ ((s.size : Int) < 2) := by omega
    clear hq hc
    go_enter Try.func17, Try.ntmps17
    go_wp2
    go_ret
    exact ⟨rfl, rfl⟩

theorem model_any (s : ByteArray) (hs : s.size ≤ 4000000) (w : World) :
    Calls Try.prog 17 #[.string s] w fun e w' => e = .returned (.string (uq s)) ∧ Below w.heap.size w w' := by
  unfold uq
  by_cases hq : s.size < 2 ∨ (bs s)[0]? ≠ some 34
  · rw [if_pos hq]
    refine (model_plain s hs hq w).mono ?_
    rintro e w' ⟨rfl, rfl⟩
    exact ⟨rfl, Below.refl _ _⟩
  · rw [if_neg hq]
    refine model_quoted s (by omega) hs ?_ w
    by_cases h : (bs s)[0]? = some 34
    · exact h
    · exact absurd (.inr h) hq

end Go.Proofs.Qxb6601905a.Uq
