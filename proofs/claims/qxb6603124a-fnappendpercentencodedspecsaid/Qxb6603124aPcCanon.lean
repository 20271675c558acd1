/-
  zzCanonicalEncodes answers true at the encoding of s and s.
-/
import Derived.Test.Qxb6603124aPcEnc
namespace Go.Proofs.Qxb6603124a.Pc
open Go.RowKit

/-- s[i], the byte known. -/
theorem idx_at (o : ByteArray) (i : Nat) (b : UInt8) (h : (bs o)[i]? = some b) (w : World) : (Instr.index 9 (.string o) (.int .i64 i)).run Try.prog w = .ok (.int .u8 b.toNat) w := by
  have hi : i < o.size := by rw [← bs_length]; exact (List.getElem?_eq_some_iff.1 h).1
  have hb : 0 ≤ (i : Int) ∧ (i : Int) < (o.size : Int) := by omega
  rw [run_index_string w 9 _ .i64 _ Try.underlying9, dif_pos hb]
  rw [bs_get o i hi] at h
  injection h with h
  simp only [Int.toNat_natCast, h]

theorem split_at (s : ByteArray) (k : Nat) (hk : k < s.size) : enc (bs s) = enc ((bs s).take k) ++ (tok (s[k]'hk) ++ enc ((bs s).drop (k + 1))) := by
  have hk2 : k < (bs s).length := by rw [bs_length]; exact hk
  have e : bs s = (bs s).take k ++ ((s[k]'hk) :: (bs s).drop (k + 1)) := by
    have h1 := List.take_append_drop k (bs s)
    rw [List.drop_eq_getElem_cons hk2] at h1
    exact h1.symm
  have h2 := congrArg enc e
  rw [enc_append] at h2
  exact h2

theorem enc_take_succ (s : ByteArray) (k : Nat) (hk : k < s.size) : enc ((bs s).take (k + 1)) = enc ((bs s).take k) ++ tok (s[k]'hk) := by
  have hk2 : k < (bs s).length := by rw [bs_length]; exact hk
  rw [List.take_succ_eq_append_getElem hk2, enc_snoc]
  rfl

theorem at_tok {o s : ByteArray} (ho : bs o = enc (bs s)) {k : Nat} (hk : k < s.size) (j : Nat) (b : UInt8) (hj : (tok (s[k]'hk))[j]? = some b) :
    (bs o)[(enc ((bs s).take k)).length + j]? = some b := by
  have hjl := (List.getElem?_eq_some_iff.1 hj).1
  rw [ho, split_at s k hk, List.getElem?_append_right (by omega), Nat.add_sub_cancel_left, List.getElem?_append_left hjl]
  exact hj

theorem lt_of_get {o : ByteArray} {i : Nat} {b : UInt8} (h : (bs o)[i]? = some b) : i < o.size := by
  rw [← bs_length]; exact (List.getElem?_eq_some_iff.1 h).1

set_option maxHeartbeats 400000 in
theorem canon_any (o s : ByteArray) (w : World) (ho : bs o = enc (bs s)) (hs : s.size ≤ 1048576) :
    Calls Try.prog 10 #[.string o, .string s] w fun e w' => e = .returned (.bool true) ∧ w = w' := by
  have hos : o.size ≤ 4000000 := by
    have := enc_length (bs s)
    rw [← ho, bs_length, bs_length] at this
    omega
  have HO : Hid (bs o = enc (bs s)) := ho
  clear ho
  go_enter Try.func10, Try.ntmps10
  go_wp2
  go_loop [5, 6] (fun i j => ∃ k n : Nat, k ≤ s.size ∧ j = .int .i64 k ∧ i = .int .i64 n ∧ (enc ((bs s).take k)).length = n) (fun _ j => s.size - (intOf j).toNat)
  case atStart => exact ⟨0, 0, by omega, rfl, rfl, rfl⟩
  case round =>
    obtain ⟨k, n, hk, rfl, rfl, hn⟩ := hrel
    have HN : Hid ((enc ((bs s).take k)).length = n) := hn
    clear hn
    by_cases hlt : k < s.size
    · obtain ⟨c, hc⟩ : ∃ c, c = s[k]'hlt := ⟨_, rfl⟩
      have hsc := idx_at s k c (by rw [bs_get s k hlt, hc])
      have HT : Hid (enc ((bs s).take (k + 1)) = enc ((bs s).take k) ++ tok c) := by rw [hc]; exact enc_take_succ s k hlt
      have HA : Hid (∀ j b, (tok c)[j]? = some b → (bs o)[n + j]? = some b) := by
        intro j b hj
        rw [← HN.out]
        exact at_tok HO.out hlt j b (by rw [← hc]; exact hj)
      have hc256 : c.toNat < 256 := UInt8.toNat_lt c
      clear hc
      cases hu : unr (c.toNat : Int)
      · have htk : tok c = [37, hexD (c.toNat / 16), hexD (c.toNat % 16)] := by unfold tok; rw [hu]; rfl
        have g0 := HA.out 0 37 (by rw [htk]; rfl)
        have g1 := HA.out 1 _ (by rw [htk]; rfl)
        have g2 := HA.out 2 _ (by rw [htk]; rfl)
        have i0 := idx_at o n 37 g0
        have i1 := idx_at o (n + 1) _ g1
        have i2 := idx_at o (n + 2) _ g2
        have hl2 := lt_of_get g2
        have v1 := hexD_val (c.toNat / 16) (by omega)
        have v2 := hexD_val (c.toNat % 16) (by omega)
        generalize hexD (c.toNat / 16) = x at *
        generalize hexD (c.toNat % 16) = y at *
        rw [show ((n + 1 : Nat) : Int) = (n : Int) + 1 from by omega] at i1
        rw [show ((n + 2 : Nat) : Int) = (n : Int) + 2 from by omega] at i2
        have HV1 : Hid (hexV x.toNat = ((c.toNat / 16 : Nat) : Int)) := v1
        have HV2 : Hid (hexV y.toNat = ((c.toNat % 16 : Nat) : Int)) := v2
        have htl : (tok c).length = 3 := by rw [htk]; rfl
        clear g0 g1 g2 v1 v2 htk HA
        obtain ⟨a, ha⟩ : ∃ a, a = c.toNat / 16 := ⟨_, rfl⟩
        obtain ⟨b, hb⟩ : ∃ b, b = c.toNat % 16 := ⟨_, rfl⟩
        rw [← ha] at HV1
        rw [← hb] at HV2
        have ha16 : a < 16 := by omega
        have hb16 : b < 16 := by omega
        have hab : (((a : Int) * 16 + (b : Int)) != (c.toNat : Int)) = false := by
          have : ((a : Int) * 16 + (b : Int)) = (c.toNat : Int) := by omega
          simp [this]
        have HUN : Hid (unr ((a : Int) * 16 + (b : Int)) = false) := by
          have : ((a : Int) * 16 + (b : Int)) = (c.toNat : Int) := by omega
          show unr _ = false
          rw [this]; exact hu
        have HL : Hid ((enc ((bs s).take (k + 1))).length = n + 3) := by
          show _ = _
          rw [HT.out, List.length_append, HN.out, htl]
        clear ha hb HT HN hu
        go_wp2_with fail
        refine (hexValue_any _ (by omega) (byte_lt _) _).mono ?_
        rintro e w1 ⟨rfl, rfl⟩
        rw [HV1.out]
        go_wp2_with fail
        refine (hexValue_any _ (by omega) (byte_lt _) _).mono ?_
        rintro e w1 ⟨rfl, rfl⟩
        rw [HV2.out]
        clear i0 i1 i2 HV1 HV2
        go_wp2_with fail
        refine (isUnreserved_any _ _).mono ?_
        rintro e w1 ⟨rfl, rfl⟩
        rw [HUN.out]
        go_wp2
        go_round
        case rel => exact ⟨k + 1, n + 3, by omega, by go_num, by go_num, HL.out⟩
        case measure => simp [intOf]; omega
      · have htk : tok c = [c] := by unfold tok; rw [hu]; rfl
        have g0 := HA.out 0 c (by rw [htk]; rfl)
        have i0 := idx_at o n c g0
        have hl0 := lt_of_get g0
        have h37 : ((c.toNat : Int) == 37) = false := by
          cases h : ((c.toNat : Int) == 37)
          · rfl
          · rw [beq_iff_eq.1 h, unr37] at hu; cases hu
        have HL : Hid ((enc ((bs s).take (k + 1))).length = n + 1) := by
          show _ = _
          rw [HT.out, List.length_append, HN.out, htk]; rfl
        have HUN : Hid (unr (c.toNat : Int) = true) := hu
        clear g0 htk HA HT HN hu
        go_wp2_with fail
        refine (isUnreserved_any _ _).mono ?_
        rintro e w1 ⟨rfl, rfl⟩
        rw [HUN.out]
        go_wp2
        go_round
        case rel => exact ⟨k + 1, n + 1, by omega, by go_num, by go_num, HL.out⟩
        case measure => simp [intOf]; omega
    · have hke : k = s.size := by omega
      have hno : n = o.size := by
        have h1 := HN.out
        rw [hke, List.take_of_length_le (by rw [bs_length]; exact Nat.le_refl _), ← HO.out, bs_length] at h1
        exact h1.symm
      have hd1 : ((k : Int) == (s.size : Int)) = true := by rw [hke]; simp
      have hd2 : ¬ ((n : Int) < (o.size : Int)) := by omega
      clear hke hno HN HO
      go_wp2
      go_ret
      exact ⟨rfl, rfl⟩
end Go.Proofs.Qxb6603124a.Pc
