/-
  appendPercentEncoded: its contract.
-/
import Derived.Test.Qxb6603124aPcSmall
namespace Go.Proofs.Qxb6603124a.Pc
open Go.RowKit

/-- A string's bytes. -/
def bs (x : ByteArray) : List UInt8 := x.data.toList
theorem bs_length (s : ByteArray) : (bs s).length = s.size := by
  unfold bs; rw [Array.length_toList]; rfl
theorem bs_extract (s : ByteArray) (a b : Nat) : bs (s.extract a b) = ((bs s).drop a).take (b - a) := by
  unfold bs; simp

theorem src_string (s : ByteArray) (w : World) : Src Try.prog 1 9 (.string s) (bs s).length (cells (bs s)) w := by
  have h := Src.ofString (P := Try.prog) w Try.underlying9 s
  rw [bs_length]
  exact h

/-- All bytes of s from a on, ahead of b, are unreserved. -/
def Plain (s : ByteArray) (a b : Nat) : Prop := ∀ j c, a ≤ j → j < b → (bs s)[j]? = some c → unr c.toNat = true

theorem hex_hi (c : Nat) (hc : c < 256) (w : World) : (Instr.index 9 (.string ⟨#[48, 49, 50, 51, 52, 53, 54, 55, 56, 57, 65, 66, 67, 68, 69, 70]⟩) (.int .u8 ((c : Int) / 16))).run Try.prog w = .ok (.int .u8 ((hexD (c / 16)).toNat : Int)) w := by
  have hb : 0 ≤ (c : Int) / 16 ∧ (c : Int) / 16 < ((⟨#[48, 49, 50, 51, 52, 53, 54, 55, 56, 57, 65, 66, 67, 68, 69, 70]⟩ : ByteArray).size : Int) := by
    rw [show ((⟨#[48, 49, 50, 51, 52, 53, 54, 55, 56, 57, 65, 66, 67, 68, 69, 70]⟩ : ByteArray).size : Int) = 16 from rfl]; omega
  rw [run_index_string w 9 _ .u8 _ Try.underlying9, dif_pos hb]
  have e : ∀ (k : Nat) (h : k < 16), (⟨#[48, 49, 50, 51, 52, 53, 54, 55, 56, 57, 65, 66, 67, 68, 69, 70]⟩ : ByteArray)[k]'h = hexD k := by decide
  have hk : ((c : Int) / 16).toNat = c / 16 := by omega
  simp only [hk]
  rw [e (c / 16) (by omega)]

theorem and15 (c : Nat) (hc : c < 256) : bits .and .u8 (c : Int) 15 = ((c % 16 : Nat) : Int) := by
  have : ∀ c : Nat, c < 256 → bits .and .u8 (c : Int) 15 = ((c % 16 : Nat) : Int) := by decide +kernel
  exact this c hc

theorem hex_lo (c : Nat) (hc : c < 256) (w : World) : (Instr.index 9 (.string ⟨#[48, 49, 50, 51, 52, 53, 54, 55, 56, 57, 65, 66, 67, 68, 69, 70]⟩) (.int .u8 (bits .and .u8 (c : Int) 15))).run Try.prog w = .ok (.int .u8 ((hexD (c % 16)).toNat : Int)) w := by
  rw [and15 c hc]
  have hb : 0 ≤ ((c % 16 : Nat) : Int) ∧ ((c % 16 : Nat) : Int) < ((⟨#[48, 49, 50, 51, 52, 53, 54, 55, 56, 57, 65, 66, 67, 68, 69, 70]⟩ : ByteArray).size : Int) := by
    rw [show ((⟨#[48, 49, 50, 51, 52, 53, 54, 55, 56, 57, 65, 66, 67, 68, 69, 70]⟩ : ByteArray).size : Int) = 16 from rfl]; omega
  rw [run_index_string w 9 _ .u8 _ Try.underlying9, dif_pos hb]
  have e : ∀ (k : Nat) (h : k < 16), (⟨#[48, 49, 50, 51, 52, 53, 54, 55, 56, 57, 65, 66, 67, 68, 69, 70]⟩ : ByteArray)[k]'h = hexD k := by decide
  simp only [Int.toNat_natCast]
  rw [e (c % 16) (by omega)]

theorem src_three (w : World) (x y : UInt8) : Src Try.prog 1 25 (.slice (some ⟨w.heap.size, 0, none⟩) 3 3) [37, x, y].length (cells [37, x, y]) (w.alloc (.cells #[.int .u8 37, .int .u8 (x.toNat : Int), .int .u8 (y.toNat : Int)] 5)).drew := by
  refine Src.ofSlice _ (e' := 5) Try.underlying25 ⟨w.heap.size, 0, none⟩ 3 3 (cells [37, x, y]) rfl (fun j u hj => ?_) (cells_one _)
  rw [Addr.add_mid, Nat.zero_add, World.cell?_drew]
  have hc := World.cell?_alloc_mark w #[.int .u8 37, .int .u8 (x.toNat : Int), .int .u8 (y.toNat : Int)] 5 (0, 0) j
  rw [hc]
  simpa [cells] using hj

theorem bs_get (s : ByteArray) (k : Nat) (h : k < s.size) : (bs s)[k]? = some (s[k]'h) := by
  unfold bs
  rw [Array.getElem?_toList, Array.getElem?_eq_getElem (by exact h)]
  rfl

theorem plain_snoc {s : ByteArray} {t k : Nat} (hk : k < s.size) (h : Plain s t k) (hu : unr ((s[k]'hk).toNat : Int) = true) : Plain s t (k + 1) := by
  intro j c h1 h2 hj
  by_cases e : j = k
  · rw [e, bs_get s k hk] at hj
    injection hj with hj
    rw [← hj]; exact hu
  · exact h j c h1 (by omega) hj

/-- What lies between, all unreserved, is written as it is. -/
theorem enc_mid {s : ByteArray} {t k : Nat} (htk : t ≤ k) (h : Plain s t k) : enc (((bs s).drop t).take (k - t)) = ((bs s).drop t).take (k - t) := by
  refine enc_same _ (fun c hc => ?_)
  obtain ⟨j, hj, e⟩ := List.mem_iff_getElem.1 hc
  have hj' : j < k - t := by
    have := hj
    simp at this
    omega
  refine h (t + j) c (by omega) (by omega) ?_
  rw [← e, List.getElem_take, List.getElem_drop]
  exact List.getElem?_eq_getElem _

theorem take_split (l : List UInt8) (t k : Nat) (h : t ≤ k) : l.take k = l.take t ++ (l.drop t).take (k - t) := by
  have : k = t + (k - t) := by omega
  rw [this, List.take_add]
  congr 2
  omega

theorem enc_step {l : List UInt8} {s : ByteArray} {t k : Nat} (htk : t ≤ k) (hk : k < s.size) (h : Plain s t k) (hu : unr ((s[k]'hk).toNat : Int) = false) :
    l ++ enc ((bs s).take t) ++ bs (s.extract t k) ++ [37, hexD ((s[k]'hk).toNat / 16), hexD ((s[k]'hk).toNat % 16)] = l ++ enc ((bs s).take (k + 1)) := by
  have e1 : (bs s).take (k + 1) = (bs s).take k ++ [s[k]'hk] := by
    have hk2 : k < (bs s).length := by rw [bs_length]; exact hk
    rw [List.take_succ_eq_append_getElem hk2]
    congr 2
  rw [e1, enc_snoc, take_split _ t k htk, enc_append, enc_mid htk h, bs_extract]
  have e2 : tok (s[k]'hk) = [37, hexD ((s[k]'hk).toNat / 16), hexD ((s[k]'hk).toNat % 16)] := by unfold tok; rw [hu]; rfl
  rw [e2]
  simp [List.append_assoc]

theorem enc_last {l : List UInt8} {s : ByteArray} {t : Nat} (ht : t ≤ s.size) (h : Plain s t s.size) : l ++ enc ((bs s).take t) ++ bs (s.extract t s.size) = l ++ enc (bs s) := by
  have e0 : bs s = (bs s).take s.size := by rw [List.take_of_length_le (by rw [bs_length]; exact Nat.le_refl _)]
  have e1 : enc (bs s) = enc ((bs s).take t) ++ ((bs s).drop t).take (s.size - t) := by
    have : enc (bs s) = enc ((bs s).take s.size) := by rw [← e0]
    rw [this, take_split _ t s.size ht, enc_append, enc_mid ht h]
  rw [bs_extract, e1, List.append_assoc]

set_option maxHeartbeats 400000 in
theorem app_any (B : Nat) (v : Value) (l : List UInt8) (s : ByteArray) (w : World) (hb : Buf w B v l) (hB : B ≤ w.heap.size) (hs : s.size ≤ 1048576) (hl : l.length ≤ 10000000) :
    Calls Try.prog 27 #[v, .string s] w fun e w' => ∃ v', e = .returned v' ∧ Buf w' B v' (l ++ enc (bs s)) ∧ Below B w w' := by
  go_enter Try.func27, Try.ntmps27
  go_wp2
  go_loopw [0, 5, 6] (fun b st i wr => ∃ k t : Nat, t ≤ k ∧ k ≤ s.size ∧ i = .int .i64 k ∧ st = .int .i64 t ∧ Buf wr B b (l ++ enc ((bs s).take t)) ∧ Plain s t k ∧ Below B w wr) (fun _ _ i _ => s.size - (intOf i).toNat)
  case atStart => exact ⟨0, 0, by omega, by omega, rfl, rfl, by simpa [enc] using hb, fun j c h1 h2 => by omega, Below.refl _ _⟩
  case round =>
    obtain ⟨k, t, htk, hks, rfl, rfl, hbuf, hpl, hbel⟩ := hrel
    have HP : Hid (Plain s t k) := hpl
    clear hpl hb
    have hBr : B ≤ wr.heap.size := Nat.le_trans hB hbel.size
    have hbd : (l ++ enc ((bs s).take t)).length ≤ 15000000 := by
      have := enc_length ((bs s).take t)
      have h2 := List.length_take_le t (bs s)
      rw [List.length_append]; omega
    by_cases hlt : k < s.size
    · cases hu : unr ((s[k]'hlt).toNat : Int)
      · have hn1 : (bs (s.extract t k)).length ≤ 1048576 := by rw [bs_length, ByteArray.size_extract]; omega
        have HT : Hid (Src Try.prog 1 9 (.string (s.extract t k)) (bs (s.extract t k)).length (cells (bs (s.extract t k))) wr) := src_string _ _
        go_wp2_with fail
        refine (unreserved_any _ (by omega) (byte_lt _) _).mono ?_
        rintro e w1 ⟨rfl, rfl⟩
        rw [hu]
        go_wp2_with (first | (at_builtin; refine wpList_append_buf _ rfl (.tmp 19) (.tmp 23) 9 rfl B _ (.string (s.extract t k)) _ (bs (s.extract t k)) rfl rfl hbuf hBr HT.out (by omega) ?_; intro v1 w1 hbuf1 hbel1))
        have HS : Hid (l ++ enc ((bs s).take t) ++ bs (s.extract t k) ++ [37, hexD ((s[k]'hlt).toNat / 16), hexD ((s[k]'hlt).toNat % 16)] = l ++ enc ((bs s).take (k + 1))) := enc_step htk hlt HP.out hu
        have hi1 := hex_hi (s[k]'hlt).toNat (UInt8.toNat_lt _)
        have hi2 := hex_lo (s[k]'hlt).toNat (UInt8.toNat_lt _)
        generalize hexD ((s[k]'hlt).toNat / 16) = x at hi1 HS
        generalize hexD ((s[k]'hlt).toNat % 16) = y at hi2 HS
        have hB1 : B ≤ (w1.alloc (.cells #[.int .u8 37, .int .u8 (x.toNat : Int), .int .u8 (y.toNat : Int)] 5)).drew.heap.size := by
          have := hbel1.size
          simp; omega
        have HU : Hid (Buf (w1.alloc (.cells #[.int .u8 37, .int .u8 (x.toNat : Int), .int .u8 (y.toNat : Int)] 5)).drew B v1 (l ++ enc ((bs s).take t) ++ bs (s.extract t k))) := hbuf1.later (((Below.refl _ _).alloc (Nat.le_refl _) _).drew)
        have HV : Hid (Src Try.prog 1 25 (.slice (some ⟨w1.heap.size, 0, none⟩) 3 3) [37, x, y].length (cells [37, x, y]) (w1.alloc (.cells #[.int .u8 37, .int .u8 (x.toNat : Int), .int .u8 (y.toNat : Int)] 5)).drew) := src_three w1 x y
        have hbd2 : (l ++ enc ((bs s).take t) ++ bs (s.extract t k)).length + [37, x, y].length ≤ 100000000 := by
          rw [List.length_append]; simp only [List.length_cons, List.length_nil]; omega
        go_region_law (refine step_append_buf rfl (.tmp 25) (.tmp 32) 25 rfl B v1 (.slice (some ⟨w1.heap.size, 0, none⟩) 3 3) _ [37, x, y] (by simp [Act.eval]) (by simp [Act.eval]) HU.out hB1 HV.out hbd2 ?_; intro v2 w2 hbuf2 hbel2)
        all_goals go_wp2
        all_goals
          rw [HS.out] at hbuf2
          have B2 := (hbel.trans hbel1).trans ((((Below.refl B w1).alloc (by have := hbel1.size; omega) _).drew).trans hbel2)
          clear HU HV hbuf1 hbuf hbel hbel1 hbel2
          go_roundw
          case rel => exact ⟨k + 1, k + 1, by omega, by omega, by go_num, by go_num, hbuf2, fun j c h1 h2 => by omega, B2⟩
          case measure => simp [intOf]; omega
      · go_wp2_with fail
        refine (unreserved_any _ (by omega) (byte_lt _) _).mono ?_
        rintro e w1 ⟨rfl, rfl⟩
        rw [hu]
        go_wp2
        go_roundw
        case rel => exact ⟨k + 1, t, by omega, by omega, by go_num, rfl, hbuf, plain_snoc hlt HP.out hu, hbel⟩
        case measure => simp [intOf]; omega
    · have hke : k = s.size := by omega
      have hn1 : (bs (s.extract t s.size)).length ≤ 1048576 := by rw [bs_length, ByteArray.size_extract]; omega
      have HT : Hid (Src Try.prog 1 9 (.string (s.extract t s.size)) (bs (s.extract t s.size)).length (cells (bs (s.extract t s.size))) wr) := src_string _ _
      have HS : Hid (l ++ enc ((bs s).take t) ++ bs (s.extract t s.size) = l ++ enc (bs s)) := enc_last (by omega) (hke ▸ HP.out)
      clear hke
      go_wp2_with (first | (at_builtin; refine wpList_append_buf _ rfl (.tmp 36) (.tmp 39) 9 rfl B _ (.string (s.extract t s.size)) _ (bs (s.extract t s.size)) rfl rfl hbuf hBr HT.out (by omega) ?_; intro v1 w1 hbuf1 hbel1))
      go_ret
      rw [HS.out] at hbuf1
      exact ⟨v1, rfl, hbuf1, hbel.trans hbel1⟩
end Go.Proofs.Qxb6603124a.Pc
