/-
  The small functions on the key set's laws: zzRepeatX, ZZKeySetFromFew, ZZNewKeySet.
-/
import Derived.Test.Qxb6603124aKsAdd
namespace Go.Proofs.Qxb6603124a.Ks
open Go.RowKit Go.Maps Go.WideMaps

theorem info5 : (Try.prog.info? 5).map (fun i => (i.zero, i.size, i.bytes)) = some (some (.int .u8 0), 1, 1) := by kernel_rfl

/-- m letters 'x'. -/
def xxs (m : Nat) : ByteArray := ⟨(List.replicate m (120 : UInt8)).toArray⟩
theorem xxs_size (m : Nat) : (xxs m).size = m := by simp [xxs, ByteArray.size]

set_option maxHeartbeats 400000 in
theorem repeat_any (m : Nat) (hm : m ≤ 2000000) (w : World) :
    Calls Try.prog 21 #[.int .i64 m] w fun e w' => e = .returned (.string (xxs m)) ∧ Below w.heap.size w w' := by
  obtain ⟨i0, hi, hz0, hz1, hz2⟩ := info_parts info5
  go_enter Try.func21, Try.ntmps21
  go_wp2_with (first | (at_make; refine wpList_make_full _ rfl _ _ 25 rfl w.heap.size 5 i0 (.int .u8 0) 1 Try.underlying25 hi hz0 hz1 .i64 .i64 _ _ m rfl rfl rfl rfl (by rw [hz2]; omega) (by unfold maxLen; omega) (Nat.le_refl _) ?_; intro w1 hown1 hgrow1) | go_in)
  have hbel1 : Below w.heap.size w w1 := (Below.refl _ _).grown hgrow1 (Nat.le_refl _) (fun k hk => by cases hk)
  have hsz := hown1.1
  clear hgrow1
  go_loopw [4] (fun i wr => ∃ k : Nat, k ≤ m ∧ i = .int .i64 k ∧ (∃ xs, wr.ownsRow w.heap.size 5 1 (.slice (some ⟨w.heap.size, 0, none⟩) m m) m xs ∧ ∀ j, j < k → xs[j]? = some (.int .u8 120)) ∧ Below w.heap.size w wr) (fun i _ => m - (intOf i).toNat)
  case atStart => exact ⟨0, Nat.zero_le _, rfl, ⟨_, hown1, fun j hj => by omega⟩, hbel1⟩
  case round =>
    obtain ⟨k, hk, rfl, ⟨xs, hown, hxs⟩, hbel⟩ := hrel
    have HX : Hid (∀ j, j < k → xs[j]? = some (.int .u8 120)) := hxs
    have hl : Hid (xs.length = m) := hown.1.trans (Nat.mul_one m)
    clear hxs hown1 hbel1 hsz
    by_cases hlt : k < m
    · have hc := hown.cellAt k (by omega)
      have hf := hown.frozenAt k
      have hs := hown.stored k (.int .u8 120)
      obtain ⟨v, hv⟩ : ∃ v, xs[k]? = some v := ⟨_, List.getElem?_eq_getElem (by rw [hl.out]; exact hlt)⟩
      rw [hv] at hc
      have HV : Hid (xs[k]? = some v) := hv
      clear hv
      have HS : Hid ((wr.setCell ⟨w.heap.size, k, none⟩ (.int .u8 120)).ownsRow w.heap.size 5 1 (.slice (some ⟨w.heap.size, 0, none⟩) m m) m (xs.set k (.int .u8 120)) ∧ wr.grownBy (wr.setCell ⟨w.heap.size, k, none⟩ (.int .u8 120)) (some w.heap.size)) := hs
      clear hs hown
      go_wp2
      go_roundw
      case rel =>
        refine ⟨k + 1, by omega, by go_num, ⟨_, HS.out.1, ?_⟩, hbel.setCell (p := ⟨w.heap.size, k, none⟩) (Nat.le_refl _) _⟩
        have hlen := hl.out
        refine no_snoc (fun j hj => ?_) ?_
        · rw [List.getElem?_set_ne (by omega)]; exact HX.out j hj
        · rw [List.getElem?_set_self (by omega)]
      case measure => simp [intOf]; omega
    · have e : k = m := by omega
      subst e
      have hcv := run_convert_bytes_back (P := Try.prog) wr 25 9 5 ⟨w.heap.size, 0, none⟩ k (List.replicate k (120 : UInt8)) Try.underlying25 Try.underlying5 Try.underlying9 (fun j hj => by
        simp at hj
        rw [Addr.add_mid, Nat.zero_add, hown.cellAt j (by omega), HX.out j hj]
        simp)
      rw [List.length_replicate] at hcv
      have HQ : Hid (xxs k = ⟨(List.replicate k (120 : UInt8)).toArray⟩) := rfl
      rw [← HQ.out] at hcv
      clear HX hown
      go_wp2
      go_ret
      exact ⟨rfl, hbel⟩

set_option maxHeartbeats 400000 in
theorem new_any (w : World) : Calls Try.prog 23 #[] w fun e w' => e = .returned (.pointer (some ⟨w.heap.size, 0, none⟩)) ∧ Holds w' w.heap.size 0 [] ∧ Below w.heap.size w w' := by
  go_enter Try.func23, Try.ntmps23
  go_wp2
  go_ret
  refine ⟨rfl, ⟨List.replicate 8 ByteArray.empty, 0, none, ⟨rfl, ?_⟩, ?_, .inl ⟨rfl, by omega, by simp⟩⟩, (Below.refl _ _).alloc (Nat.le_refl _) _⟩
  · rw [heap_alloc_new]; rfl
  · intro x hx
    rw [(List.mem_replicate.1 hx).2]
    decide

theorem few_cells (few : List ByteArray) (hf : few.length = 8) (n : Int) :
    #[.string few[0], .string few[1], .string few[2], .string few[3], .string few[4], .string few[5], .string few[6], .string few[7], .int .i64 n, .map none] = (cellsOf few n none).toArray := by
  match few, hf with
  | [_, _, _, _, _, _, _, _], _ => rfl

set_option maxHeartbeats 400000 in
theorem few_any (few : List ByteArray) (hf : few.length = 8) (n : Nat) (w : World) : Calls Try.prog 19 #[.agg (few.map Value.string).toArray, .int .i64 n] w fun e w' => e = .returned (.pointer (some ⟨w.heap.size + 1, 0, none⟩)) ∧ At w' (w.heap.size + 1) few n none ∧ Below w.heap.size w w' := by
  go_enter Try.func19, Try.ntmps19
  go_wp2
  go_ret
  refine ⟨rfl, ⟨hf, ?_⟩, ((Below.refl _ _).alloc (Nat.le_refl _) _).alloc (by simp) _⟩
  rw [heap_alloc2_new, ← few_cells few hf n]

theorem Holds.congr {w : World} {b c c' : Nat} {S S' : List (List UInt8)} (h : Holds w b c S) (hc : c ≤ c') (e : ∀ l, l ∈ S ↔ l ∈ S') : Holds w b c' S' := by
  obtain ⟨few, n, m, hat, hsz, h⟩ := h
  refine ⟨few, n, m, hat, hsz, ?_⟩
  rcases h with ⟨hm, hn, hS⟩ | ⟨bm, hm, hbm, hs⟩
  · exact .inl ⟨hm, hn, fun l => (e l).symm.trans (hS l)⟩
  · exact .inr ⟨bm, hm, hbm, hs.congr hc e⟩

theorem Holds.lt {w : World} {b c : Nat} {S : List (List UInt8)} (h : Holds w b c S) : b < w.heap.size := by
  obtain ⟨few, n, m, hat, _⟩ := h
  exact hat.lt

/-- What only lays new blocks leaves the set as it was. -/
theorem Holds.later {w w' : World} {b c : Nat} {S : List (List UInt8)} (h : Holds w b c S) (hb : Below w.heap.size w w') : Holds w' b c S := by
  obtain ⟨few, n, m, hat, hsz, h⟩ := h
  refine ⟨few, n, m, hat.heap (hb.block b hat.lt), hsz, ?_⟩
  rcases h with h | ⟨bm, hm, hbm, hs⟩
  · exact .inl h
  · refine .inr ⟨bm, hm, hbm, hs.kept (hb.block bm ?_)⟩
    obtain ⟨D, hown, _⟩ := hs
    exact hown.lt

theorem zzadd_in (b c : Nat) (S : List (List UInt8)) (key : ByteArray) (w : World) (h : Holds w b c S) (hc : c < 1000000) (hk : key.size ≤ maxLen) (hin : bs key ∈ S) :
    Calls Try.prog 20 #[.pointer (some ⟨b, 0, none⟩), .string key] w fun e w' => e = .returned (.bool true) ∧ Holds w' b (c + 9) S ∧ Below b w w' := by
  refine (zzadd_any b c S key w h hc hk).mono ?_
  rintro e w' ⟨rfl, hh, hb⟩
  refine ⟨by simp [hin], hh.congr (Nat.le_refl _) (fun l => ?_), hb⟩
  rw [List.mem_cons]
  exact ⟨fun h => h.elim (fun e => e ▸ hin) id, .inr⟩

theorem zzadd_out (b c : Nat) (S : List (List UInt8)) (key : ByteArray) (w : World) (h : Holds w b c S) (hc : c < 1000000) (hk : key.size ≤ maxLen) (hin : bs key ∉ S) :
    Calls Try.prog 20 #[.pointer (some ⟨b, 0, none⟩), .string key] w fun e w' => e = .returned (.bool false) ∧ Holds w' b (c + 9) (bs key :: S) ∧ Below b w w' := by
  refine (zzadd_any b c S key w h hc hk).mono ?_
  rintro e w' ⟨rfl, hh, hb⟩
  exact ⟨by simp [hin], hh, hb⟩

end Go.Proofs.Qxb6603124a.Ks
