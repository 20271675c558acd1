/-
  FnKeySetAddFromFewState: the walk.
-/
import Derived.Test.Qxb6603124aKsSmall
namespace Go.Proofs.Qxb6603124a.Ks
open Go.RowKit Go.Maps Go.WideMaps

/-- The array's cells in its box. -/
theorem box_cell {w : World} {B : Nat} {few : List ByteArray} (hf : few.length = 8) (h : w.heap[B]? = some (.cells (few.map Value.string).toArray 31 (0, 0))) (j : Nat) (hj : j < 8) : w.cell? ⟨B, j, none⟩ = some (.string (few.getD j ByteArray.empty)) := by
  simp [World.cell?, h, hf, hj]

/-- It returns one of the two bools. -/
def ABool (e : Ending) : Prop := ∃ r, e = .returned (.bool r)
theorem ABool.mk {e : Ending} {r : Bool} (h : e = .returned (.bool r)) : ABool e := ⟨r, h⟩

set_option maxHeartbeats 400000 in
theorem bytesFew_any (few : List ByteArray) (hf : few.length = 8) (n : Int) (key : ByteArray) (w : World) :
    Calls Try.prog 18 #[.agg (few.map Value.string).toArray, .int .i64 n, .string key] w fun e w' => ABool e ∧ Below w.heap.size w w' := by
  have hc := fun j hj => box_cell hf (heap_alloc_new w (.cells (few.map Value.string).toArray 31)) j hj
  go_enter Try.func18, Try.ntmps18
  go_wp2
  go_loop [7, 8] (fun t i => ∃ k : Nat, k ≤ 8 ∧ i = .int .i64 k ∧ ∃ z : Int, t = .int .i64 z) (fun _ i => 8 - (intOf i).toNat)
  case atStart => exact ⟨0, by omega, rfl, _, rfl⟩
  case round =>
    obtain ⟨k, hk, rfl, z, rfl⟩ := hrel
    by_cases hlt : k < 8
    · have ck := hc k hlt
      generalize few.getD k ByteArray.empty = s at ck
      clear hc
      go_wp2
      · go_ret
        exact ⟨.mk rfl, (Below.refl _ _).alloc (Nat.le_refl _) _⟩
      · go_ret
        exact ⟨.mk rfl, (Below.refl _ _).alloc (Nat.le_refl _) _⟩
      · go_round
        case rel => exact ⟨k + 1, by omega, by go_num, _, rfl⟩
        case measure => simp [intOf]; omega
    · clear hc
      go_wp2
      all_goals
        go_ret
        exact ⟨.mk rfl, (Below.refl _ _).alloc (Nat.le_refl _) _⟩

theorem size31' (few : List ByteArray) (hf : few.length = 8) : (Try.prog.info? 31).map (·.size) = some (few.map Value.string).toArray.size := by
  rw [size31]; simp [hf]

/-- What is in a box of an elder world is in it still. -/
theorem box_later {w w' : World} {B : Nat} {o : Obj} (h : w.heap[B]? = some o) {N : Nat} (hb : Below N w w') (hB : B < N) : w'.heap[B]? = some o := (hb.block B hB).trans h

theorem take_hit {few : List ByteArray} {k : Nat} {key : ByteArray} (hk : k < few.length) (h : bs (few.getD k ByteArray.empty) = bs key) : true = decide (bs key ∈ (few.map bs).take (k + 1)) :=
  (decide_eq_true (mem_few (k := k) (by omega) (by omega) (by rw [← List.getD_eq_getElem?_getD]; exact h))).symm
theorem take_miss {few : List ByteArray} {k : Nat} {key : ByteArray} (hk : k < few.length) (h : bs (few.getD k ByteArray.empty) ≠ bs key) : decide (bs key ∈ (few.map bs).take k) = decide (bs key ∈ (few.map bs).take (k + 1)) := by
  have e := mem_step (few := few) (k := k) hk (S := (few.map bs).take k) (fun l => Iff.rfl) (bs key)
  rw [List.mem_cons] at e
  exact decide_eq_decide.2 ⟨fun hm => e.1 (.inr hm), fun hm => (e.2 hm).elim (fun x => absurd x.symm h) id⟩

theorem bs_length (s : ByteArray) : (bs s).length = s.size := by
  unfold bs; rw [Array.length_toList]; rfl

/-- A string longer than all of them is none of them. -/
theorem fresh_out {few : List ByteArray} (hf : few.length = 8) {n L : Nat} (hn : n ≤ 8) {key : ByteArray} (hk : key.size ≤ L) (hle : ∀ j, j < n → (few.getD j ByteArray.empty).size ≤ L) : bs (xxs (L + 1)) ∉ bs key :: (few.map bs).take n := by
  intro h
  have hl : (bs (xxs (L + 1))).length = L + 1 := by rw [bs_length, xxs_size]
  rw [List.mem_cons] at h
  rcases h with h | h
  · rw [h, bs_length] at hl; omega
  · rw [List.mem_take_iff_getElem] at h
    obtain ⟨j, hj, e⟩ := h
    simp at hj
    have := hle j (by omega)
    rw [List.getD_eq_getElem?_getD, List.getElem?_eq_getElem (by omega)] at this
    rw [← e, List.getElem_map, bs_length] at hl
    simp at this
    omega

set_option maxHeartbeats 800000 in
theorem few_law (few : List ByteArray) (hf : few.length = 8) (hsz : ∀ x ∈ few, x.size ≤ maxLen) (n : Int) (key : ByteArray) (hk : key.size ≤ maxLen) (w : World) :
    Calls Try.prog 7 #[.agg (few.map Value.string).toArray, .int .i64 n, .string key] w fun e w' => e = .returned (.bool true) ∧ Below w.heap.size w w' := by
  have hb0 : (w.alloc (.cells (few.map Value.string).toArray 31)).heap[w.heap.size]? = some (.cells (few.map Value.string).toArray 31 (0, 0)) := heap_alloc_new w _
  have B0 : Below w.heap.size w (w.alloc (.cells (few.map Value.string).toArray 31)) := (Below.refl _ _).alloc (Nat.le_refl _) _
  go_enter Try.func7, Try.ntmps7
  go_wp2_with (refine wpList_load_row rfl 31 _ rfl w.heap.size rfl 31 (few.map Value.string).toArray (0, 0) _ hb0 Try.underlying31 rfl (size31' few hf) ?_)
  refine (bytesFew_any few hf n key _).mono ?_
  rintro e w1 ⟨⟨r, rfl⟩, hb1⟩
  have hx1 := box_later hb0 hb1 (by simp)
  have B1 := B0.trans (hb1.mono (by simp))
  clear hb0 B0 hb1
  cases r
  · go_wp2
    go_ret
    exact ⟨rfl, B1⟩
  by_cases hkl : key.size ≤ 1048576
  case neg =>
    go_wp2
    go_ret
    exact ⟨rfl, B1⟩
  have hc1 := box_cell hf hx1
  go_wp2
  go_loop [7, 8] (fun t i => ∃ k : Nat, k ≤ 8 ∧ i = .int .i64 k ∧ (∃ z : Int, t = .int .i64 z) ∧ ∀ j, j < k → (few.getD j ByteArray.empty).size ≤ 1048576) (fun _ i => 8 - (intOf i).toNat)
  case atStart => exact ⟨0, by omega, rfl, ⟨_, rfl⟩, fun j hj => by omega⟩
  case round =>
    obtain ⟨k, hk8, rfl, ⟨z, rfl⟩, hle⟩ := hrel
    have HL : Hid (∀ j, j < k → (few.getD j ByteArray.empty).size ≤ 1048576) := hle
    clear hle
    by_cases hlt : k < 8
    · have ck := hc1 k hlt
      obtain ⟨s, hs⟩ : ∃ s, s = few.getD k ByteArray.empty := ⟨_, rfl⟩
      rw [← hs] at ck
      have HS : Hid (s = few.getD k ByteArray.empty) := hs
      clear hs hc1 hx1 hsz
      go_wp2
      · go_ret
        exact ⟨rfl, B1⟩
      · go_round
        case rel =>
          have hz : (s.size : Int) ≤ 1048576 := by assumption
          exact ⟨k + 1, by omega, by go_num, ⟨_, rfl⟩, no_snoc HL.out (by rw [← HS.out]; omega)⟩
        case measure => simp [intOf]; omega
    · have e : k = 8 := by omega
      subst e
      by_cases hz : z ≤ 1048576
      case neg =>
        clear hc1 hx1 hsz
        go_wp2
        go_ret
        exact ⟨rfl, B1⟩
      by_cases hn : 0 ≤ n ∧ n ≤ 8
      case neg =>
        clear hc1 hx1 hsz
        by_cases hn0 : 0 ≤ n
        · have hn8 : 8 < n := by omega
          go_wp2
          go_ret
          exact ⟨rfl, B1⟩
        · go_wp2
          go_ret
          exact ⟨rfl, B1⟩
      obtain ⟨hn0, hn8⟩ := hn
      obtain ⟨n, rfl⟩ := Int.eq_ofNat_of_zero_le hn0
      have hn8' : n ≤ 8 := by omega
      have hd0 : decide ((n : Int) < 0) = false := by simp
      have hd8 : decide ((8 : Int) < (n : Int)) = false := by simp; omega
      have hdz : decide ((1048576 : Int) < z) = false := by simp; omega
      go_wp2
      go_loop [9, 10, 11] (fun lo wa i => ∃ k : Nat, k ≤ n ∧ i = .int .i64 k ∧ (∃ L : Nat, lo = .int .i64 L ∧ key.size ≤ L ∧ L ≤ 1048576 ∧ ∀ j, j < k → (few.getD j ByteArray.empty).size ≤ L) ∧ wa = .bool (decide (bs key ∈ (few.map bs).take k))) (fun _ _ i => n - (intOf i).toNat)
      case atStart => exact ⟨0, by omega, rfl, ⟨key.size, rfl, by omega, by omega, fun j hj => by omega⟩, by simp⟩
      case round =>
        obtain ⟨k, hkn, rfl, ⟨L, rfl, hkL, hL, hle⟩, rfl⟩ := hrel
        have HL2 : Hid (∀ j, j < k → (few.getD j ByteArray.empty).size ≤ L) := hle
        clear hle
        by_cases hlt : k < n
        · have ck := hc1 k (by omega)
          obtain ⟨s, hs⟩ : ∃ s, s = few.getD k ByteArray.empty := ⟨_, rfl⟩
          have hsl : s.size ≤ 1048576 := by rw [hs]; exact HL.out k (by omega)
          rw [← hs] at ck
          have HS : Hid (s = few.getD k ByteArray.empty) := hs
          clear hs hc1 hx1 hsz
          have HM : Hid (∀ j, j < k + 1 → (few.getD j ByteArray.empty).size ≤ max L s.size) := no_snoc (fun j hj => Nat.le_trans (HL2.out j hj) (Nat.le_max_left _ _)) (by rw [← HS.out]; exact Nat.le_max_right _ _)
          cases hq : (s.toList == key.toList)
          · have HR : Hid (decide (bs key ∈ (few.map bs).take k) = decide (bs key ∈ (few.map bs).take (k + 1))) := take_miss (by omega) (by rw [← HS.out]; exact ne_of_beq hq)
            by_cases hLs : L < s.size
            · have HX : Hid (max L s.size = s.size) := Nat.max_eq_right (by omega)
              go_wp2
              go_round
              case rel => exact ⟨k + 1, by omega, by go_num, ⟨s.size, rfl, by omega, by omega, by have h := HM.out; rw [HX.out] at h; exact h⟩, by rw [HR.out]⟩
              case measure => simp [intOf]; omega
            · have HX : Hid (max L s.size = L) := Nat.max_eq_left (by omega)
              go_wp2
              go_round
              case rel => exact ⟨k + 1, by omega, by go_num, ⟨L, rfl, by omega, by omega, by have h := HM.out; rw [HX.out] at h; exact h⟩, by rw [HR.out]⟩
              case measure => simp [intOf]; omega
          · have HR : Hid (true = decide (bs key ∈ (few.map bs).take (k + 1))) := take_hit (by omega) (by rw [← HS.out]; exact bs_of_beq hq)
            by_cases hLs : L < s.size
            · have HX : Hid (max L s.size = s.size) := Nat.max_eq_right (by omega)
              go_wp2
              go_round
              case rel => exact ⟨k + 1, by omega, by go_num, ⟨s.size, rfl, by omega, by omega, by have h := HM.out; rw [HX.out] at h; exact h⟩, by rw [← HR.out]⟩
              case measure => simp [intOf]; omega
            · have HX : Hid (max L s.size = L) := Nat.max_eq_left (by omega)
              go_wp2
              go_round
              case rel => exact ⟨k + 1, by omega, by go_num, ⟨L, rfl, by omega, by omega, by have h := HM.out; rw [HX.out] at h; exact h⟩, by rw [← HR.out]⟩
              case measure => simp [intOf]; omega
        · have e : k = n := by omega
          subst e
          clear hd0 hd8 hdz HL
          go_wp2_with (refine wpList_load_row rfl 31 _ rfl w.heap.size rfl 31 (few.map Value.string).toArray (0, 0) _ hx1 Try.underlying31 rfl (size31' few hf) ?_)
          refine (few_any few hf k w1).mono ?_
          rintro e w2 ⟨rfl, hat2, hb2⟩
          have B2 := B1.trans (hb2.mono B1.size)
          have hlt1 : w.heap.size < w1.heap.size := (Array.getElem?_eq_some_iff.1 hx1).1
          have hh2 : Holds w2 (w1.heap.size + 1) 0 ((few.map bs).take k) := ⟨few, k, none, hat2, hsz, .inl ⟨rfl, hn8', fun l => Iff.rfl⟩⟩
          have hx2 := box_later hx1 hb2 hlt1
          clear hc1 hat2 hb2 hx1 B1
          go_wp2_with fail
          refine (zzadd_any _ 0 _ key w2 hh2 (by omega) hk).mono ?_
          rintro e w3 ⟨rfl, hh3, hb3⟩
          have B3 := B2.trans (hb3.mono (by omega))
          have hx3 := box_later hx2 hb3 (by omega)
          clear B2 hx2 hb3 hh2
          go_wp2_with fail
          refine (zzadd_in _ _ _ key w3 hh3 (by omega) hk (List.mem_cons_self ..)).mono ?_
          rintro e w4 ⟨rfl, hh4, hb4⟩
          have B4 := B3.trans (hb4.mono (by omega))
          have hx4 := box_later hx3 hb4 (by omega)
          clear B3 hx3 hb4 hh3
          go_wp2
          go_loopw [13] (fun i wr => ∃ j : Nat, j ≤ k ∧ i = .int .i64 j ∧ Holds wr (w1.heap.size + 1) (18 + 9 * j) (bs key :: (few.map bs).take k) ∧ Below w.heap.size w wr ∧ wr.heap[w.heap.size]? = some (.cells (few.map Value.string).toArray 31 (0, 0))) (fun i _ => k - (intOf i).toNat)
          case atStart => exact ⟨0, by omega, rfl, hh4, B4, hx4⟩
          case round =>
            obtain ⟨j, hjk, rfl, hh, BB, hx⟩ := hrel
            clear hh4 B4 hx4
            by_cases hlt2 : j < k
            · have cj := box_cell hf hx j (by omega)
              obtain ⟨s, hs⟩ : ∃ s, s = few.getD j ByteArray.empty := ⟨_, rfl⟩
              have hsm : s.size ≤ maxLen := by rw [hs, List.getD_eq_getElem?_getD, List.getElem?_eq_getElem (by omega)]; exact hsz _ (List.getElem_mem _)
              have hsin : bs s ∈ bs key :: (few.map bs).take k := List.mem_cons_of_mem _ (mem_few (k := j) hlt2 (by omega) (by rw [hs, List.getD_eq_getElem?_getD]))
              rw [← hs] at cj
              clear hs
              go_wp2_with fail
              refine (zzadd_in _ _ _ s wr hh (by omega) hsm hsin).mono ?_
              rintro e w5 ⟨rfl, hh5, hb5⟩
              have B5 := BB.trans (hb5.mono (by omega))
              have hx5 := box_later hx hb5 (by omega)
              clear hh BB hx hb5 cj hsin
              go_wp2
              go_roundw
              case rel => exact ⟨j + 1, by omega, by go_num, hh5, B5, hx5⟩
              case measure => simp [intOf]; omega
            · have e : j = k := by omega
              subst e
              have HO : Hid (bs (xxs (L + 1)) ∉ bs key :: (few.map bs).take j) := fresh_out hf hn8' hkL HL2.out
              go_wp2_with fail
              rw [show ((L : Int) + 1) = ((L + 1 : Nat) : Int) from by omega]
              refine (repeat_any (L + 1) (by omega) wr).mono ?_
              rintro e w5 ⟨rfl, hb5⟩
              have hh5 := hh.later hb5
              have B5 := BB.trans (hb5.mono BB.size)
              have hxs : (xxs (L + 1)).size ≤ maxLen := by rw [xxs_size]; unfold maxLen; omega
              generalize xxs (L + 1) = s at HO hxs
              clear hh hb5 BB hx
              go_wp2_with fail
              refine (zzadd_out _ _ _ s w5 hh5 (by omega) hxs HO.out).mono ?_
              rintro e w6 ⟨rfl, hh6, hb6⟩
              have B6 := B5.trans (hb6.mono (by omega))
              clear hh5 B5 hb6
              go_wp2_with fail
              refine (zzadd_in _ _ _ s w6 hh6 (by omega) hxs (List.mem_cons_self ..)).mono ?_
              rintro e w7 ⟨rfl, hh7, hb7⟩
              have B7 := B6.trans (hb7.mono (by omega))
              clear hh6 B6 hb7
              go_wp2
              go_ret
              exact ⟨rfl, B7⟩
end Go.Proofs.Qxb6603124a.Ks
