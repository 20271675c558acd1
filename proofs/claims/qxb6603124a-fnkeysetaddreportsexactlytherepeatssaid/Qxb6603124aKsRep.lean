/-
  FnKeySetAddReportsExactlyTheRepeats: the walk, over a slice that has elements; then over an empty one.
-/
import Derived.Test.Qxb6603124aKsFew
import Derived.Laws.CopyOwn
namespace Go.Proofs.Qxb6603124a.Ks
open Go.RowKit Go.Maps Go.WideMaps

set_option maxHeartbeats 400000 in
theorem bytesRep_any (b0 off len cap : Nat) (ks : List ByteArray) (w : World) (hcell : ∀ j, j < len → w.cell? ⟨b0, off + j, none⟩ = some (.string (ks.getD j ByteArray.empty))) (hlm : len ≤ maxLen) :
    Calls Try.prog 22 #[.slice (some ⟨b0, off, none⟩) len cap] w fun e w' => ABool e ∧ w = w' := by
  unfold maxLen at hlm
  by_cases hbig : len ≤ 1048576
  case neg =>
    have hd : (1048576 : Int) < (len : Int) := by omega
    go_enter Try.func22, Try.ntmps22
    go_wp2
    go_ret
    exact ⟨.mk rfl, rfl⟩
  have hd : decide ((1048576 : Int) < (len : Int)) = false := by simp; omega
  go_enter Try.func22, Try.ntmps22
  go_wp2
  go_loop [3, 4] (fun t i => ∃ k : Nat, k ≤ len ∧ i = .int .i64 k ∧ ∃ z : Int, t = .int .i64 z) (fun _ i => len - (intOf i).toNat)
  case atStart => exact ⟨0, by omega, rfl, _, rfl⟩
  case round =>
    obtain ⟨k, hk, rfl, z, rfl⟩ := hrel
    by_cases hlt : k < len
    · have ck := hcell k hlt
      generalize ks.getD k ByteArray.empty = s at ck
      clear hcell
      go_wp2
      · go_ret
        exact ⟨.mk rfl, rfl⟩
      · go_ret
        exact ⟨.mk rfl, rfl⟩
      · go_round
        case rel => exact ⟨k + 1, by omega, by go_num, _, rfl⟩
        case measure => simp [intOf]; omega
    · clear hcell
      go_wp2
      go_ret
      exact ⟨.mk rfl, rfl⟩

theorem info9 : (Try.prog.info? 9).map (fun i => (i.zero, i.size, i.bytes)) = some (some (.string ByteArray.empty), 1, 16) := by kernel_rfl
theorem size9 : (Try.prog.info? 9).map (·.size) = some 1 := by kernel_rfl

/-- The block that 'make' laid. -/
theorem made_block {w : World} {base g n : Nat} {xs : List Value} (h : w.ownsRow base 9 1 (.slice (some ⟨g, 0, none⟩) n n) n xs) : ∃ cur : List Value, cur.length = n ∧ w.heap[g]? = some (.cells cur.toArray 9 (0, 0)) := by
  rcases h.2 with ⟨h', _⟩ | ⟨g', cap', cur, h', _, hg, _, _, hs, _⟩
  · simp at h'
  · simp only [Value.slice.injEq, Option.some.injEq, Addr.mk.injEq, and_true, true_and] at h'
    obtain ⟨rfl, rfl⟩ := h'
    exact ⟨cur.toList, by simpa using hs, by simpa using hg⟩

theorem splice_all {α : Type} (L cs : List α) (h : cs.length = L.length) : splice L 0 cs = cs := by
  simp [splice, h]

/-- The clone's cells. -/
theorem row_cell {w : World} {G : Nat} {ks : List ByteArray} (h : w.heap[G]? = some (.cells (ks.map Value.string).toArray 9 (0, 0))) (j : Nat) (hj : j < ks.length) : w.cell? ⟨G, j, none⟩ = some (.string (ks.getD j ByteArray.empty)) := by
  simp [World.cell?, h, hj]

theorem clone_run {w w1 : World} {b0 off cap k : Nat} {ks : List ByteArray} {xs : List Value} (hks : ks.length = k) (hown : w1.ownsRow w.heap.size 9 1 (.slice (some ⟨w.heap.size, 0, none⟩) k k) k xs)
    (hc : ∀ j, j < k → w1.cell? ⟨b0, off + j, none⟩ = some (.string (ks.getD j ByteArray.empty))) (hb : Below w.heap.size w w1) :
    ∃ w2, (Builtin.copy_ #[37, 37] 3 #[.slice (some ⟨w.heap.size, 0, none⟩) k k, .slice (some ⟨b0, off, none⟩) k cap]).run Try.prog w1 = .ok (.int .i64 k) w2 ∧ w2.heap[w.heap.size]? = some (.cells (ks.map Value.string).toArray 9 (0, 0)) ∧ Below w.heap.size w w2 := by
  obtain ⟨cur, hcl, hcb⟩ := made_block hown
  have hl : (ks.map Value.string).length = k := by simp [hks]
  have hcp := run_copy_row (P := Try.prog) w1 37 37 3 9 w.heap.size 0 k k ⟨b0, off, none⟩ k cap cur.toArray 9 (ks.map Value.string) Try.underlying37 size9 hcb (by rw [hl]; exact (Nat.min_self k).symm)
    (fun j v hv => by
      have hj : j < k := by have := (List.getElem?_eq_some_iff.1 hv).1; rwa [hl] at this
      rw [Addr.add_mid, hc j hj, ← hv]
      simp [hks, hj])
    (by rw [hl]; simp [hcl])
    (fun v hv => by obtain ⟨x, _, rfl⟩ := List.mem_map.1 hv; rfl)
  rw [hl] at hcp
  refine ⟨_, hcp, ?_, below_setRow hb (Nat.le_refl _) _⟩
  rw [setRow_heap w1 _ _ _ _ _ hcb]
  congr 2
  simp [hcl]

theorem Holds.drewN {w : World} {b c : Nat} {S : List (List UInt8)} (h : Holds w b c S) (q : Nat) : Holds (w.drewN q) b c S := h

theorem keys_in {ks : List ByteArray} {m : Nat} {s : ByteArray} (hs : s = ks.getD m ByteArray.empty) (hm : m < ks.length) (hin : bs s ∈ (ks.map bs).take m) : ∀ l, l ∈ (ks.map bs).take m ↔ l ∈ (ks.map bs).take (m + 1) := by
  intro l
  have e := mem_step (few := ks) (k := m) hm (S := (ks.map bs).take m) (fun l => Iff.rfl) l
  rw [← hs, List.mem_cons] at e
  exact ⟨fun h => e.1 (.inr h), fun h => (e.2 h).elim (fun x => by rw [x]; exact hin) id⟩

theorem fresh_all {ks : List ByteArray} {k L : Nat} (hk : ks.length = k) (hle : ∀ j, j < k → (ks.getD j ByteArray.empty).size ≤ L) : bs (xxs (L + 1)) ∉ ks.map bs := by
  intro h
  have hl : (bs (xxs (L + 1))).length = L + 1 := by rw [bs_length, xxs_size]
  obtain ⟨x, hx, e⟩ := List.mem_map.1 h
  obtain ⟨j, hj, ej⟩ := List.mem_iff_getElem.1 hx
  have := hle j (by omega)
  rw [List.getD_eq_getElem?_getD, List.getElem?_eq_getElem hj, Option.getD_some, ej] at this
  rw [← e, bs_length] at hl
  omega

set_option maxHeartbeats 1600000 in
theorem rep_law (b0 off len cap : Nat) (ks : List ByteArray) (hks : ks.length = len) (hsz : ∀ x ∈ ks, x.size ≤ maxLen) (w : World) (hcell : ∀ j, j < len → w.cell? ⟨b0, off + j, none⟩ = some (.string (ks.getD j ByteArray.empty))) (hlm : len ≤ maxLen) :
    Calls Try.prog 8 #[.slice (some ⟨b0, off, none⟩) len cap] w fun e w' => e = .returned (.bool true) ∧ Below w.heap.size w w' := by
  have hlm' := hlm
  unfold maxLen at hlm'
  have hnil : ∀ w : World, (binOp .neq 37 (.slice (some ⟨b0, off, none⟩) len cap) (.slice none 0 0)).run Try.prog w = .ok (.bool true) w := fun w => run_neq_slice_nil_any w 37 9 _ _ _ _ _ Try.underlying37
  obtain ⟨i0, hi, hz0, hz1, hz2⟩ := info_parts info9
  go_enter Try.func8, Try.ntmps8
  go_wp2_with fail
  refine (bytesRep_any b0 off len cap ks w hcell hlm).mono ?_
  rintro e w' ⟨⟨r, rfl⟩, rfl⟩
  cases r
  · go_wp2
    go_ret
    exact ⟨rfl, Below.refl _ _⟩
  by_cases hlb : len ≤ 4096
  case neg =>
    have hd : (4096 : Int) < (len : Int) := by omega
    go_wp2
    go_ret
    exact ⟨rfl, Below.refl _ _⟩
  have hd : decide ((4096 : Int) < (len : Int)) = false := by simp; omega
  go_wp2
  go_loop [3, 4, 5] (fun t lo i => ∃ k : Nat, k ≤ len ∧ i = .int .i64 k ∧ (∃ z : Int, t = .int .i64 z) ∧ ∃ L : Nat, lo = .int .i64 L ∧ L ≤ 1048576 ∧ ∀ j, j < k → (ks.getD j ByteArray.empty).size ≤ L) (fun _ _ i => len - (intOf i).toNat)
  case atStart => exact ⟨0, by omega, rfl, ⟨_, rfl⟩, 0, rfl, by omega, fun j hj => by omega⟩
  case round =>
    obtain ⟨k, hk, rfl, ⟨z, rfl⟩, L, rfl, hL, hle⟩ := hrel
    have HL : Hid (∀ j, j < k → (ks.getD j ByteArray.empty).size ≤ L) := hle
    clear hle
    by_cases hlt : k < len
    · have ck := hcell k hlt
      obtain ⟨s, hs⟩ : ∃ s, s = ks.getD k ByteArray.empty := ⟨_, rfl⟩
      rw [← hs] at ck
      have HM : Hid (∀ j, j < k + 1 → (ks.getD j ByteArray.empty).size ≤ max L s.size) := no_snoc (fun j hj => Nat.le_trans (HL.out j hj) (Nat.le_max_left _ _)) (by rw [← hs]; exact Nat.le_max_right _ _)
      clear hs hcell hsz hnil
      by_cases hLs : L < s.size
      · have HX : Hid (max L s.size = s.size) := Nat.max_eq_right (by omega)
        go_wp2
        · go_ret
          exact ⟨rfl, Below.refl _ _⟩
        · go_ret
          exact ⟨rfl, Below.refl _ _⟩
        · go_round
          case rel =>
            have hz : (s.size : Int) ≤ 1048576 := by assumption
            exact ⟨k + 1, by omega, by go_num, ⟨_, rfl⟩, s.size, rfl, by omega, by have h := HM.out; rw [HX.out] at h; exact h⟩
          case measure => simp [intOf]; omega
      · have HX : Hid (max L s.size = L) := Nat.max_eq_left (by omega)
        go_wp2
        · go_ret
          exact ⟨rfl, Below.refl _ _⟩
        · go_round
          case rel => exact ⟨k + 1, by omega, by go_num, ⟨_, rfl⟩, L, rfl, by omega, by have h := HM.out; rw [HX.out] at h; exact h⟩
          case measure => simp [intOf]; omega
    · have e : k = len := by omega
      subst e
      go_wp2_with (first | (at_make; refine wpList_make_full _ rfl _ _ 37 rfl w.heap.size 9 i0 (.string ByteArray.empty) 1 Try.underlying37 hi hz0 hz1 .i64 .i64 _ _ k rfl rfl rfl rfl (by rw [hz2]; omega) hlm (Nat.le_refl _) ?_; intro w1 hown1 hgrow1; obtain ⟨w2, hcp, hx2, B2⟩ := clone_run (cap := cap) hks hown1 (fun j hj => hgrow1.cell (hcell j hj) (by simp)) ((Below.refl _ _).grown hgrow1 (Nat.le_refl _) (fun j hj => by cases hj)); clear hown1 hgrow1))
      have hlt2 : w.heap.size < w2.heap.size := (Array.getElem?_eq_some_iff.1 hx2).1
      clear hi hz0 hz1 hz2 hcell hnil hcp
      refine (new_any w2).mono ?_
      rintro e w3 ⟨rfl, hh3, hb3⟩
      have B3 := B2.trans (hb3.mono (Nat.le_of_lt hlt2))
      have hx3 := box_later hx2 hb3 hlt2
      clear B2 hx2 hb3
      go_wp2
      go_loopw [8] (fun i wr => ∃ m : Nat, m ≤ k ∧ i = .int .i64 m ∧ Holds wr w2.heap.size (9 * m) ((ks.map bs).take m) ∧ Below w.heap.size w wr ∧ wr.heap[w.heap.size]? = some (.cells (ks.map Value.string).toArray 9 (0, 0))) (fun i _ => k - (intOf i).toNat)
      case atStart => exact ⟨0, by omega, rfl, hh3, B3, hx3⟩
      case round =>
        obtain ⟨m, hmk, rfl, hh, BB, hx⟩ := hrel
        clear hh3 B3 hx3
        by_cases hltm : m < k
        · obtain ⟨s, hs⟩ : ∃ s, s = ks.getD m ByteArray.empty := ⟨_, rfl⟩
          have cm := row_cell hx m (by omega)
          rw [← hs] at cm
          have hsm : s.size ≤ maxLen := by rw [hs, List.getD_eq_getElem?_getD, List.getElem?_eq_getElem (by omega)]; exact hsz _ (List.getElem_mem _)
          have HS : Hid (s = ks.getD m ByteArray.empty) := hs
          clear hs
          go_wp2
          go_loopw [9, 10] (fun se j w' => ∃ m2 q : Nat, m2 ≤ m ∧ j = .int .i64 m2 ∧ se = .bool false ∧ w' = wr.drewN q ∧ ∀ j, j < m2 → bs (ks.getD j ByteArray.empty) ≠ bs s) (fun _ j _ => m - (intOf j).toNat)
          case atStart => exact ⟨0, 0, by omega, rfl, rfl, rfl, fun j hj => by omega⟩
          case round =>
            obtain ⟨m2, q, hm2, rfl, rfl, rfl, hno⟩ := hrel
            have HN : Hid (∀ j, j < m2 → bs (ks.getD j ByteArray.empty) ≠ bs s) := hno
            clear hno
            by_cases hlt3 : m2 < m
            · obtain ⟨s2, hs2⟩ : ∃ s, s = ks.getD m2 ByteArray.empty := ⟨_, rfl⟩
              have c2 := row_cell hx m2 (by omega)
              rw [← hs2] at c2
              have HS2 : Hid (s2 = ks.getD m2 ByteArray.empty) := hs2
              clear hs2
              have i2 : (m2 : Int) < (k : Int) := by omega
              have i1 : (m : Int) < (k : Int) := by omega
              cases hq : (s2.toList == s.toList)
              · go_wp2
                go_quiet (fail)
                go_wp2
                go_roundw
                case rel => exact ⟨m2 + 1, _, by omega, by go_num, rfl, rfl, no_snoc HN.out (by rw [← HS2.out]; exact ne_of_beq hq)⟩
                case measure => simp [intOf]; omega
              · have hin : bs s ∈ (ks.map bs).take m := mem_few (k := m2) hlt3 (by omega) (by rw [← List.getD_eq_getElem?_getD, ← HS2.out]; exact bs_of_beq hq)
                have HM : Hid (∀ l, l ∈ (ks.map bs).take m ↔ l ∈ (ks.map bs).take (m + 1)) := keys_in HS.out (by omega) hin
                have HI : Hid (bs s ∈ (ks.map bs).take m) := hin
                clear hin
                go_wp2
                go_quiet (fail)
                go_wp2_with fail
                refine (zzadd_in w2.heap.size (9 * m) _ s _ (hh.drewN _) (by omega) hsm HI.out).mono ?_
                rintro e w5 ⟨rfl, hh5, hb5⟩
                have B5 := (below_drewN' BB _).trans (hb5.mono (Nat.le_of_lt hlt2))
                have hx5 := box_later (w := wr.drewN _) hx hb5 hlt2
                have hh6 := hh5.congr (c' := 9 * (m + 1)) (by omega) HM.out
                clear hh hh5 hb5 BB hx cm c2
                go_wp2
                go_roundw
                case rel => exact ⟨m + 1, by omega, by go_num, hh6, B5, hx5⟩
                case measure => simp [intOf]; omega
            · have e : m2 = m := by omega
              subst e
              have hout : bs s ∉ (ks.map bs).take m2 := not_mem_few HN.out
              have HM : Hid (∀ l, l ∈ bs s :: (ks.map bs).take m2 ↔ l ∈ (ks.map bs).take (m2 + 1)) := by
                rw [HS.out]; exact mem_step (by omega) (fun l => Iff.rfl)
              have HO : Hid (bs s ∉ (ks.map bs).take m2) := hout
              clear hout
              go_wp2_with fail
              refine (zzadd_out w2.heap.size (9 * m2) _ s _ (hh.drewN _) (by omega) hsm HO.out).mono ?_
              rintro e w5 ⟨rfl, hh5, hb5⟩
              have B5 := (below_drewN' BB _).trans (hb5.mono (Nat.le_of_lt hlt2))
              have hx5 := box_later (w := wr.drewN _) hx hb5 hlt2
              have hh6 := hh5.congr (c' := 9 * (m2 + 1)) (by omega) HM.out
              clear hh hh5 hb5 BB hx cm
              go_wp2
              go_roundw
              case rel => exact ⟨m2 + 1, by omega, by go_num, hh6, B5, hx5⟩
              case measure => simp [intOf]; omega
        · have e : m = k := by omega
          subst e
          have hall : Holds wr w2.heap.size (9 * m) (ks.map bs) := hh.congr (Nat.le_refl _) (fun l => by rw [List.take_of_length_le (by simp [hks])])
          clear hh
          go_wp2
          go_loopw [11] (fun i wx => ∃ j : Nat, j ≤ m ∧ i = .int .i64 j ∧ Holds wx w2.heap.size (9 * m + 9 * j) (ks.map bs) ∧ Below w.heap.size w wx ∧ wx.heap[w.heap.size]? = some (.cells (ks.map Value.string).toArray 9 (0, 0))) (fun i _ => m - (intOf i).toNat)
          case atStart => exact ⟨0, by omega, rfl, hall, BB, hx⟩
          case round =>
            obtain ⟨j, hjm, rfl, hh, Bx, hxx⟩ := hrel
            clear hall BB hx
            by_cases hlt4 : j < m
            · obtain ⟨s, hs⟩ : ∃ s, s = ks.getD j ByteArray.empty := ⟨_, rfl⟩
              have cj := row_cell hxx j (by omega)
              rw [← hs] at cj
              have hsm : s.size ≤ maxLen := by rw [hs, List.getD_eq_getElem?_getD, List.getElem?_eq_getElem (by omega)]; exact hsz _ (List.getElem_mem _)
              have hin : bs s ∈ ks.map bs := List.mem_map.2 ⟨s, by rw [hs, List.getD_eq_getElem?_getD, List.getElem?_eq_getElem (by omega)]; exact List.getElem_mem _, rfl⟩
              clear hs
              go_wp2_with fail
              refine (zzadd_in w2.heap.size _ _ s _ hh (by omega) hsm hin).mono ?_
              rintro e w5 ⟨rfl, hh5, hb5⟩
              have B5 := Bx.trans (hb5.mono (Nat.le_of_lt hlt2))
              have hx5 := box_later hxx hb5 hlt2
              clear hh hb5 Bx hxx cj hin
              go_wp2
              go_roundw
              case rel => exact ⟨j + 1, by omega, by go_num, hh5, B5, hx5⟩
              case measure => simp [intOf]; omega
            · have e : j = m := by omega
              subst e
              have HO : Hid (bs (xxs (L + 1)) ∉ ks.map bs) := fresh_all hks HL.out
              go_wp2_with fail
              rw [show ((L : Int) + 1) = ((L + 1 : Nat) : Int) from by omega]
              refine (repeat_any (L + 1) (by omega) _).mono ?_
              rintro e w5 ⟨rfl, hb5⟩
              have hh5 := hh.later hb5
              have B5 := Bx.trans (hb5.mono Bx.size)
              have hxs : (xxs (L + 1)).size ≤ maxLen := by rw [xxs_size]; unfold maxLen; omega
              generalize xxs (L + 1) = s at HO hxs
              clear hh hb5 Bx hxx
              go_wp2_with fail
              refine (zzadd_out _ _ _ s w5 hh5 (by omega) hxs HO.out).mono ?_
              rintro e w6 ⟨rfl, hh6, hb6⟩
              have B6 := B5.trans (hb6.mono (Nat.le_of_lt hlt2))
              clear hh5 B5 hb6
              go_wp2_with fail
              refine (zzadd_in _ _ _ s w6 hh6 (by omega) hxs (List.mem_cons_self ..)).mono ?_
              rintro e w7 ⟨rfl, hh7, hb7⟩
              have B7 := B6.trans (hb7.mono (Nat.le_of_lt hlt2))
              clear hh6 B6 hb7
              go_wp2
              go_ret
              exact ⟨rfl, B7⟩
end Go.Proofs.Qxb6603124a.Ks
