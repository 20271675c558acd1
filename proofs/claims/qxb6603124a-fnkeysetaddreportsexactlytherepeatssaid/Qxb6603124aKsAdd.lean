/-
  The walks of (*keySet).add, every way: the few keys that hold it, the few keys that do not, the full array (the map is made), the map. Then one contract for all: add reports whether the key is held, and holds it behind the call.
-/
import Derived.Test.Qxb6603124aKsBase
import Derived.Deep.QuietTactic
import Derived.BigQuiet
import Derived.Deep.MidRow
namespace Go.Proofs.Qxb6603124a.Ks
open Go.RowKit Go.Maps Go.WideMaps

set_option maxHeartbeats 400000 in
theorem add_many_in (b c bm : Nat) (S : List (List UInt8)) (key : ByteArray) (few : List ByteArray) (n : Nat) (w : World) (hat : At w b few n (some bm)) (hs : Says w bm c S) (hk : key.size ≤ maxLen) (hin : bs key ∈ S) :
    Calls Try.prog 28 #[.pointer (some ⟨b, 0, none⟩), .string key] w fun e w' => e = .returned (.bool true) ∧ w' = w := by
  have c9 := hat.many
  have q43 : ∀ (w : World) (r : Option Nat), (binOp .eql 43 (.map r) (.map none)).run Try.prog w = .ok (.bool r.isNone) w := fun w r => run_eql_map_nil w _ _ _ r Try.underlying43
  obtain ⟨D, hown, hD⟩ := hs
  have hkey := keyOf_string_mk Try.underlying9 hk
  have hl := lookup_bool hown law9 Try.underlying43 Try.underlying4 (zero4 _) hkey (decide (bs key ∈ S)) (hD _)
  have hd : decide (bs key ∈ S) = true := by simpa using hin
  rw [hd] at hl
  clear hown hD hkey hd hat
  go_enter Try.func28, Try.ntmps28
  go_wp2
  go_ret
  exact ⟨rfl, rfl⟩

set_option maxHeartbeats 400000 in
theorem add_many_out (b c bm : Nat) (S : List (List UInt8)) (key : ByteArray) (few : List ByteArray) (n : Nat) (w : World) (hat : At w b few n (some bm)) (hs : Says w bm c S) (hc : c < 1000000) (hk : key.size ≤ maxLen) (hin : bs key ∉ S) :
    Calls Try.prog 28 #[.pointer (some ⟨b, 0, none⟩), .string key] w fun e w' => e = .returned (.bool false) ∧ Says w' bm (c + 1) (bs key :: S) ∧ w.grownBy w' (some bm) := by
  have c9 := hat.many
  have q43 : ∀ (w : World) (r : Option Nat), (binOp .eql 43 (.map r) (.map none)).run Try.prog w = .ok (.bool r.isNone) w := fun w r => run_eql_map_nil w _ _ _ r Try.underlying43
  obtain ⟨D, hown, hD⟩ := hs
  have hkey := keyOf_string_mk Try.underlying9 hk
  have hl := lookup_bool hown law9 Try.underlying43 Try.underlying4 (zero4 _) hkey (decide (bs key ∈ S)) (hD _)
  have hd : decide (bs key ∈ S) = false := by simpa using hin
  rw [hd] at hl
  have HD : Hid (∀ l : List UInt8, D.atKey (.string l) (.lit (.bool false)) = .lit (.bool (decide (l ∈ S)))) := hD
  have hm : IsMap D := hown.isMap
  clear hD hd hat
  go_enter Try.func28, Try.ntmps28
  go_wp2_with (first | (at_mapUpdate; refine wpList_mapUpdate_own _ rfl _ _ _ 43 rfl 9 4 law9 Try.underlying43 _ bm c D rfl hown (by unfold maxLen; omega) _ _ _ rfl rfl hkey _ [] (plainElem_bool Try.underlying4 true) ?_; intro w1 hown1 hgrow1) | go_in)
  go_ret
  exact ⟨rfl, ⟨_, hown1, says_put hm HD.out _⟩, hgrow1⟩

theorem few_slice (b n : Nat) (hn : n ≤ 8) (w : World) : (Instr.sliceAt 31 (.pointer (some ⟨b, 0, none⟩)) none (some (.int .i64 n)) none).run Try.prog w = .ok (.slice (some ⟨b, 0, none⟩) n 8) w := by
  have e : Try.prog.arrayLen 31 = 8 := by kernel_rfl
  have h := run_sliceAt_array_h (P := Try.prog) (w := w) (t := 31) (a := ⟨b, 0, none⟩) (by rw [e]; exact Try.underlying31) .i64 n (by omega) (by rw [e]; omega)
  rw [h, e]
  have hs : (sizeOf (Try.prog.elem 31)).run Try.prog w = .ok 1 w := by kernel_rfl
  rw [hs]
  simp [Result.andThen, slicedAt, Addr.add]

theorem bs_of_beq {x y : ByteArray} (h : (x.toList == y.toList) = true) : bs x = bs y := by
  have := eq_of_beq h
  simpa [bs, ByteArray.toList_eq] using this
theorem ne_of_beq {x y : ByteArray} (h : (x.toList == y.toList) = false) : bs x ≠ bs y := by
  intro e
  have : x.toList = y.toList := by simpa [bs, ByteArray.toList_eq] using e
  simp [this] at h

theorem mem_few {few : List ByteArray} {n k : Nat} {key : ByteArray} (hk : k < n) (hn : n ≤ few.length) (e : bs (few[k]?.getD ByteArray.empty) = bs key) : bs key ∈ (few.map bs).take n := by
  rw [List.getElem?_eq_getElem (by omega)] at e
  simp only [Option.getD_some] at e
  rw [List.mem_take_iff_getElem]
  exact ⟨k, by simp; omega, by simpa using e⟩
theorem not_mem_few {few : List ByteArray} {n : Nat} {key : ByteArray} (h : ∀ j, j < n → bs (few.getD j ByteArray.empty) ≠ bs key) : bs key ∉ (few.map bs).take n := by
  intro hm
  rw [List.mem_take_iff_getElem] at hm
  obtain ⟨j, hj, e⟩ := hm
  simp at hj
  refine h j (by omega) ?_
  rw [List.getD_eq_getElem?_getD, List.getElem?_eq_getElem (by omega)]
  simpa using e

theorem no_snoc {f : Nat → Prop} {k : Nat} (h : ∀ j, j < k → f j) (hk : f k) : ∀ j, j < k + 1 → f j := by
  intro j hj
  by_cases e : j = k
  · subst e; exact hk
  · exact h j (by omega)

set_option maxHeartbeats 400000 in
theorem add_few_in (b : Nat) (key : ByteArray) (few : List ByteArray) (n : Nat) (w : World) (hat : At w b few n none) (hn : n < 8) (hin : bs key ∈ (few.map bs).take n) :
    Calls Try.prog 28 #[.pointer (some ⟨b, 0, none⟩), .string key] w fun e w' => e = .returned (.bool true) ∧ ∃ nq, w' = w.drewN nq := by
  have c9 := hat.many
  have c8 := hat.count
  have cf := hat.key
  have HI : Hid (bs key ∈ (few.map bs).take n) := hin
  clear hin hat
  have q43 : ∀ (w : World) (r : Option Nat), (binOp .eql 43 (.map r) (.map none)).run Try.prog w = .ok (.bool r.isNone) w := fun w r => run_eql_map_nil w _ _ _ r Try.underlying43
  have hdn : decide ((n : Int) < 8) = true := by simp; omega
  have hsl := few_slice b n (by omega)
  go_enter Try.func28, Try.ntmps28
  go_wp2
  go_quiet (fail)
  go_wp2
  go_loop [30] (fun i => ∃ k : Nat, k ≤ n ∧ i = .int .i64 k ∧ ∀ j, j < k → bs (few.getD j ByteArray.empty) ≠ bs key) (fun i => n - (intOf i).toNat)
  case atStart => exact ⟨0, Nat.zero_le _, rfl, fun j hj => by omega⟩
  case round =>
    obtain ⟨k, hk, rfl, hno⟩ := hrel
    have HN : Hid (∀ j, j < k → bs (few.getD j ByteArray.empty) ≠ bs key) := hno
    clear hno
    by_cases hlt : k < n
    · have ck := cf k (by omega)
      clear cf
      go_wp2
      · go_ret
        exact ⟨rfl, nq, rfl⟩
      · go_round
        case rel =>
          have hne : ((few[k]?.getD ByteArray.empty).toList == key.toList) = false := by assumption
          refine ⟨k + 1, by omega, by go_num, no_snoc HN.out (by rw [List.getD_eq_getElem?_getD]; exact ne_of_beq hne)⟩
        case measure => simp [intOf]; omega
    · have e : k = n := by omega
      subst e
      exact absurd HI.out (not_mem_few HN.out)

theorem below_drewN' {B : Nat} {a w : World} (h : Below B a w) (m : Nat) : Below B a (w.drewN m) := ⟨h.os, h.tape, h.output, h.size, h.block⟩

theorem few_step {w : World} {b : Nat} {few : List ByteArray} {n : Nat} {key : ByteArray} (h : At w b few n none) (hn : n < 8) (m : Nat) :
    At (((w.drewN m).setCell ⟨b, n, none⟩ (.string key)).setCell ⟨b, 8, none⟩ (.int .i64 ((n : Int) + 1))) b (few.set n key) (n + 1) none ∧
    Below b w (((w.drewN m).setCell ⟨b, n, none⟩ (.string key)).setCell ⟨b, 8, none⟩ (.int .i64 ((n : Int) + 1))) := by
  have h1 : At (w.drewN m) b few n none := h.heap rfl
  have h2 := (h1.putKey n hn key).putCount (n + 1)
  refine ⟨by simpa using h2, ?_⟩
  exact ((below_drewN' (Below.refl b w) m).setCell (p := ⟨b, n, none⟩) (Nat.le_refl b) _).setCell (p := ⟨b, 8, none⟩) (Nat.le_refl b) _

set_option maxHeartbeats 400000 in
theorem add_few_out (b : Nat) (key : ByteArray) (few : List ByteArray) (n : Nat) (w : World) (hat : At w b few n none) (hn : n < 8) (hin : bs key ∉ (few.map bs).take n) :
    Calls Try.prog 28 #[.pointer (some ⟨b, 0, none⟩), .string key] w fun e w' => e = .returned (.bool false) ∧ At w' b (few.set n key) (n + 1) none ∧ Below b w w' := by
  have c9 := hat.many
  have c8 := hat.count
  have cf := hat.key
  have fz := hat.free
  have HI : Hid (bs key ∉ (few.map bs).take n) := hin
  have HA : Hid (At w b few n none) := hat
  have hlen := hat.1
  clear hin hat
  have q43 : ∀ (w : World) (r : Option Nat), (binOp .eql 43 (.map r) (.map none)).run Try.prog w = .ok (.bool r.isNone) w := fun w r => run_eql_map_nil w _ _ _ r Try.underlying43
  have hdn : decide ((n : Int) < 8) = true := by simp; omega
  have hsl := few_slice b n (by omega)
  go_enter Try.func28, Try.ntmps28
  go_wp2
  go_quiet (fail)
  go_wp2
  go_loop [30] (fun i => ∃ k : Nat, k ≤ n ∧ i = .int .i64 k) (fun i => n - (intOf i).toNat)
  case atStart => exact ⟨0, Nat.zero_le _, rfl⟩
  case round =>
    obtain ⟨k, hk, rfl⟩ := hrel
    by_cases hlt : k < n
    · have ck := cf k (by omega)
      have hne : ((few[k]?.getD ByteArray.empty).toList == key.toList) = false := by
        cases h : ((few[k]?.getD ByteArray.empty).toList == key.toList)
        · rfl
        · exact absurd (mem_few hlt (by omega) (bs_of_beq h)) HI.out
      clear cf
      go_wp2
      go_round
      case rel => exact ⟨k + 1, by omega, by go_num⟩
      case measure => simp [intOf]; omega
    · clear HI hsl
      have cn := cf n hn
      clear cf
      have hi1 : (n : Int) < 8 := by omega
      have hi0 : (0 : Int) ≤ (n : Int) := by omega
      have fn := fz n
      have f8 := fz 8
      clear fz
      go_wp2
      go_region
      all_goals go_wp2
      go_ret
      exact ⟨rfl, few_step HA.out hn (nq + 1)⟩

/-! ### the array is full: the map is made -/
theorem size31 : (Try.prog.info? 31).map (·.size) = some 8 := by kernel_rfl

theorem index_few (few : List ByteArray) (h : few.length = 8) (k : Nat) (hk : k < 8) (w : World) :
    (Instr.index 31 (.agg (few.map Value.string).toArray) (.int .i64 k)).run Try.prog w = .ok (.string (few.getD k ByteArray.empty)) w := by
  have hs : (sizeOf 9).run Try.prog w = .ok 1 w := by kernel_rfl
  have h0 : (0 : Int) ≤ (k : Int) ∧ (k : Int) < ((8 : Nat) : Int) := by omega
  have ha : (isAgg 9).run Try.prog w = .ok false w := by kernel_rfl
  simp only [Instr.index, asIntOf, run_underlying Try.underlying31, Sem.run_bind, Sem.run_pure, Result.andThen_ok, if_pos h0, hs]
  simp [part, ha, h, hk]

theorem At.range {w : World} {b : Nat} {few : List ByteArray} {n : Nat} {m : Option Nat} (h : At w b few n m) : w.rangeAt b 0 (few.map Value.string) := by
  intro j v hv
  rw [Nat.zero_add, h.cell]
  unfold cellsOf
  rw [List.getElem?_append_left (List.getElem?_eq_some_iff.1 hv).1]
  exact hv

/-- The world in which the map has just been made. -/
def made (w : World) (b : Nat) : World := (w.setCell ⟨b, 9, none⟩ (.map (some w.heap.size))).alloc (.map #[] 0)

theorem made_at {w : World} {b : Nat} {few : List ByteArray} (h : At w b few 8 none) : At (made w b) b few 8 (some w.heap.size) := (h.putMany _).alloc _

theorem Says.congr {w : World} {bm c c' : Nat} {S S' : List (List UInt8)} (h : Says w bm c S) (hc : c ≤ c') (e : ∀ l, l ∈ S ↔ l ∈ S') : Says w bm c' S' := by
  obtain ⟨D, hown, hD⟩ := h
  refine ⟨D, hown.mono hc, fun l => ?_⟩
  rw [hD l]
  simp [e l]

theorem Says.kept {w w' : World} {bm c : Nat} {S : List (List UInt8)} (h : Says w bm c S) (e : w'.heap[bm]? = w.heap[bm]?) : Says w' bm c S := by
  obtain ⟨D, ⟨es, clock, hb, r⟩, hD⟩ := h
  exact ⟨D, ⟨es, clock, e.trans hb, r⟩, hD⟩

theorem mem_step {few : List ByteArray} {k : Nat} (hk : k < few.length) {S : List (List UInt8)} (h : ∀ l, l ∈ S ↔ l ∈ (few.map bs).take k) : ∀ l, l ∈ bs (few.getD k ByteArray.empty) :: S ↔ l ∈ (few.map bs).take (k + 1) := by
  intro l
  rw [List.take_succ_eq_append_getElem (by simpa using hk)]
  simp [h l, hk]
  constructor
  · rintro (h | h)
    · exact .inr h
    · exact .inl h
  · rintro (h | h)
    · exact .inr h
    · exact .inl h

theorem made_owns (w : World) (b : Nat) : (made w b).ownsMap Try.prog 9 (plainElem (H := Unit) Try.prog 4) w.heap.size 0 (.map []) := by
  have h := World.ownsMap_made (H := Unit) (w.setCell ⟨b, 9, none⟩ (.map (some w.heap.size))) Try.prog 9 (plainElem Try.prog 4)
  have e : (w.setCell ⟨b, 9, none⟩ (.map (some w.heap.size))).heap.size = w.heap.size := by simp [World.setCell]
  rw [e] at h
  exact h

theorem made_below (w : World) (b : Nat) (hb : b < w.heap.size) : Below b w (made w b) :=
  ((Below.refl b w).setCell (p := ⟨b, 9, none⟩) (Nat.le_refl b) _).alloc (by simp [World.setCell]; omega) _

set_option maxHeartbeats 400000 in
theorem add_full (b : Nat) (key : ByteArray) (few : List ByteArray) (w : World) (hat : At w b few 8 none) (hsz : ∀ x ∈ few, x.size ≤ maxLen) (hk : key.size ≤ maxLen) :
    Calls Try.prog 28 #[.pointer (some ⟨b, 0, none⟩), .string key] w fun e w' => e = .returned (.bool (decide (bs key ∈ few.map bs))) ∧ At w' b few 8 (some w.heap.size) ∧ Says w' w.heap.size 9 (bs key :: few.map bs) ∧ Below b w w' := by
  have c9 := hat.many
  have c8 : w.cell? ⟨b, 8, none⟩ = some (.int .i64 8) := hat.count
  have f9 := hat.free 9
  have HA : Hid (At w b few 8 none) := hat
  have hlen := hat.1
  have hb := hat.lt
  have hr : Hid (((w.setCell ⟨b, 9, none⟩ (.map (some w.heap.size))).alloc (.map #[] 0)).rangeAt b 0 (few.map Value.string)) := (made_at hat).range
  have q43 : ∀ (w : World) (r : Option Nat), (binOp .eql 43 (.map r) (.map none)).run Try.prog w = .ok (.bool r.isNone) w := fun w r => run_eql_map_nil w _ _ _ r Try.underlying43
  have hmk := make_hint 43 9 4 Try.prog Try.underlying43 16
  clear hat
  go_enter Try.func28, Try.ntmps28
  go_wp2_with (refine wpList_load_mid rfl 31 _ rfl b 0 rfl (few.map Value.string) _ hr.out Try.underlying31 rfl (by rw [List.length_map, hlen]; exact size31) ?_)
  clear hr hmk c9 c8 f9
  go_loopw [67] (fun i wr => ∃ k : Nat, k ≤ 8 ∧ i = .int .i64 k ∧ At wr b few 8 (some w.heap.size) ∧ (∃ S, Says wr w.heap.size k S ∧ ∀ l, l ∈ S ↔ l ∈ (few.map bs).take k) ∧ Below b w wr) (fun i _ => 8 - (intOf i).toNat)
  case atStart => exact ⟨0, by omega, rfl, made_at HA.out, ⟨[], ⟨_, made_owns w b, fun l => by simp [DataW.atKey]⟩, by simp⟩, made_below w b hb⟩
  case round =>
    obtain ⟨k, hk8, rfl, hat, ⟨S, ⟨D, hown, hD⟩, hS⟩, hbel⟩ := hrel
    have HD : Hid (∀ l : List UInt8, D.atKey (.string l) (.lit (.bool false)) = .lit (.bool (decide (l ∈ S)))) := hD
    have HS : Hid (∀ l, l ∈ S ↔ l ∈ (few.map bs).take k) := hS
    have HT : Hid (At wr b few 8 (some w.heap.size)) := hat
    have c9 := hat.many
    have hm : IsMap D := hown.isMap
    clear hD hS hat HA
    by_cases hlt : k < 8
    · obtain ⟨s, hs⟩ : ∃ s, s = few.getD k ByteArray.empty := ⟨_, rfl⟩
      have hix := index_few few hlen k hlt
      rw [← hs] at hix
      have hkey := keyOf_string_mk Try.underlying9 (s := s) (by rw [hs, List.getD_eq_getElem?_getD, List.getElem?_eq_getElem (by omega)]; exact hsz _ (List.getElem_mem _))
      have HS2 : Hid (∀ l, l ∈ bs s :: S ↔ l ∈ (few.map bs).take (k + 1)) := by rw [hs]; exact mem_step (by omega) HS.out
      clear hs hsz
      go_wp2_with (first | (at_mapUpdate; refine wpList_mapUpdate_own _ rfl _ _ _ 43 rfl 9 4 law9 Try.underlying43 _ _ k D rfl hown (by unfold maxLen; omega) _ _ _ rfl rfl hkey _ [] (plainElem_bool Try.underlying4 true) ?_; intro w1 hown1 hgrow1) | go_in)
      have hat1 : At w1 b few 8 (some w.heap.size) := HT.out.heap (hgrow1.block b HT.out.lt (by simp; omega))
      have hbel1 := hbel.grown hgrow1 (Nat.le_of_lt HT.out.lt) (fun j hj => by simp at hj; omega)
      have hsay1 : Says w1 w.heap.size (k + 1) (bs s :: S) := ⟨_, hown1, says_put hm HD.out _⟩
      clear hown hown1 hgrow1 hix hkey c9
      go_roundw
      case rel => exact ⟨k + 1, by omega, by go_num, hat1, ⟨_, hsay1, HS2.out⟩, hbel1⟩
      case measure => simp [intOf]; omega
    · have e8 : k = 8 := by omega
      subst e8
      have hS8 : ∀ l, l ∈ S ↔ l ∈ few.map bs := by
        have := HS.out
        rw [List.take_of_length_le (by simp [hlen])] at this
        exact this
      have hkey := keyOf_string_mk Try.underlying9 hk
      have hl := lookup_bool hown law9 Try.underlying43 Try.underlying4 (zero4 _) hkey (decide (bs key ∈ S)) (HD.out _)
      have H8 : Hid (∀ l, l ∈ S ↔ l ∈ few.map bs) := hS8
      clear HS hsz
      by_cases hin : bs key ∈ S
      · have hd : decide (bs key ∈ S) = true := by simpa using hin
        have hsay : Says wr w.heap.size 9 (bs key :: few.map bs) := Says.congr ⟨D, hown, HD.out⟩ (by omega) (fun l => by
          rw [hS8 l, List.mem_cons]
          exact ⟨.inr, fun h => h.elim (fun e => e ▸ (hS8 _).1 hin) id⟩)
        have HR : Hid (decide (bs key ∈ few.map bs) = true) := decide_eq_true ((hS8 _).1 hin)
        rw [hd] at hl
        clear hd hin hS8 hown hm hkey
        go_wp2
        go_ret
        exact ⟨by rw [HR.out]; rfl, HT.out, hsay, hbel⟩
      · have hd : decide (bs key ∈ S) = false := by simpa using hin
        have HR : Hid (decide (bs key ∈ few.map bs) = false) := decide_eq_false (fun h => hin ((hS8 _).2 h))
        rw [hd] at hl
        clear hd hin hS8
        go_wp2_with (first | (at_mapUpdate; refine wpList_mapUpdate_own _ rfl _ _ _ 43 rfl 9 4 law9 Try.underlying43 _ _ 8 D rfl hown (by unfold maxLen; omega) _ _ _ rfl rfl hkey _ [] (plainElem_bool Try.underlying4 true) ?_; intro w1 hown1 hgrow1) | go_in)
        have hat1 : At w1 b few 8 (some w.heap.size) := HT.out.heap (hgrow1.block b HT.out.lt (by simp; omega))
        have hbel1 := hbel.grown hgrow1 (Nat.le_of_lt HT.out.lt) (fun j hj => by simp at hj; omega)
        have hsay1 : Says w1 w.heap.size 9 (bs key :: few.map bs) := Says.congr ⟨_, hown1, says_put hm HD.out _⟩ (by omega) (fun l => by
          have h := H8.out l
          simp only [List.mem_cons]
          exact or_congr Iff.rfl h)
        go_ret
        exact ⟨by rw [HR.out]; rfl, hat1, hsay1, hbel1⟩

/-! ### the contract -/
theorem add_any (b c : Nat) (S : List (List UInt8)) (key : ByteArray) (w : World) (h : Holds w b c S) (hc : c < 1000000) (hk : key.size ≤ maxLen) :
    Calls Try.prog 28 #[.pointer (some ⟨b, 0, none⟩), .string key] w fun e w' => e = .returned (.bool (decide (bs key ∈ S))) ∧ Holds w' b (c + 9) (bs key :: S) ∧ Below b w w' := by
  obtain ⟨few, n, m, hat, hsz, h⟩ := h
  rcases h with ⟨rfl, hn, hS⟩ | ⟨bm, rfl, hbm, hs⟩
  · by_cases hn8 : n < 8
    · by_cases hin : bs key ∈ S
      · refine (add_few_in b key few n w hat hn8 ((hS _).1 hin)).mono ?_
        rintro e w' ⟨rfl, nq, rfl⟩
        refine ⟨by simp [hin], ⟨few, n, none, hat.heap rfl, hsz, .inl ⟨rfl, hn, fun l => ?_⟩⟩, below_drewN' (Below.refl _ _) nq⟩
        rw [← hS l, List.mem_cons]
        exact ⟨fun h => h.elim (fun e => e ▸ hin) id, .inr⟩
      · refine (add_few_out b key few n w hat hn8 (fun h => hin ((hS _).2 h))).mono ?_
        rintro e w' ⟨rfl, hat', hbel⟩
        refine ⟨by simp [hin], ⟨_, _, none, hat', ?_, .inl ⟨rfl, hn8, fun l => ?_⟩⟩, hbel⟩
        · intro x hx
          rcases List.mem_or_eq_of_mem_set hx with h | h
          · exact hsz x h
          · rw [h]; exact hk
        · have hl := hat.1
          rw [List.map_set, List.take_set, List.take_succ_eq_append_getElem (by simp; omega), List.set_append_right _ _ (by simp; omega), List.mem_cons, hS l]
          simp [hl, Nat.min_eq_left hn]
          exact ⟨fun h => h.elim .inr .inl, fun h => h.elim .inr .inl⟩
    · have e8 : n = 8 := by omega
      subst e8
      have hS8 : ∀ l, l ∈ S ↔ l ∈ few.map bs := by
        intro l
        rw [hS l, List.take_of_length_le (by simp [hat.1])]
      refine (add_full b key few w hat hsz hk).mono ?_
      rintro e w' ⟨rfl, hat', hsay, hbel⟩
      refine ⟨by simp [hS8], ⟨few, 8, _, hat', hsz, .inr ⟨_, rfl, hat.lt, hsay.congr (by omega) fun l => ?_⟩⟩, hbel⟩
      simp only [List.mem_cons]
      exact or_congr Iff.rfl (hS8 l).symm
  · by_cases hin : bs key ∈ S
    · refine (add_many_in b c bm S key few n w hat hs hk hin).mono ?_
      rintro e w' ⟨rfl, rfl⟩
      refine ⟨by simp [hin], ⟨few, n, _, hat, hsz, .inr ⟨bm, rfl, hbm, hs.congr (by omega) fun l => ?_⟩⟩, Below.refl _ _⟩
      rw [List.mem_cons]
      exact ⟨.inr, fun h => h.elim (fun e => e ▸ hin) id⟩
    · refine (add_many_out b c bm S key few n w hat hs hc hk hin).mono ?_
      rintro e w' ⟨rfl, hsay, hg⟩
      refine ⟨by simp [hin], ⟨few, n, _, hat.heap (hg.block b hat.lt (by simp; omega)), hsz, .inr ⟨bm, rfl, hbm, hsay.congr (by omega) fun l => Iff.rfl⟩⟩, ?_⟩
      exact (Below.refl b w).grown hg (Nat.le_of_lt hat.lt) (fun j hj => by simp at hj; omega)

theorem zzadd_any (b c : Nat) (S : List (List UInt8)) (key : ByteArray) (w : World) (h : Holds w b c S) (hc : c < 1000000) (hk : key.size ≤ maxLen) :
    Calls Try.prog 20 #[.pointer (some ⟨b, 0, none⟩), .string key] w fun e w' => e = .returned (.bool (decide (bs key ∈ S))) ∧ Holds w' b (c + 9) (bs key :: S) ∧ Below b w w' := by
  go_enter Try.func20, Try.ntmps20
  go_wp2_with fail
  refine (add_any b c S key w h hc hk).mono ?_
  rintro e w' ⟨rfl, hh, hb⟩
  go_wp2
  go_ret
  exact ⟨rfl, hh, hb⟩

end Go.Proofs.Qxb6603124a.Ks
