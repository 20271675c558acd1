/-
  FnKeySetAddReportsExactlyTheRepeats: the walk over a slice without elements (nil, or empty).
-/
import Derived.Test.Qxb6603124aKsRep
namespace Go.Proofs.Qxb6603124a.Ks
open Go.RowKit Go.Maps Go.WideMaps

set_option maxHeartbeats 400000 in
theorem bytesRep_none (a : Option Addr) (cap : Nat) (w : World) :
    Calls Try.prog 22 #[.slice a 0 cap] w fun e w' => e = .returned (.bool true) ∧ w = w' := by
  go_enter Try.func22, Try.ntmps22
  go_wp2
  refine wp_loop_rounds 1 ?_
  rw [rounds_succ]
  go_wp2
  go_ret
  exact ⟨rfl, rfl⟩

theorem copy_zero (a a' : Option Addr) (n c c' : Nat) (w : World) : (Builtin.copy_ #[37, 37] 3 #[.slice a 0 c, .slice a' n c']).run Try.prog w = .ok (.int .i64 0) w := by
  have h := run_copy_none (P := Try.prog) w 37 37 3 9 a a' 0 c n c' Try.underlying37 size9 (by exact Nat.min_zero n)
  exact h

set_option maxHeartbeats 800000 in
theorem rep_none (a : Option Addr) (cap : Nat) (w : World) :
    Calls Try.prog 8 #[.slice a 0 cap] w fun e w' => e = .returned (.bool true) ∧ Below w.heap.size w w' := by
  have hnil : ∀ w : World, (binOp .neq 37 (.slice a 0 cap) (.slice none 0 0)).run Try.prog w = .ok (.bool (!a.isNone)) w := fun w => run_neq_slice_nil_any w 37 9 _ _ _ _ _ Try.underlying37
  obtain ⟨i0, hi, hz0, hz1, hz2⟩ := info_parts info9
  have hcz := copy_zero
  have HO : Hid (bs (xxs 1) ∉ []) := by intro h; cases h
  cases a
  · have hn : ∀ w : World, (binOp .neq 37 (.slice none 0 cap) (.slice none 0 0)).run Try.prog w = .ok (.bool false) w := hnil
    clear hnil hcz hi hz0 hz1 hz2
    go_enter Try.func8, Try.ntmps8
    go_wp2_with fail
    refine (bytesRep_none none cap w).mono ?_
    rintro e w' ⟨rfl, rfl⟩
    go_wp2
    refine wp_loop_rounds 1 ?_
    rw [rounds_succ]
    go_wp2_with fail
    refine (new_any w).mono ?_
    rintro e w3 ⟨rfl, hh3, B3⟩
    go_wp2
    refine wp_loop_rounds 1 ?_
    rw [rounds_succ]
    go_wp2
    refine wp_loop_rounds 1 ?_
    rw [rounds_succ]
    go_wp2_with fail
    rw [show (1 : Int) = ((1 : Nat) : Int) from rfl]
    refine (repeat_any 1 (by omega) _).mono ?_
    rintro e w5 ⟨rfl, hb5⟩
    have hh5 := hh3.later hb5
    have B5 := B3.trans (hb5.mono B3.size)
    have hxs : (xxs 1).size ≤ maxLen := by rw [xxs_size]; unfold maxLen; omega
    generalize xxs 1 = s at HO hxs
    clear hh3 hb5 B3
    go_wp2_with fail
    refine (zzadd_out _ _ _ s w5 hh5 (by omega) hxs HO.out).mono ?_
    rintro e w6 ⟨rfl, hh6, hb6⟩
    have B6 := B5.trans (hb6.mono (by omega))
    clear hh5 B5 hb6
    go_wp2_with fail
    refine (zzadd_in _ _ _ s w6 hh6 (by omega) hxs (List.mem_cons_self ..)).mono ?_
    rintro e w7 ⟨rfl, hh7, hb7⟩
    have B7 := B6.trans (hb7.mono (by omega))
    clear hh6 B6 hb7
    go_wp2
    go_ret
    exact ⟨rfl, B7⟩
  · rename_i ad
    have hn : ∀ w : World, (binOp .neq 37 (.slice (some ad) 0 cap) (.slice none 0 0)).run Try.prog w = .ok (.bool true) w := hnil
    clear hnil
    go_enter Try.func8, Try.ntmps8
    go_wp2_with fail
    refine (bytesRep_none (some ad) cap w).mono ?_
    rintro e w' ⟨rfl, rfl⟩
    go_wp2
    refine wp_loop_rounds 1 ?_
    rw [rounds_succ]
    go_wp2_with (first | (at_make; refine wpList_make_full _ rfl _ _ 37 rfl w.heap.size 9 i0 (.string ByteArray.empty) 1 Try.underlying37 hi hz0 hz1 .i64 .i64 _ _ 0 rfl rfl rfl rfl (by omega) (by unfold maxLen; omega) (Nat.le_refl _) ?_; intro w1 hown1 hgrow1))
    have B1 : Below w.heap.size w w1 := (Below.refl _ _).grown hgrow1 (Nat.le_refl _) (fun j hj => by cases hj)
    have hw1 : w.heap.size ≤ w1.heap.size := B1.size
    clear hown1 hgrow1 hi hz0 hz1 hz2 hcz
    refine (new_any w1).mono ?_
    rintro e w3 ⟨rfl, hh3, hb3⟩
    have B3 := B1.trans (hb3.mono B1.size)
    clear B1 hb3
    go_wp2
    refine wp_loop_rounds 1 ?_
    rw [rounds_succ]
    go_wp2
    refine wp_loop_rounds 1 ?_
    rw [rounds_succ]
    go_wp2_with fail
    rw [show (1 : Int) = ((1 : Nat) : Int) from rfl]
    refine (repeat_any 1 (by omega) _).mono ?_
    rintro e w5 ⟨rfl, hb5⟩
    have hh5 := hh3.later hb5
    have B5 := B3.trans (hb5.mono B3.size)
    have hxs : (xxs 1).size ≤ maxLen := by rw [xxs_size]; unfold maxLen; omega
    generalize xxs 1 = s at HO hxs
    clear hh3 hb5 B3
    go_wp2_with fail
    refine (zzadd_out _ _ _ s w5 hh5 (by omega) hxs HO.out).mono ?_
    rintro e w6 ⟨rfl, hh6, hb6⟩
    have B6 := B5.trans (hb6.mono (by omega))
    clear hh5 B5 hb6
    go_wp2_with fail
    refine (zzadd_in _ _ _ s w6 hh6 (by omega) hxs (List.mem_cons_self ..)).mono ?_
    rintro e w7 ⟨rfl, hh7, hb7⟩
    have B7 := B6.trans (hb7.mono (by omega))
    clear hh6 B6 hb7
    go_wp2
    go_ret
    exact ⟨rfl, B7⟩
end Go.Proofs.Qxb6603124a.Ks
