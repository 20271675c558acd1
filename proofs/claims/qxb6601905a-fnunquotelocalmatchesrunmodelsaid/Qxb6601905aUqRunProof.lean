/-
  FnUnquoteLocalMatchesRunModel: the walk and the row.
-/
import Derived.Test.Qxb6601905aUqModel
import Derived.ProofKit
import Derived.OpenShut
import Derived.ShutString
import Derived.ChangeOld
namespace Go.Proofs.Qxb6601905a.fnUnquoteLocalMatchesRunModel
open Go.ChangeShapes Go.WideShapes Go.ChangeAt Go.RowKit
open Go.ChangeMaps (open_string shut_string)

theorem own : ownKnob Try.prog.godebug = none := by kernel_rfl

theorem ret_bool {a b : Bool} (h : a = b) : Ending.returned (.bool a) = .returned (.bool b) := by rw [h]

theorem bytes_any (s : ByteArray) (hs : s.size ≤ maxLen) (w : World) : Calls Try.prog 16 #[.string s] w fun e w' => e = .returned (.bool (decide (s.size ≤ 1048576))) ∧ w = w' := by
  unfold maxLen at hs
  by_cases h : s.size ≤ 1048576
  · have hd : decide ((1048576 : Int) < (s.size : Int)) = false := by simp; omega
    have HD : Hid (decide (s.size ≤ 1048576) = true) := decide_eq_true h
    go_enter Try.func16, Try.ntmps16
    go_wp2
    go_ret
    exact ⟨ret_bool HD.out.symm, rfl⟩
  · have hd : (1048576 : Int) < (s.size : Int) := by omega
    have HD : Hid (decide (s.size ≤ 1048576) = false) := decide_eq_false h
    go_enter Try.func16, Try.ntmps16
    go_wp2
    go_ret
    exact ⟨ret_bool HD.out.symm, rfl⟩

set_option maxHeartbeats 400000 in
theorem walk (s : ByteArray) (hs : s.size ≤ maxLen) (w : World) :
    Calls Try.prog 6 #[.string s] w fun e w' => e = .returned (.bool true) ∧ Below w.heap.size w w' := by
  by_cases h : s.size ≤ 1048576
  case neg =>
    have HD : Hid (decide (s.size ≤ 1048576) = false) := decide_eq_false h
    go_enter Try.func6, Try.ntmps6
    go_wp2_with fail
    refine (bytes_any s hs w).mono ?_
    rintro e w1 ⟨rfl, rfl⟩
    rw [HD.out]
    go_wp2
    go_ret
    exact ⟨rfl, Below.refl _ _⟩
  have HD : Hid (decide (s.size ≤ 1048576) = true) := decide_eq_true h
  have HU : Hid (∀ w : World, Calls Try.prog 14 #[.string s] w fun e w' => e = .returned (.string (Uq.uq s)) ∧ Below w.heap.size w w') := Uq.unquote_any s (by omega)
  have HM : Hid (∀ w : World, Calls Try.prog 17 #[.string s] w fun e w' => e = .returned (.string (Uq.uq s)) ∧ Below w.heap.size w w') := Uq.model_any s (by omega)
  generalize Uq.uq s = r at HU HM
  go_enter Try.func6, Try.ntmps6
  go_wp2_with fail
  refine (bytes_any s hs w).mono ?_
  rintro e w1 ⟨rfl, rfl⟩
  rw [HD.out]
  go_wp2_with fail
  refine (HU.out w).mono ?_
  rintro e w1 ⟨rfl, hb1⟩
  go_wp2_with fail
  refine (HM.out w1).mono ?_
  rintro e w2 ⟨rfl, hb2⟩
  go_wp2
  go_ret
  exact ⟨ret_bool (by simp), hb1.trans (hb2.mono hb1.size)⟩

set_option maxRecDepth 100000 in
theorem lifted (os : Os) (started : os.Started) (H : Type) (enc : TypeId × Value → H) :
    ReturnsInHanded {} Try.checked os 6 .any (Rows.fnUnquoteLocalMatchesRunModelSpec.pre6 enc Try.prog Try.f6 Rows.fnUnquoteLocalMatchesRunModelRow.domain false) (Rows.fnUnquoteLocalMatchesRunModelSpec.post enc Try.prog Try.f6 false true false false) := by
  refine returnsInHanded_of_change (C := Try.checked) own started (by kernel_rfl) Try.func6
    (ChangeSpec.witness6 (enc := enc) (C := Try.checked) false ⟨#[], #[.string ByteArray.empty], []⟩ 8 (by kernel_rfl) (by kernel_rfl) (by kernel_rfl) (by kernel_rfl)) ?_
  intro W base args ds gs before hval0 hW hcnd _
  have hval : ∀ (j : Nat) t v, Try.f6.params[j]? = some t → args[j]? = some v → Value.okWide Try.prog W .any base t v := hval0
  have hW' := hW
  obtain ⟨p, q, hA0, hV, rfl, hfz, hnd⟩ := hW
  have hA : DataW.TrodAll enc Try.prog W 0 (fun _ => true) true Try.f6.params.toList args.toList ds p := hA0
  rw [Try.params6] at hA hval
  obtain ⟨v0, vs0, d0, ds0, p0, q0, hargs, rfl, rfl, h0, r0⟩ := trodAll_cons hA
  obtain ⟨rfl, rfl, rfl⟩ := trodAll_nil r0
  obtain rfl : args = #[v0] := by cases args; simp_all
  obtain ⟨rfl, rfl⟩ := trodVars_none hV
  obtain ⟨a0, rfl, rfl, rfl, w0⟩ := open_string Try.underlying9 (hval 0 9 v0 rfl rfl) h0
  clear hA0 hval0
  refine (walk a0 w0 W).mono fun e W' ⟨he, bel⟩ => ?_
  subst he
  exact ⟨_, rfl, _, _, _, [], _, [], hW', trodAll_mk1 (shut_bool Try.underlying4 _), (trodAll_cons_mk (shut_string Try.underlying9 w0) trodAll_mk0), rfl, bel.frame _, fun h => by cases h⟩

theorem over : Rows.fnUnquoteLocalMatchesRunModelRow.holds Try.pinned (OpenSpec.ofChange Rows.fnUnquoteLocalMatchesRunModelSpec) :=
  OpenClaim.holds_of_wide 6 Try.f6 rfl rfl rfl rfl rfl rfl rfl ⟨rfl, rfl, rfl, rfl, rfl⟩ rfl rfl rfl rfl rfl (by kernel_rfl) Try.func6 (by kernel_rfl)
    (of_decide_eq_true (by kernel_rfl)) (by unfold Func.isWrapper; first | (rw [if_pos (by decide +kernel)]; kernel_rfl) | (rw [if_neg (by decide +kernel)]; exact ⟨rfl, rfl⟩))
    (fun os started H enc _ => lifted os started H enc)

theorem proved : Rows.FnUnquoteLocalMatchesRunModelSaid := over
end Go.Proofs.Qxb6601905a.fnUnquoteLocalMatchesRunModel
