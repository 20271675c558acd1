/-
  FnQuoteLocalRoundTrip: the walk and the row.
-/
import Derived.Test.Qxb6601905aUqValid
import Derived.ProofKit
import Derived.OpenShut
import Derived.ShutString
import Derived.ChangeOld
namespace Go.Proofs.Qxb6601905a.fnQuoteLocalRoundTrip
open Go.ChangeShapes Go.WideShapes Go.ChangeAt Go.RowKit
open Go.ChangeMaps (open_string shut_string)

theorem own : ownKnob Try.prog.godebug = none := by kernel_rfl

theorem ret_bool {a b : Bool} (h : a = b) : Ending.returned (.bool a) = .returned (.bool b) := by rw [h]

theorem bytes_any (s : ByteArray) (hs : s.size ≤ maxLen) (w : World) : Calls Try.prog 11 #[.string s] w fun e w' => e = .returned (.bool (decide (s.size ≤ 1048576))) ∧ w = w' := by
  unfold maxLen at hs
  by_cases h : s.size ≤ 1048576
  · have hd : decide ((1048576 : Int) < (s.size : Int)) = false := by simp; omega
    have HD : Hid (decide (s.size ≤ 1048576) = true) := decide_eq_true h
    go_enter Try.func11, Try.ntmps11
    go_wp2
    go_ret
    exact ⟨ret_bool HD.out.symm, rfl⟩
  · have hd : (1048576 : Int) < (s.size : Int) := by omega
    have HD : Hid (decide (s.size ≤ 1048576) = false) := decide_eq_false h
    go_enter Try.func11, Try.ntmps11
    go_wp2
    go_ret
    exact ⟨ret_bool HD.out.symm, rfl⟩

/-- Unquoting the canonical quoting gives the text back. -/
theorem uq_quoted (v : ByteArray) : Uq.uq (Uq.mk (Uq.quoted (Uq.bs v))) = v := by
  have hb := Uq.bs_mk (Uq.quoted (Uq.bs v))
  have hs : (Uq.mk (Uq.quoted (Uq.bs v))).size = (Uq.quo (Uq.bs v)).length + 2 := by rw [Uq.mk_size, Uq.quoted_length]
  have hbody := Uq.body_quoted (q := Uq.mk (Uq.quoted (Uq.bs v))) (v := v) hb
  unfold Uq.uq
  rw [if_neg (by
    rw [hb]
    intro h
    rcases h with h | h
    · omega
    · exact h rfl), hbody, Uq.unq_quo, Uq.mk_bs]

set_option maxHeartbeats 400000 in
theorem walk (s : ByteArray) (hs : s.size ≤ maxLen) (w : World) :
    Calls Try.prog 4 #[.string s] w fun e w' => e = .returned (.bool true) ∧ Below w.heap.size w w' := by
  by_cases h : s.size ≤ 1048576
  case neg =>
    have HD : Hid (decide (s.size ≤ 1048576) = false) := decide_eq_false h
    go_enter Try.func4, Try.ntmps4
    go_wp2_with fail
    refine (bytes_any s hs w).mono ?_
    rintro e w1 ⟨rfl, rfl⟩
    rw [HD.out]
    go_wp2
    go_ret
    exact ⟨rfl, Below.refl _ _⟩
  have HD : Hid (decide (s.size ≤ 1048576) = true) := decide_eq_true h
  by_cases h19 : s.size ≤ 524288
  case neg =>
    have hd : (524288 : Int) < (s.size : Int) := by omega
    go_enter Try.func4, Try.ntmps4
    go_wp2_with fail
    refine (bytes_any s hs w).mono ?_
    rintro e w1 ⟨rfl, rfl⟩
    rw [HD.out]
    go_wp2
    go_ret
    exact ⟨rfl, Below.refl _ _⟩
  have hqs : (Uq.mk (Uq.quoted (Uq.bs s))).size ≤ 4000000 := by
    have h1 := Uq.quo_length (Uq.bs s)
    rw [Uq.bs_length] at h1
    rw [Uq.mk_size, Uq.quoted_length]
    omega
  have HQ : Hid (∀ w : World, Calls Try.prog 12 #[.string s] w fun e w' => e = .returned (.string (Uq.mk (Uq.quoted (Uq.bs s)))) ∧ Below w.heap.size w w') := Uq.quote_any s (by omega)
  have HV : Hid (∀ w : World, Calls Try.prog 9 #[.string (Uq.mk (Uq.quoted (Uq.bs s)))] w fun e w' => e = .returned (.bool (Uq.allP (Uq.bs s))) ∧ w = w') := Uq.zzvalid_any _ s (Uq.bs_mk _) (by omega)
  have HP : Hid (∀ w : World, Calls Try.prog 13 #[.string s] w fun e w' => e = .returned (.bool (Uq.allP (Uq.bs s))) ∧ w = w') := Uq.allPrint_any s (by omega)
  have HU : Hid (∀ w : World, Calls Try.prog 14 #[.string (Uq.mk (Uq.quoted (Uq.bs s)))] w fun e w' => e = .returned (.string (Uq.uq (Uq.mk (Uq.quoted (Uq.bs s))))) ∧ Below w.heap.size w w') := Uq.unquote_any _ hqs
  rw [uq_quoted] at HU
  clear hqs
  generalize Uq.mk (Uq.quoted (Uq.bs s)) = q at HQ HV HU
  generalize Uq.allP (Uq.bs s) = p at HV HP
  go_enter Try.func4, Try.ntmps4
  go_wp2_with fail
  refine (bytes_any s hs w).mono ?_
  rintro e w1 ⟨rfl, rfl⟩
  rw [HD.out]
  go_wp2_with fail
  refine (HQ.out w).mono ?_
  rintro e w1 ⟨rfl, hb1⟩
  go_wp2_with fail
  refine (HV.out w1).mono ?_
  rintro e w2 ⟨rfl, rfl⟩
  go_wp2_with fail
  refine (HP.out w1).mono ?_
  rintro e w2 ⟨rfl, rfl⟩
  go_wp2_with fail
  refine (HU.out w1).mono ?_
  rintro e w2 ⟨rfl, hb2⟩
  go_wp2
  go_ret
  exact ⟨ret_bool (by simp), hb1.trans (hb2.mono hb1.size)⟩

set_option maxRecDepth 100000 in
theorem lifted (os : Os) (started : os.Started) (H : Type) (enc : TypeId × Value → H) :
    ReturnsInHanded {} Try.checked os 4 .any (Rows.fnQuoteLocalRoundTripSpec.pre6 enc Try.prog Try.f4 Rows.fnQuoteLocalRoundTripRow.domain false) (Rows.fnQuoteLocalRoundTripSpec.post enc Try.prog Try.f4 false true false false) := by
  refine returnsInHanded_of_change (C := Try.checked) own started (by kernel_rfl) Try.func4
    (ChangeSpec.witness6 (enc := enc) (C := Try.checked) false ⟨#[], #[.string ByteArray.empty], []⟩ 8 (by kernel_rfl) (by kernel_rfl) (by kernel_rfl) (by kernel_rfl)) ?_
  intro W base args ds gs before hval0 hW hcnd _
  have hval : ∀ (j : Nat) t v, Try.f4.params[j]? = some t → args[j]? = some v → Value.okWide Try.prog W .any base t v := hval0
  have hW' := hW
  obtain ⟨p, q, hA0, hV, rfl, hfz, hnd⟩ := hW
  have hA : DataW.TrodAll enc Try.prog W 0 (fun _ => true) true Try.f4.params.toList args.toList ds p := hA0
  rw [Try.params4] at hA hval
  obtain ⟨v0, vs0, d0, ds0, p0, q0, hargs, rfl, rfl, h0, r0⟩ := trodAll_cons hA
  obtain ⟨rfl, rfl, rfl⟩ := trodAll_nil r0
  obtain rfl : args = #[v0] := by cases args; simp_all
  obtain ⟨rfl, rfl⟩ := trodVars_none hV
  obtain ⟨a0, rfl, rfl, rfl, w0⟩ := open_string Try.underlying9 (hval 0 9 v0 rfl rfl) h0
  clear hA0 hval0
  refine (walk a0 w0 W).mono fun e W' ⟨he, bel⟩ => ?_
  subst he
  exact ⟨_, rfl, _, _, _, [], _, [], hW', trodAll_mk1 (shut_bool Try.underlying4 _), (trodAll_cons_mk (shut_string Try.underlying9 w0) trodAll_mk0), rfl, bel.frame _, fun h => by cases h⟩

theorem over : Rows.fnQuoteLocalRoundTripRow.holds Try.pinned (OpenSpec.ofChange Rows.fnQuoteLocalRoundTripSpec) :=
  OpenClaim.holds_of_wide 4 Try.f4 rfl rfl rfl rfl rfl rfl rfl ⟨rfl, rfl, rfl, rfl, rfl⟩ rfl rfl rfl rfl rfl (by kernel_rfl) Try.func4 (by kernel_rfl)
    (of_decide_eq_true (by kernel_rfl)) (by unfold Func.isWrapper; first | (rw [if_pos (by decide +kernel)]; kernel_rfl) | (rw [if_neg (by decide +kernel)]; exact ⟨rfl, rfl⟩))
    (fun os started H enc _ => lifted os started H enc)

theorem proved : Rows.FnQuoteLocalRoundTripSaid := over
end Go.Proofs.Qxb6601905a.fnQuoteLocalRoundTrip
