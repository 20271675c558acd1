/-
  FnKeySetAddFromFewState: the row over the walk.
-/
import Derived.Test.Qxb6603124aKsFew
import Derived.ProofKit
import Derived.OpenShut
import Derived.ShutString
import Derived.ChangeOld
import Derived.Below
namespace Go.Proofs.Qxb6603124a.fnKeySetAddFromFewState
open Go.ChangeShapes Go.WideShapes Go.ChangeAt Go.RowKit
open Go.ChangeMaps (open_string shut_string)

theorem own : ownKnob Try.prog.godebug = none := by kernel_rfl
theorem laidOut : laidOutB Try.prog = true := by kernel_rfl
theorem cells9 : Try.prog.cellsOf 9 = 1 := by kernel_rfl
theorem cells31 : Try.prog.cellsOf 31 = 8 := by kernel_rfl

/-- Cells that are strings, one by one, are the strings of a list. -/
theorem strs_of : ∀ (cs : List Value), (∀ (i : Nat), i < cs.length → ∃ s : ByteArray, cs[i]? = some (.string s) ∧ s.size ≤ maxLen) → ∃ few : List ByteArray, cs = few.map Value.string ∧ ∀ x ∈ few, x.size ≤ maxLen
  | [], _ => ⟨[], rfl, fun _ h => by cases h⟩
  | c :: r, h => by
    obtain ⟨few, hr, hs⟩ := strs_of r (fun i hi => by simpa using h (i + 1) (by simpa using hi))
    obtain ⟨s, h0, hl⟩ := h 0 (by simp)
    simp at h0
    subst h0
    refine ⟨s :: few, by simp [hr], fun x hx => ?_⟩
    rcases List.mem_cons.1 hx with h | h
    · rw [h]; exact hl
    · exact hs x h

theorem open_few {H : Type} {enc : TypeId × Value → H} {W : World} {r : Reach} {b0 base : Nat} {spare : Nat → Bool} {held : Bool} {v : Value} {d : DataW H} {p : List MemPlace}
    (hv : Value.okWide Try.prog W r b0 31 v) (h : DataW.Trod enc Try.prog W base spare held 31 v d p) : ∃ few : List ByteArray, v = .agg (few.map Value.string).toArray ∧ few.length = 8 ∧ ∀ x ∈ few, x.size ≤ maxLen := by
  unfold Value.okWide at hv
  rw [Try.underlying31] at hv
  obtain ⟨cs, rfl, hsz, _⟩ := hv
  rw [cells31] at hsz
  obtain ⟨fuel, hf⟩ := h
  obtain ⟨xs, m, _, _, _, hl, hc⟩ := DataW.trod_array Try.underlying31 hf
  obtain ⟨few, hfe, hs⟩ := strs_of cs.toList (fun i hi => by
    have hi8 : i < 8 := by simpa [hsz] using hi
    have ht := hc i hi8
    rw [cells9, List.getElem?_eq_getElem (by omega)] at ht
    obtain ⟨s, he, _, hl⟩ := DataW.trod_string Try.underlying9 ht
    refine ⟨s, ?_, hl⟩
    have := congrArg (fun l => l[0]?) he
    simpa [Value.cells, List.getElem?_take, List.getElem?_drop] using this)
  have hcs : cs = (few.map Value.string).toArray := by rw [← hfe]
  refine ⟨few, by rw [hcs], ?_, hs⟩
  have : (few.map Value.string).length = 8 := by rw [← hfe]; simpa using hsz
  simpa using this

set_option maxRecDepth 100000 in
theorem lifted (os : Os) (started : os.Started) (H : Type) (enc : TypeId × Value → H) :
    ReturnsInHanded {} Try.checked os 7 .any (Rows.fnKeySetAddFromFewStateSpec.pre6 enc Try.prog Try.f7 Rows.fnKeySetAddFromFewStateRow.domain false) (Rows.fnKeySetAddFromFewStateSpec.post enc Try.prog Try.f7 false true false false) := by
  refine returnsInHanded_of_change (C := Try.checked) own started (by kernel_rfl) Try.func7
    (ChangeSpec.witness6 (enc := enc) (C := Try.checked) false ⟨#[], #[.agg #[.string ByteArray.empty, .string ByteArray.empty, .string ByteArray.empty, .string ByteArray.empty, .string ByteArray.empty, .string ByteArray.empty, .string ByteArray.empty, .string ByteArray.empty], .int .i64 0, .string ByteArray.empty], []⟩ 8 (by kernel_rfl) (by kernel_rfl) (by kernel_rfl) (by kernel_rfl)) ?_
  intro W base args ds gs before hval0 hW hcnd _
  have hval : ∀ (j : Nat) t v, Try.f7.params[j]? = some t → args[j]? = some v → Value.okWide Try.prog W .any base t v := hval0
  have hW' := hW
  obtain ⟨p, q, hA0, hV, rfl, hfz, hnd⟩ := hW
  have hA : DataW.TrodAll enc Try.prog W 0 (fun _ => true) true Try.f7.params.toList args.toList ds p := hA0
  rw [Try.params7] at hA hval
  obtain ⟨v0, vs0, d0, ds0, p0, q0, hargs, rfl, rfl, h0, r0⟩ := trodAll_cons hA
  obtain ⟨v1, vs1, d1, ds1, p1, q1, rfl, rfl, rfl, h1, r1⟩ := trodAll_cons r0
  obtain ⟨v2, vs2, d2, ds2, p2, q2, rfl, rfl, rfl, h2, r2⟩ := trodAll_cons r1
  obtain ⟨rfl, rfl, rfl⟩ := trodAll_nil r2
  obtain rfl : args = #[v0, v1, v2] := by cases args; simp_all
  obtain ⟨rfl, rfl⟩ := trodVars_none hV
  have k0 := h0
  have lt0 : ∀ x ∈ p0, x.block < W.heap.size := by obtain ⟨m, hm⟩ := k0; exact DataW.trod_lt m _ _ _ hm
  obtain ⟨few, rfl, hf, hs⟩ := open_few (hval 0 31 v0 rfl rfl) h0
  obtain ⟨a1, rfl, rfl, rfl, w1⟩ := open_int Try.underlying3 (hval 1 3 v1 rfl rfl) h1
  obtain ⟨a2, rfl, rfl, rfl, w2⟩ := open_string Try.underlying9 (hval 2 9 v2 rfl rfl) h2
  clear hA0 hval0
  refine (Ks.few_law few hf hs a1 a2 w2 W).mono fun e W' ⟨he, bel⟩ => ?_
  subst he
  exact ⟨_, rfl, _, _, _, [], _, [], hW', trodAll_mk1 (shut_bool Try.underlying4 _), (trodAll_cons_mk (Below.trod laidOut (by kernel_rfl) (of_decide_eq_true (by kernel_rfl)) k0 bel lt0) (trodAll_cons_mk (shut_int Try.underlying3 w1) (trodAll_cons_mk (shut_string Try.underlying9 w2) trodAll_mk0))), rfl, bel.frame _, fun h => by cases h⟩

theorem over : Rows.fnKeySetAddFromFewStateRow.holds Try.pinned (OpenSpec.ofChange Rows.fnKeySetAddFromFewStateSpec) :=
  OpenClaim.holds_of_wide 7 Try.f7 rfl rfl rfl rfl rfl rfl rfl ⟨rfl, rfl, rfl, rfl, rfl⟩ rfl rfl rfl rfl rfl (by kernel_rfl) Try.func7 (by kernel_rfl)
    (of_decide_eq_true (by kernel_rfl)) (by unfold Func.isWrapper; first | (rw [if_pos (by decide +kernel)]; kernel_rfl) | (rw [if_neg (by decide +kernel)]; exact ⟨rfl, rfl⟩))
    (fun os started H enc _ => lifted os started H enc)

theorem proved : Rows.FnKeySetAddFromFewStateSaid := over
end Go.Proofs.Qxb6603124a.fnKeySetAddFromFewState
