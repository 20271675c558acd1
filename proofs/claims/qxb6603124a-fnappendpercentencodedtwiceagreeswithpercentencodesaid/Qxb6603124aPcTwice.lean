/-
  FnAppendPercentEncodedTwiceAgreesWithPercentEncode: the walk.
-/
import Derived.Test.Qxb6603124aPcClone
import Derived.Deep.RegionWith
namespace Go.Proofs.Qxb6603124a.Pc
open Go.RowKit

set_option maxHeartbeats 400000 in
theorem bytesTwice_any (a : Option Addr) (n cap : Nat) (s1 s2 : ByteArray) (w : World) :
    Calls Try.prog 17 #[.slice a n cap, .string s1, .string s2] w fun e w' => ABool e ∧ w = w' := by
  go_enter Try.func17, Try.ntmps17
  go_wp2
  all_goals
    go_ret
    exact ⟨.mk rfl, rfl⟩

theorem mk_append (a b : List UInt8) : mk a ++ mk b = mk (a ++ b) := by
  unfold mk; rw [ByteArray.mk_append_mk]

theorem add_mk (a b : List UInt8) (h : a.length + b.length ≤ 100000000) (W : World) : (Op.stringOp .add (mk a) (mk b)).run Try.prog W = .ok (.string (mk (a ++ b))) W := by
  rw [run_string_add_sum W _ _ (by rw [mk_size, mk_size]; omega), mk_append]

/-- What the last statement leans on: the two slices hold their bytes, nothing old has turned. -/
def Good (w0 : World) (v : Value) (L : List UInt8) (u : Value) (l : List UInt8) (W : World) : Prop := Buf W 0 v L ∧ Buf W 0 u l ∧ Below w0.heap.size w0 W
theorem Good.step {w0 : World} {v u : Value} {L l : List UInt8} {W W' : World} (hb : Below W.heap.size W W') (h : Good w0 v L u l W) : Good w0 v L u l W' :=
  ⟨h.1.later hb, h.2.1.later hb, h.2.2.trans (hb.mono h.2.2.size)⟩
theorem Good.conv1 {w0 : World} {v u : Value} {L l : List UInt8} {W : World} (h : Good w0 v L u l W) : (convert 25 9 v).run Try.prog W = .ok (.string (mk L)) W := conv_buf h.1
theorem Good.conv2 {w0 : World} {v u : Value} {L l : List UInt8} {W : World} (h : Good w0 v L u l W) : (convert 25 9 u).run Try.prog W = .ok (.string (mk l)) W := conv_buf h.2.1
theorem Good.below {w0 : World} {v u : Value} {L l : List UInt8} {W : World} (h : Good w0 v L u l W) : Below w0.heap.size w0 W := h.2.2
theorem Buf.low {w : World} {B B' : Nat} {v : Value} {l : List UInt8} (h : Buf w B v l) (hB : B' ≤ B) : Buf w B' v l := by
  rcases h with h | ⟨g, cap, hv, hB2, r⟩
  · exact .inl h
  · exact .inr ⟨g, cap, hv, by omega, r⟩

set_option maxHeartbeats 800000 in
theorem twice_law (a : Option Addr) (cap : Nat) (l : List UInt8) (s1 s2 : ByteArray) (w : World) (h : Came w a l) (hlm : l.length ≤ maxLen) (h1m : s1.size ≤ maxLen) (h2m : s2.size ≤ maxLen) :
    Calls Try.prog 6 #[.slice a l.length cap, .string s1, .string s2] w fun e w' => e = .returned (.bool true) ∧ Below w.heap.size w w' := by
  unfold maxLen at hlm h1m h2m
  go_enter Try.func6, Try.ntmps6
  go_wp2_with fail
  refine (bytesTwice_any a l.length cap s1 s2 w).mono ?_
  rintro e w1 ⟨⟨r, rfl⟩, rfl⟩
  cases r
  · go_wp2
    go_ret
    exact ⟨rfl, Below.refl _ _⟩
  by_cases g1 : l.length ≤ 1048576
  case neg =>
    have hd : (1048576 : Int) < (l.length : Int) := by omega
    generalize l.length = n at *
    go_wp2
    go_ret
    exact ⟨rfl, Below.refl _ _⟩
  by_cases g2 : l.length + s1.size ≤ 1048576
  case neg =>
    have hd : (1048576 : Int) - (l.length : Int) < (s1.size : Int) := by omega
    generalize l.length = n at *
    go_wp2
    go_ret
    exact ⟨rfl, Below.refl _ _⟩
  by_cases g3 : l.length + s1.size + s2.size ≤ 1048576
  case neg =>
    have hd : (1048576 : Int) - (l.length : Int) - (s1.size : Int) < (s2.size : Int) := by omega
    generalize l.length = n at *
    go_wp2
    go_ret
    exact ⟨rfl, Below.refl _ _⟩
  have hs1 : s1.size ≤ 1048576 := by omega
  have hs2 : s2.size ≤ 1048576 := by omega
  have e1 := enc_length (bs s1)
  have e2 := enc_length (bs s2)
  rw [bs_length] at e1 e2
  go_wp2_with fail
  refine (clone_any w a l cap h (by omega)).mono ?_
  rintro e w1 ⟨v1, rfl, hb1, hbel1⟩
  go_wp2_with fail
  refine (room_any w1 a l cap (h.later hbel1) (by omega) _ (by omega) (by omega)).mono ?_
  rintro e w2 ⟨v2, rfl, hb2, hbel2⟩
  clear h
  go_wp2_with fail
  refine (zzapp_any w1.heap.size v2 l s1 w2 hb2 hbel2.size hs1 (by omega)).mono ?_
  rintro e w3 ⟨v3, rfl, hb3, hbel3⟩
  go_wp2_with fail
  refine (zzapp_any w1.heap.size v3 (l ++ enc (bs s1)) s2 w3 hb3 (Nat.le_trans hbel2.size hbel3.size) hs2 (by rw [List.length_append]; omega)).mono ?_
  rintro e w4 ⟨v4, rfl, hb4, hbel4⟩
  have hB : Below w1.heap.size w1 w4 := (hbel2.trans hbel3).trans hbel4
  have hg : Good w v4 (l ++ enc (bs s1) ++ enc (bs s2)) v1 l w4.drew := ⟨(hb4.low (Nat.zero_le _)), ((hb1.later hB).low (Nat.zero_le _)), (hbel1.trans (hB.mono hbel1.size)).drew⟩
  have hc1 := hg.conv1
  have hc2 := hg.conv2
  have a1 := add_mk l (enc (bs s1)) (by omega)
  have a2 := add_mk (l ++ enc (bs s1)) (enc (bs s2)) (by rw [List.length_append]; omega)
  clear hb1 hb2 hb3 hb4 hbel1 hbel2 hbel3 hbel4 hB e1 e2
  go_wp2
  go_region_with (go_at_call 11; refine (enc_any _ _ (by assumption)).mono ?_; rintro e w5 ⟨rfl, hb5⟩; have hg5 := Good.step hb5 (by assumption); have c5 := hg5.conv1; have d5 := hg5.conv2; clear hb5)
  all_goals go_wp2
  all_goals
    go_ret
    refine ⟨?_, Good.below (v := v4) (u := v1) (L := l ++ enc (bs s1) ++ enc (bs s2)) (l := l) ?_⟩
    · rfl
    · assumption
end Go.Proofs.Qxb6603124a.Pc
