import Derived.Test.Qxb6621667aRows
import Derived.WalkKit
import Derived.ProofKit
import Derived.OpenShut
import Derived.ShutString
import Derived.Test.Qxb6621667aSg
namespace Go.Proofs.Qxb6621667a.fnQuantitySignIsTheSignOfItsAmount
open Go.ChangeShapes Go.WideShapes Go.ChangeAt Go.RowKit
open Go.ChangeMaps (open_string shut_string)
set_option linter.unusedVariables false      -- a walk need not use every 'w<i>' (that an integer argument fits its kind)

theorem own : ownKnob Try.prog.godebug = none := by kernel_rfl

open Go.Proofs.Qxb6621667a.Wk

theorem zz_big (s : ByteArray) (m : Int) (r : Bool) (hs : s.size ≤ maxLen) (h : 1048576 < s.size) (w : World) :
    Calls Try.prog 11 #[.string s, .int .i64 m, .bool r] w fun e w' => e = .returned (.bool false) ∧ w' = w := by
  unfold maxLen at hs
  go_enter Try.func11, Try.ntmps11
  go_wp2
  go_ret
  exact ⟨rfl, rfl⟩
theorem zz_ok (s : ByteArray) (m : Int) (r : Bool) (h : s.size ≤ 1048576) (w : World) :
    Calls Try.prog 11 #[.string s, .int .i64 m, .bool r] w fun e w' => e = .returned (.bool true) ∧ w' = w := by
  go_enter Try.func11, Try.ntmps11
  go_wp2
  go_ret
  exact ⟨rfl, rfl⟩

theorem step {w a b : World} (h : Below w.heap.size w a) (k : Below a.heap.size a b) : Below w.heap.size w b := h.trans (k.mono h.size)

set_option maxHeartbeats 1000000 in
theorem neg_exact (s : ByteArray) (m : Int) (hs : s.size ≤ 65536) (h : m < 0) (hlo : -9223372036854775808 < m) (w : World) :
    Calls Try.prog 5 #[.string s, .int .i64 m, .bool false] w fun e w' => e = .returned (.bool true) ∧ Below w.heap.size w w' := by
  have e1 := sg_neg m false h
  have e2 := sg_pos (-m) false (by omega)
  have HB := Below.refl w.heap.size w
  go_enter Try.func5, Try.ntmps5
  go_wp2_with (first | (go_at_call 11; refine (zz_ok _ _ _ (by omega) _).mono ?_; rintro e wn ⟨rfl, rfl⟩) | (go_at_call 12; refine (quantity_any _ _ _ _).mono ?_; rintro e wn ⟨rfl, hb⟩; replace HB := step HB hb; clear hb) | (go_at_call 13; refine (sign_any _ _ _ _).mono ?_; rintro e wn ⟨rfl, hb⟩; replace HB := step HB hb; clear hb))
  all_goals (go_ret; exact ⟨rfl, HB⟩)

set_option maxHeartbeats 1000000 in
theorem neg_round (s : ByteArray) (m : Int) (hs : s.size ≤ 65536) (h : m < 0) (hlo : -9223372036854775808 < m) (w : World) :
    Calls Try.prog 5 #[.string s, .int .i64 m, .bool true] w fun e w' => e = .returned (.bool true) ∧ Below w.heap.size w w' := by
  have e0 := sg_neg m true h
  have e1 := sg_neg m false h
  have e2 := sg_pos (-m) false (by omega)
  have e3 := sg_neg (m - 1) false (by omega)
  have HB := Below.refl w.heap.size w
  go_enter Try.func5, Try.ntmps5
  go_wp2_with (first | (go_at_call 11; refine (zz_ok _ _ _ (by omega) _).mono ?_; rintro e wn ⟨rfl, rfl⟩) | (go_at_call 12; refine (quantity_any _ _ _ _).mono ?_; rintro e wn ⟨rfl, hb⟩; replace HB := step HB hb; clear hb) | (go_at_call 13; refine (sign_any _ _ _ _).mono ?_; rintro e wn ⟨rfl, hb⟩; replace HB := step HB hb; clear hb))
  all_goals (go_ret; exact ⟨rfl, HB⟩)

set_option maxHeartbeats 1000000 in
theorem least_exact (s : ByteArray) (m : Int) (hs : s.size ≤ 65536) (h : m ≤ -9223372036854775808) (hlo : -9223372036854775808 ≤ m) (w : World) :
    Calls Try.prog 5 #[.string s, .int .i64 m, .bool false] w fun e w' => e = .returned (.bool true) ∧ Below w.heap.size w w' := by
  have e1 := sg_neg m false (by omega)
  have HB := Below.refl w.heap.size w
  go_enter Try.func5, Try.ntmps5
  go_wp2_with (first | (go_at_call 11; refine (zz_ok _ _ _ (by omega) _).mono ?_; rintro e wn ⟨rfl, rfl⟩) | (go_at_call 12; refine (quantity_any _ _ _ _).mono ?_; rintro e wn ⟨rfl, hb⟩; replace HB := step HB hb; clear hb) | (go_at_call 13; refine (sign_any _ _ _ _).mono ?_; rintro e wn ⟨rfl, hb⟩; replace HB := step HB hb; clear hb))
  all_goals (go_ret; exact ⟨rfl, HB⟩)

set_option maxHeartbeats 1000000 in
theorem least_round (s : ByteArray) (m : Int) (hs : s.size ≤ 65536) (h : m ≤ -9223372036854775808) (hlo : -9223372036854775808 ≤ m) (w : World) :
    Calls Try.prog 5 #[.string s, .int .i64 m, .bool true] w fun e w' => e = .returned (.bool true) ∧ Below w.heap.size w w' := by
  have e0 := sg_neg m true (by omega)
  have e1 := sg_neg m false (by omega)
  have HB := Below.refl w.heap.size w
  go_enter Try.func5, Try.ntmps5
  go_wp2_with (first | (go_at_call 11; refine (zz_ok _ _ _ (by omega) _).mono ?_; rintro e wn ⟨rfl, rfl⟩) | (go_at_call 12; refine (quantity_any _ _ _ _).mono ?_; rintro e wn ⟨rfl, hb⟩; replace HB := step HB hb; clear hb) | (go_at_call 13; refine (sign_any _ _ _ _).mono ?_; rintro e wn ⟨rfl, hb⟩; replace HB := step HB hb; clear hb))
  all_goals (go_ret; exact ⟨rfl, HB⟩)

set_option maxHeartbeats 1000000 in
theorem zero_exact (s : ByteArray) (hs : s.size ≤ 65536) (w : World) :
    Calls Try.prog 5 #[.string s, .int .i64 0, .bool false] w fun e w' => e = .returned (.bool true) ∧ Below w.heap.size w w' := by
  have e1 := sg_zero
  have HB := Below.refl w.heap.size w
  go_enter Try.func5, Try.ntmps5
  go_wp2_with (first | (go_at_call 11; refine (zz_ok _ _ _ (by omega) _).mono ?_; rintro e wn ⟨rfl, rfl⟩) | (go_at_call 12; refine (quantity_any _ _ _ _).mono ?_; rintro e wn ⟨rfl, hb⟩; replace HB := step HB hb; clear hb) | (go_at_call 13; refine (sign_any _ _ _ _).mono ?_; rintro e wn ⟨rfl, hb⟩; replace HB := step HB hb; clear hb))
  all_goals (go_ret; exact ⟨rfl, HB⟩)

set_option maxHeartbeats 1000000 in
theorem zero_round (s : ByteArray) (hs : s.size ≤ 65536) (w : World) :
    Calls Try.prog 5 #[.string s, .int .i64 0, .bool true] w fun e w' => e = .returned (.bool true) ∧ Below w.heap.size w w' := by
  have e0 := sg_round
  have e1 := sg_zero
  have e3 := sg_neg (-1) false (by omega)
  have HB := Below.refl w.heap.size w
  go_enter Try.func5, Try.ntmps5
  go_wp2_with (first | (go_at_call 11; refine (zz_ok _ _ _ (by omega) _).mono ?_; rintro e wn ⟨rfl, rfl⟩) | (go_at_call 12; refine (quantity_any _ _ _ _).mono ?_; rintro e wn ⟨rfl, hb⟩; replace HB := step HB hb; clear hb) | (go_at_call 13; refine (sign_any _ _ _ _).mono ?_; rintro e wn ⟨rfl, hb⟩; replace HB := step HB hb; clear hb))
  all_goals (go_ret; exact ⟨rfl, HB⟩)

set_option maxHeartbeats 1000000 in
theorem pos_exact (s : ByteArray) (m : Int) (hs : s.size ≤ 65536) (h : 0 < m) (hhi : m ≤ 9223372036854775807) (w : World) :
    Calls Try.prog 5 #[.string s, .int .i64 m, .bool false] w fun e w' => e = .returned (.bool true) ∧ Below w.heap.size w w' := by
  have e1 := sg_pos m false h
  have e2 := sg_neg (-m) false (by omega)
  have HB := Below.refl w.heap.size w
  go_enter Try.func5, Try.ntmps5
  go_wp2_with (first | (go_at_call 11; refine (zz_ok _ _ _ (by omega) _).mono ?_; rintro e wn ⟨rfl, rfl⟩) | (go_at_call 12; refine (quantity_any _ _ _ _).mono ?_; rintro e wn ⟨rfl, hb⟩; replace HB := step HB hb; clear hb) | (go_at_call 13; refine (sign_any _ _ _ _).mono ?_; rintro e wn ⟨rfl, hb⟩; replace HB := step HB hb; clear hb))
  all_goals (go_ret; exact ⟨rfl, HB⟩)

set_option maxHeartbeats 1000000 in
theorem pos_round (s : ByteArray) (m : Int) (hs : s.size ≤ 65536) (h : 0 < m) (hhi : m ≤ 9223372036854775807) (w : World) :
    Calls Try.prog 5 #[.string s, .int .i64 m, .bool true] w fun e w' => e = .returned (.bool true) ∧ Below w.heap.size w w' := by
  have e0 := sg_pos m true h
  have e1 := sg_pos m false h
  have e2 := sg_neg (-m) false (by omega)
  have e3 := sg_le (m - 1) false
  have HB := Below.refl w.heap.size w
  go_enter Try.func5, Try.ntmps5
  go_wp2_with (first | (go_at_call 11; refine (zz_ok _ _ _ (by omega) _).mono ?_; rintro e wn ⟨rfl, rfl⟩) | (go_at_call 12; refine (quantity_any _ _ _ _).mono ?_; rintro e wn ⟨rfl, hb⟩; replace HB := step HB hb; clear hb) | (go_at_call 13; refine (sign_any _ _ _ _).mono ?_; rintro e wn ⟨rfl, hb⟩; replace HB := step HB hb; clear hb))
  all_goals (go_ret; exact ⟨rfl, HB⟩)

theorem walk (a0 : ByteArray) (a1 : Int) (a2 : Bool) (w0 : a0.size ≤ maxLen) (w1 : (Lit.int .i64 a1).wf = true) (w : World) :
    Calls Try.prog 5 #[.string a0, .int .i64 a1, .bool a2] w fun e w' => e = .returned (.bool true) ∧ Below w.heap.size w w' := by
  have b1 := bounds_i64 w1
  have hs := w0
  unfold maxLen at hs
  by_cases h1 : 1048576 < a0.size
  · go_enter Try.func5, Try.ntmps5
    go_wp2_with (go_at_call 11; refine (zz_big _ _ _ w0 h1 _).mono ?_; rintro e wn ⟨rfl, rfl⟩)
    go_ret
    exact ⟨rfl, Below.refl _ _⟩
  by_cases h2 : 65536 < a0.size
  · go_enter Try.func5, Try.ntmps5
    go_wp2_with (go_at_call 11; refine (zz_ok _ _ _ (by omega) _).mono ?_; rintro e wn ⟨rfl, rfl⟩)
    go_ret
    exact ⟨rfl, Below.refl _ _⟩
  have h3 : a0.size ≤ 65536 := by omega
  by_cases hn : a1 < 0
  · by_cases hl : -9223372036854775808 < a1
    · cases a2
      · exact neg_exact a0 a1 h3 hn hl w
      · exact neg_round a0 a1 h3 hn hl w
    · cases a2
      · exact least_exact a0 a1 h3 (by omega) b1.1 w
      · exact least_round a0 a1 h3 (by omega) b1.1 w
  · by_cases hp : 0 < a1
    · cases a2
      · exact pos_exact a0 a1 h3 hp b1.2 w
      · exact pos_round a0 a1 h3 hp b1.2 w
    · obtain rfl : a1 = 0 := by omega
      cases a2
      · exact zero_exact a0 h3 w
      · exact zero_round a0 h3 w

/-! ### THE ROW's STEP: WRITTEN OUT: LEAVE IT -/
set_option maxRecDepth 100000 in
theorem lifted (os : Os) (started : os.Started) (H : Type) (enc : TypeId × Value → H) :
    ReturnsInHanded {} Try.checked os 5 .any (Rows.fnQuantitySignIsTheSignOfItsAmountSpec.pre6 enc Try.prog Try.f5 Rows.fnQuantitySignIsTheSignOfItsAmountRow.domain false) (Rows.fnQuantitySignIsTheSignOfItsAmountSpec.post enc Try.prog Try.f5 false true false false) := by
  refine returnsInHanded_of_change (C := Try.checked) own started (by kernel_rfl) Try.func5
    (ChangeSpec.witness6 (enc := enc) (C := Try.checked) false ⟨#[], #[.string ByteArray.empty, .int .i64 0, .bool false], []⟩ 8 (by kernel_rfl) (by kernel_rfl) (by kernel_rfl) (by kernel_rfl)) ?_
  intro W base args ds gs before hval0 hW hcnd _
  have hval : ∀ (j : Nat) t v, Try.f5.params[j]? = some t → args[j]? = some v → Value.okWide Try.prog W .any base t v := hval0
  have hW' := hW
  obtain ⟨p, q, hA0, hV, rfl, hfz, hnd⟩ := hW
  have hA : DataW.TrodAll enc Try.prog W 0 (fun _ => true) true Try.f5.params.toList args.toList ds p := hA0
  rw [Try.params5] at hA hval
  obtain ⟨v0, vs0, d0, ds0, p0, q0, hargs, rfl, rfl, h0, r0⟩ := trodAll_cons hA
  obtain ⟨v1, vs1, d1, ds1, p1, q1, rfl, rfl, rfl, h1, r1⟩ := trodAll_cons r0
  obtain ⟨v2, vs2, d2, ds2, p2, q2, rfl, rfl, rfl, h2, r2⟩ := trodAll_cons r1
  obtain ⟨rfl, rfl, rfl⟩ := trodAll_nil r2
  obtain rfl : args = #[v0, v1, v2] := by cases args; simp_all
  obtain ⟨rfl, rfl⟩ := trodVars_none hV
  obtain ⟨a0, rfl, rfl, rfl, w0⟩ := open_string Try.underlying9 (hval 0 9 v0 rfl rfl) h0
  obtain ⟨a1, rfl, rfl, rfl, w1⟩ := open_int Try.underlying2 (hval 1 2 v1 rfl rfl) h1
  obtain ⟨a2, rfl, rfl, rfl⟩ := open_bool Try.underlying4 (hval 2 4 v2 rfl rfl) h2
  clear hA0 hval0
  simp only [List.append_nil] at hW'
  refine (walk a0 a1 a2 w0 w1 W).mono fun e W' ⟨he, bel⟩ => ?_
  subst he
  exact ⟨_, rfl, _, _, _, [], [], [], hW', trodAll_mk1 (shut_bool Try.underlying4 _), (trodAll_cons_mk (shut_string Try.underlying9 w0) (trodAll_cons_mk (shut_int Try.underlying2 w1) (trodAll_cons_mk (shut_bool Try.underlying4 _) trodAll_mk0))), rfl, bel.frame _, fun h => by cases h⟩

theorem over : Rows.fnQuantitySignIsTheSignOfItsAmountRow.holds Try.pinned (OpenSpec.ofChange Rows.fnQuantitySignIsTheSignOfItsAmountSpec) :=
  OpenClaim.holds_of_wide 5 Try.f5 rfl rfl rfl rfl rfl rfl rfl ⟨rfl, rfl, rfl, rfl, rfl⟩ rfl rfl rfl rfl rfl (by kernel_rfl) Try.func5 (by kernel_rfl)
    (of_decide_eq_true (by kernel_rfl)) (by unfold Func.isWrapper; first | (rw [if_pos (by decide +kernel)]; kernel_rfl) | (rw [if_neg (by decide +kernel)]; exact ⟨rfl, rfl⟩))
    (fun os started H enc _ => lifted os started H enc)

/-- ████ THE STATEMENT ████ -/
theorem proved : Rows.FnQuantitySignIsTheSignOfItsAmountSaid :=
  over
#print axioms proved
end Go.Proofs.Qxb6621667a.fnQuantitySignIsTheSignOfItsAmount
