import Derived.Test.Qxb6620857aRows
import Derived.WalkKit
import Derived.ProofKit
import Derived.OpenShut
import Derived.ShutString
import Derived.Laws.BytesArg
import Derived.Test.Qxb6620857aQuo
namespace Go.Proofs.Qxb6620857a.fnDigitValueReadsAppendQuotedHexInEitherCase
open Go.ChangeShapes Go.WideShapes Go.ChangeAt Go.RowKit
open Go.ChangeMaps (open_string shut_string)
set_option linter.unusedVariables false      -- a walk need not use every 'w<i>' (that an integer argument fits its kind)

theorem own : ownKnob Try.prog.godebug = none := by kernel_rfl

open Go.Proofs.Qxb6620857a.Wk

/-- Does the digit d's byte, or its upper-case form, read c? -/
def hit (c d : Int) : Bool := c == Pl.hexD d || (decide (97 ≤ Pl.hexD d) && (decide (Pl.hexD d ≤ 122) && c == Pl.hexD d - 32))
/-- What 'want' holds after k rounds. -/
def wantTo (c : Int) : Nat → Int
  | 0 => 16
  | k + 1 => if hit c k then (k : Int) else wantTo c k
theorem want_all (c : Nat) (h : c < 256) : Pl.dv (c : Int) = wantTo (c : Int) 16 := by
  have : ∀ c : Fin 256, Pl.dv ((c.val : Nat) : Int) = wantTo ((c.val : Nat) : Int) 16 := by decide +kernel
  exact this ⟨c, h⟩

theorem bs_nums (xs : List Int) (h : ∀ n ∈ xs, 0 ≤ n ∧ n ≤ 255) : bs (strOfNums xs) = xs := by
  simp only [bs, strOfNums, List.map_map]
  conv => rhs; rw [← List.map_id xs]
  refine List.map_congr_left fun n hn => ?_
  have := h n hn
  simp only [Function.comp, id, UInt8.toNat_ofNat']
  omega

theorem hexD_range (k : Int) (h0 : 0 ≤ k) (h1 : k < 16) : 48 ≤ Pl.hexD k ∧ Pl.hexD k ≤ 102 := by unfold Pl.hexD; split <;> omega

theorem quoted_one (k : Nat) (hk : k < 16) : Pl.quoted [16 + (k : Int)] = [34, 92, 120, 49, Pl.hexD k, 34] := by
  have : ∀ k : Fin 16, Pl.quoted [16 + ((k.val : Nat) : Int)] = [34, 92, 120, 49, Pl.hexD ((k.val : Nat) : Int), 34] := by decide +kernel
  exact this ⟨k, hk⟩

/-- AppendQuoted(nil, one byte below 0x20). -/
theorem quote_one (k : Nat) (hk : k < 16) (w : World) :
    Calls Try.prog 10 #[.slice none 0 0, .string (strOfNums [16 + (k : Int)])] w fun e w' => ∃ g cap, e = .returned (.slice (some ⟨g, 0, none⟩) 6 cap) ∧ w'.cell? ⟨g, 1, none⟩ = some (.int .u8 92) ∧
      w'.cell? ⟨g, 2, none⟩ = some (.int .u8 120) ∧ w'.cell? ⟨g, 3, none⟩ = some (.int .u8 49) ∧ w'.cell? ⟨g, 4, none⟩ = some (.int .u8 (Pl.hexD k)) ∧ Below w.heap.size w w' := by
  refine (appendQuoted_at none 0 [] (strOfNums [16 + (k : Int)]) w rfl (by omega) (by rw [strOfNums_size]; simp) (fun _ => rfl) (fun b hb => by cases hb)).mono ?_
  rintro e w' ⟨g, cap, rfl, _, _, _, _, hcell, hbel⟩
  rw [bs_nums _ (by intro n hn; simp at hn; omega), quoted_one k hk] at hcell ⊢
  exact ⟨g, cap, rfl, hcell 1 (by simp), hcell 2 (by simp), hcell 3 (by simp), hcell 4 (by simp), hbel⟩

theorem conv_one (k : Nat) (w : World) : Sem.run Try.prog (convert 22 9 (.slice (some ⟨w.heap.size, 0, none⟩) 1 1)) (w.alloc (.cells #[.int .u8 (16 + (k : Int))] 5)) =
    .ok (.string (strOfNums [16 + (k : Int)])) (w.alloc (.cells #[.int .u8 (16 + (k : Int))] 5)) := by
  refine run_convert_bytes_arg _ 22 5 Try.underlying22 Try.underlying5 w.heap.size 0 1 1 [16 + (k : Int)] rfl (fun i hi => ?_) 9 Try.underlying9
  obtain rfl : i = 0 := by omega
  simp

theorem hit_succ (c : Int) (k : Nat) (h : hit c k = true) : wantTo c (k + 1) = (k : Int) := by simp [wantTo, h]
theorem miss_succ (c : Int) (k : Nat) (h : hit c k = false) : wantTo c (k + 1) = wantTo c k := by simp [wantTo, h]
theorem ret_true {x y : Int} (h : x = y) : Ending.returned (.bool (x == y)) = .returned (.bool true) := by subst h; simp

set_option maxHeartbeats 1000000 in
theorem walk (a0 : Int) (w0 : (Lit.int .u8 a0).wf = true) (w : World) :
    Calls Try.prog 5 #[.int .u8 a0] w fun e w' => e = .returned (.bool true) ∧ Below w.heap.size w w' := by
  have b0 := bounds_u8 w0
  have hend : Hid (Pl.dv a0 = wantTo a0 16) := by
    have := want_all a0.toNat (by omega)
    rw [show ((a0.toNat : Nat) : Int) = a0 by omega] at this
    exact this
  go_enter Try.func5, Try.ntmps5
  go_wp2
  go_loopw [3, 4] (fun v i wr => ∃ k : Nat, k ≤ 16 ∧ i = .int .i64 k ∧ v = .int .i64 (wantTo a0 k) ∧ Below w.heap.size w wr) (fun _ i _ => 16 - (intOf i).toNat)
  case atStart => exact ⟨0, Nat.zero_le _, rfl, rfl, Below.refl _ _⟩
  case round =>
    obtain ⟨k, hk, rfl, rfl, hbel⟩ := hrel
    have HB : Hid (Below w.heap.size w wr) := hbel
    have hsz := hbel.size
    clear hbel
    by_cases hlt : k < 16
    · have hhr := hexD_range k (by omega) (by omega)
      have hcv := conv_one k wr
      have hall : Hid (∀ w2, Below (wr.alloc (.cells #[.int .u8 (16 + (k : Int))] 5)).heap.size (wr.alloc (.cells #[.int .u8 (16 + (k : Int))] 5)) w2 → Below w.heap.size w w2) :=
        fun w2 h2 => (HB.out.alloc hsz _).trans (h2.mono (by simp; omega))
      rcases Bool.eq_false_or_eq_true (a0 == Pl.hexD k) with h1 | h1
      · have hS : Hid (wantTo a0 (k + 1) = (k : Int)) := hit_succ a0 k (by simp [hit, h1])
        go_wp2_with (go_at_call 10; refine (quote_one k hlt _).mono ?_; rintro e w2 ⟨g, cap, rfl, g1, g2, g3, g4, hb2⟩; have hb3 := hall.out _ hb2; clear hb2)
        go_roundw
        case rel => exact ⟨k + 1, by omega, by go_num, by rw [hS.out], by assumption⟩
        case measure => simp [intOf]; omega
      · by_cases h2 : 97 ≤ Pl.hexD k
        · have h3 : Pl.hexD k ≤ 122 := by omega
          rcases Bool.eq_false_or_eq_true (a0 == Pl.hexD k - 32) with h4 | h4
          · have hS : Hid (wantTo a0 (k + 1) = (k : Int)) := hit_succ a0 k (by simp [hit, h2, h3, h4])
            go_wp2_with (go_at_call 10; refine (quote_one k hlt _).mono ?_; rintro e w2 ⟨g, cap, rfl, g1, g2, g3, g4, hb2⟩; have hb3 := hall.out _ hb2; clear hb2)
            go_roundw
            case rel => exact ⟨k + 1, by omega, by go_num, by rw [hS.out], by assumption⟩
            case measure => simp [intOf]; omega
          · have hS : Hid (wantTo a0 (k + 1) = wantTo a0 k) := miss_succ a0 k (by simp [hit, h1, h4])
            go_wp2_with (go_at_call 10; refine (quote_one k hlt _).mono ?_; rintro e w2 ⟨g, cap, rfl, g1, g2, g3, g4, hb2⟩; have hb3 := hall.out _ hb2; clear hb2)
            go_roundw
            case rel => exact ⟨k + 1, by omega, by go_num, by rw [hS.out], by assumption⟩
            case measure => simp [intOf]; omega
        · have hS : Hid (wantTo a0 (k + 1) = wantTo a0 k) := miss_succ a0 k (by simp [hit, h1, h2])
          go_wp2_with (go_at_call 10; refine (quote_one k hlt _).mono ?_; rintro e w2 ⟨g, cap, rfl, g1, g2, g3, g4, hb2⟩; have hb3 := hall.out _ hb2; clear hb2)
          go_roundw
          case rel => exact ⟨k + 1, by omega, by go_num, by rw [hS.out], by assumption⟩
          case measure => simp [intOf]; omega
    · obtain rfl : k = 16 := by omega
      go_wp2_with (go_at_call 14; refine (digitValue_any _ (by omega) (by omega) _).mono ?_; rintro e w2 ⟨rfl, rfl⟩)
      go_ret
      exact ⟨ret_true hend.out, HB.out⟩

/-! ### THE ROW's STEP: WRITTEN OUT: LEAVE IT -/
set_option maxRecDepth 100000 in
theorem lifted (os : Os) (started : os.Started) (H : Type) (enc : TypeId × Value → H) :
    ReturnsInHanded {} Try.checked os 5 .any (Rows.fnDigitValueReadsAppendQuotedHexInEitherCaseSpec.pre6 enc Try.prog Try.f5 Rows.fnDigitValueReadsAppendQuotedHexInEitherCaseRow.domain false) (Rows.fnDigitValueReadsAppendQuotedHexInEitherCaseSpec.post enc Try.prog Try.f5 false true false false) := by
  refine returnsInHanded_of_change (C := Try.checked) own started (by kernel_rfl) Try.func5
    (ChangeSpec.witness6 (enc := enc) (C := Try.checked) false ⟨#[], #[.int .u8 0], []⟩ 8 (by kernel_rfl) (by kernel_rfl) (by kernel_rfl) (by kernel_rfl)) ?_
  intro W base args ds gs before hval0 hW hcnd _
  have hval : ∀ (j : Nat) t v, Try.f5.params[j]? = some t → args[j]? = some v → Value.okWide Try.prog W .any base t v := hval0
  have hW' := hW
  obtain ⟨p, q, hA0, hV, rfl, hfz, hnd⟩ := hW
  have hA : DataW.TrodAll enc Try.prog W 0 (fun _ => true) true Try.f5.params.toList args.toList ds p := hA0
  rw [Try.params5] at hA hval
  obtain ⟨v0, vs0, d0, ds0, p0, q0, hargs, rfl, rfl, h0, r0⟩ := trodAll_cons hA
  obtain ⟨rfl, rfl, rfl⟩ := trodAll_nil r0
  obtain rfl : args = #[v0] := by cases args; simp_all
  obtain ⟨rfl, rfl⟩ := trodVars_none hV
  obtain ⟨a0, rfl, rfl, rfl, w0⟩ := open_int Try.underlying5 (hval 0 5 v0 rfl rfl) h0
  clear hA0 hval0
  simp only [List.append_nil] at hW'
  refine (walk a0 w0 W).mono fun e W' ⟨he, bel⟩ => ?_
  subst he
  exact ⟨_, rfl, _, _, _, [], [], [], hW', trodAll_mk1 (shut_bool Try.underlying4 _), (trodAll_cons_mk (shut_int Try.underlying5 w0) trodAll_mk0), rfl, bel.frame _, fun h => by cases h⟩

theorem over : Rows.fnDigitValueReadsAppendQuotedHexInEitherCaseRow.holds Try.pinned (OpenSpec.ofChange Rows.fnDigitValueReadsAppendQuotedHexInEitherCaseSpec) :=
  OpenClaim.holds_of_wide 5 Try.f5 rfl rfl rfl rfl rfl rfl rfl ⟨rfl, rfl, rfl, rfl, rfl⟩ rfl rfl rfl rfl rfl (by kernel_rfl) Try.func5 (by kernel_rfl)
    (of_decide_eq_true (by kernel_rfl)) (by unfold Func.isWrapper; first | (rw [if_pos (by decide +kernel)]; kernel_rfl) | (rw [if_neg (by decide +kernel)]; exact ⟨rfl, rfl⟩))
    (fun os started H enc _ => lifted os started H enc)

/-- ████ THE STATEMENT ████ -/
theorem proved : Rows.FnDigitValueReadsAppendQuotedHexInEitherCaseSaid :=
  over
#print axioms proved
end Go.Proofs.Qxb6620857a.fnDigitValueReadsAppendQuotedHexInEitherCase
