import Derived.Test.Qxb6620857aRows
import Derived.WalkKit
import Derived.ProofKit
import Derived.OpenShut
import Derived.ShutString
import Derived.Test.Qxb6620857aDig
namespace Go.Proofs.Qxb6620857a.fnDigitsMaxCutsTheRun
open Go.ChangeShapes Go.WideShapes Go.ChangeAt Go.RowKit
open Go.ChangeMaps (open_string shut_string)
set_option linter.unusedVariables false      -- a walk need not use every 'w<i>' (that an integer argument fits its kind)

theorem own : ownKnob Try.prog.godebug = none := by kernel_rfl

open Go.Proofs.Qxb6620857a.Wk

theorem zz_big (s : ByteArray) (b m : Int) (hs : s.size ≤ maxLen) (h : 1048576 < s.size) (w : World) :
    Calls Try.prog 17 #[.string s, .int .i64 b, .int .i64 m] w fun e w' => e = .returned (.bool false) ∧ w' = w := by
  unfold maxLen at hs
  go_enter Try.func17, Try.ntmps17
  go_wp2
  go_ret
  exact ⟨rfl, rfl⟩
theorem zz_ok (s : ByteArray) (b m : Int) (h : s.size ≤ 1048576) (w : World) :
    Calls Try.prog 17 #[.string s, .int .i64 b, .int .i64 m] w fun e w' => e = .returned (.bool true) ∧ w' = w := by
  go_enter Try.func17, Try.ntmps17
  go_wp2
  go_ret
  exact ⟨rfl, rfl⟩

theorem bs_take (s : ByteArray) (n : Nat) (h : n ≤ s.size) : bs (s.extract 0 n) = (bs s).take n := by
  simp only [bs]
  rw [← List.map_take]
  congr 1
  rw [ByteArray.data_extract, Array.toList_extract]
  simp [List.extract]

/-- The second reading: of the bytes that were read. -/
theorem zz_again (s : ByteArray) (base max : Int) (hs : s.size ≤ 65536) (hb : 2 ≤ base) (hb2 : base ≤ 16) (w : World) :
    Calls Try.prog 16 #[.string (s.extract 0 (Pl.nread base max (bs s))), .int .i64 base, .int .i64 0] w fun e w' =>
      e = .returned (.tuple #[.int .i64 (Pl.digV base max (bs s)), .int .i64 (Pl.nread base max (bs s))]) ∧ w' = w := by
  have hrl : Pl.run base (bs s) ≤ s.size := by have := Pl.run_le base (bs s); rw [bs_len] at this; exact this
  have hnl := Pl.nread_le base max (bs s)
  have hcut := Pl.max_cuts base max (bs s)
  have hb' := bs_take s (Pl.nread base max (bs s)) (by omega)
  have h := zzdigits_any (s.extract 0 (Pl.nread base max (bs s))) base 0 (by rw [ByteArray.size_extract]; unfold maxLen; omega) hb hb2 (by omega) (by omega) w
  rw [hb', Pl.nread_zero, hcut.1, hcut.2] at h
  exact h

set_option maxHeartbeats 1000000 in
theorem walk_in (s : ByteArray) (base max : Int) (hs : s.size ≤ 65536) (hb : 2 ≤ base) (hb2 : base ≤ 16) (hm : 0 ≤ max) (hm2 : max ≤ 9223372036854775807) (w : World) :
    Calls Try.prog 7 #[.string s, .int .i64 base, .int .i64 max] w fun e w' => e = .returned (.bool true) ∧ Grown w w' := by
  have hrl : Pl.run base (bs s) ≤ s.size := by have := Pl.run_le base (bs s); rw [bs_len] at this; exact this
  have hnl := Pl.nread_le base max (bs s)
  have hsz : s.size ≤ maxLen := by unfold maxLen; omega
  have hwant : Hid (∀ k : Nat, k ≤ Pl.run base (bs s) → Pl.run base (bs s) ≤ k → (0 < max ∧ max < (k : Int) ∧ (Pl.nread base max (bs s) : Int) ≤ max ∧ max ≤ (Pl.nread base max (bs s) : Int)) ∨ ((max ≤ 0 ∨ (k : Int) ≤ max) ∧ Pl.nread base max (bs s) ≤ k ∧ k ≤ Pl.nread base max (bs s))) := by
    intro k h1 h2
    unfold Pl.nread
    split <;> omega
  go_enter Try.func7, Try.ntmps7
  go_wp2_with (first | (go_at_call 17; refine (zz_ok _ _ _ (by omega) _).mono ?_; rintro e w' ⟨rfl, rfl⟩) | (go_at_call 16; refine (zzdigits_any _ _ _ hsz hb hb2 hm hm2 _).mono ?_; rintro e w' ⟨rfl, rfl⟩))
  go_loop [9] (fun r => ∃ k : Nat, k ≤ Pl.run base (bs s) ∧ r = .int .i64 k) (fun r => s.size - (intOf r).toNat)
  case atStart => exact ⟨0, Nat.zero_le _, rfl⟩
  case round =>
    obtain ⟨k, hk, rfl⟩ := hrel
    by_cases hlt : k < s.size
    · have hc : s[k].toNat < 256 := UInt8.toNat_lt _
      have hget : Hid ((bs s).getD k 0 = (s[k].toNat : Int)) := bs_get s k hlt
      by_cases hd : Pl.dv (s[k].toNat : Int) < base
      · have hnx : Hid (k + 1 ≤ Pl.run base (bs s)) := Pl.run_next base (bs s) k hk (by rw [bs_len]; exact hlt) (by rw [hget.out]; exact hd)
        go_wp2_with (go_at_call 14; refine (digitValue_any _ (by omega) (by omega) _).mono ?_; rintro e w' ⟨rfl, rfl⟩)
        go_round
        case rel => exact ⟨k + 1, hnx.out, by go_num⟩
        case measure => simp [intOf]; omega
      · have he : Pl.run base (bs s) ≤ k := by have := Pl.run_end base (bs s) k hk (by rw [hget.out]; omega); omega
        rcases hwant.out k hk he with ⟨m1, m2, m3, m4⟩ | ⟨m1 | m1, m3, m4⟩
        all_goals
          go_wp2_with (first | (go_at_call 14; refine (digitValue_any _ (by omega) (by omega) _).mono ?_; rintro e w' ⟨rfl, rfl⟩) | (go_at_call 16; refine (zz_again s base max hs hb hb2 _).mono ?_; rintro e w' ⟨rfl, rfl⟩))
          all_goals (go_ret; exact ⟨rfl, Grown.refl _⟩)
    · have he : Pl.run base (bs s) ≤ k := by omega
      rcases hwant.out k hk he with ⟨m1, m2, m3, m4⟩ | ⟨m1 | m1, m3, m4⟩
      all_goals
        go_wp2_with (first | (go_at_call 14; refine (digitValue_any _ (by omega) (by omega) _).mono ?_; rintro e w' ⟨rfl, rfl⟩) | (go_at_call 16; refine (zz_again s base max hs hb hb2 _).mono ?_; rintro e w' ⟨rfl, rfl⟩))
        all_goals (go_ret; exact ⟨rfl, Grown.refl _⟩)

theorem walk (a0 : ByteArray) (a1 : Int) (a2 : Int) (w0 : a0.size ≤ maxLen) (w1 : (Lit.int .i64 a1).wf = true) (w2 : (Lit.int .i64 a2).wf = true) (w : World) :
    Calls Try.prog 7 #[.string a0, .int .i64 a1, .int .i64 a2] w fun e w' => e = .returned (.bool true) ∧ Grown w w' := by
  have b2 := bounds_i64 w2
  by_cases h1 : 1048576 < a0.size
  · have hs := w0
    unfold maxLen at hs
    go_enter Try.func7, Try.ntmps7
    go_wp2_with (go_at_call 17; refine (zz_big _ _ _ w0 h1 _).mono ?_; rintro e w' ⟨rfl, rfl⟩)
    go_ret
    exact ⟨rfl, Grown.refl _⟩
  by_cases h2 : 65536 < a0.size
  · go_enter Try.func7, Try.ntmps7
    go_wp2_with (go_at_call 17; refine (zz_ok _ _ _ (by omega) _).mono ?_; rintro e w' ⟨rfl, rfl⟩)
    go_ret
    exact ⟨rfl, Grown.refl _⟩
  by_cases h3 : a1 < 2
  · go_enter Try.func7, Try.ntmps7
    go_wp2_with (go_at_call 17; refine (zz_ok _ _ _ (by omega) _).mono ?_; rintro e w' ⟨rfl, rfl⟩)
    go_ret
    exact ⟨rfl, Grown.refl _⟩
  by_cases h4 : 16 < a1
  · go_enter Try.func7, Try.ntmps7
    go_wp2_with (go_at_call 17; refine (zz_ok _ _ _ (by omega) _).mono ?_; rintro e w' ⟨rfl, rfl⟩)
    go_ret
    exact ⟨rfl, Grown.refl _⟩
  by_cases h5 : a2 < 0
  · go_enter Try.func7, Try.ntmps7
    go_wp2_with (go_at_call 17; refine (zz_ok _ _ _ (by omega) _).mono ?_; rintro e w' ⟨rfl, rfl⟩)
    go_ret
    exact ⟨rfl, Grown.refl _⟩
  exact walk_in a0 a1 a2 (by omega) (by omega) (by omega) (by omega) b2.2 w

/-! ### THE ROW's STEP: WRITTEN OUT: LEAVE IT -/
set_option maxRecDepth 100000 in
theorem lifted (os : Os) (started : os.Started) (H : Type) (enc : TypeId × Value → H) :
    ReturnsInHanded {} Try.checked os 7 .any (Rows.fnDigitsMaxCutsTheRunSpec.pre6 enc Try.prog Try.f7 Rows.fnDigitsMaxCutsTheRunRow.domain false) (Rows.fnDigitsMaxCutsTheRunSpec.post enc Try.prog Try.f7 false true false false) := by
  refine returnsInHanded_of_change (C := Try.checked) own started (by kernel_rfl) Try.func7
    (ChangeSpec.witness6 (enc := enc) (C := Try.checked) false ⟨#[], #[.string ByteArray.empty, .int .i64 0, .int .i64 0], []⟩ 8 (by kernel_rfl) (by kernel_rfl) (by kernel_rfl) (by kernel_rfl)) ?_
  intro W base args ds gs before hval0 hW hcnd _
  have hval : ∀ (j : Nat) t v, Try.f7.params[j]? = some t → args[j]? = some v → Value.okWide Try.prog W .any base t v := hval0
  have hW' := hW
  obtain ⟨p, q, hA0, hV, rfl, hfz, hnd⟩ := hW
  have hA : DataW.TrodAll enc Try.prog W 0 (fun _ => true) true Try.f7.params.toList args.toList ds p := hA0
  rw [Try.params7] at hA hval
  obtain ⟨v0, vs0, d0, ds0, p0, q0, hargs, rfl, rfl, h0, r0⟩ := trodAll_cons hA
  obtain ⟨v1, vs1, d1, ds1, p1, q1, rfl, rfl, rfl, h1, r1⟩ := trodAll_cons r0
  obtain ⟨v2, vs2, d2, ds2, p2, q2, rfl, rfl, rfl, h2, r2⟩ := trodAll_cons r1
  obtain ⟨rfl, rfl, rfl⟩ := trodAll_nil r2
  obtain rfl : args = #[v0, v1, v2] := by cases args; simp_all
  obtain ⟨rfl, rfl⟩ := trodVars_none hV
  obtain ⟨a0, rfl, rfl, rfl, w0⟩ := open_string Try.underlying9 (hval 0 9 v0 rfl rfl) h0
  obtain ⟨a1, rfl, rfl, rfl, w1⟩ := open_int Try.underlying3 (hval 1 3 v1 rfl rfl) h1
  obtain ⟨a2, rfl, rfl, rfl, w2⟩ := open_int Try.underlying3 (hval 2 3 v2 rfl rfl) h2
  clear hA0 hval0
  simp only [List.append_nil] at hW'
  refine (walk a0 a1 a2 w0 w1 w2 W).mono fun e W' ⟨he, hg⟩ => ?_
  subst he
  exact ⟨_, rfl, post_of_same (pa := []) (pv := []) hW' (fun _ _ _ => (trodAll_cons_mk (shut_bool Try.underlying4 _) trodAll_mk0)) (fun sp _ => (trodAll_cons_mk (shut_string Try.underlying9 w0) (trodAll_cons_mk (shut_int Try.underlying3 w1) (trodAll_cons_mk (shut_int Try.underlying3 w2) trodAll_mk0)))) (fun _ _ => rfl) rfl
    (hg.frame _) hg.2.1 (ok_one (by kernel_rfl) rfl (okWide_bool_mk Try.underlying4 _))⟩

theorem over : Rows.fnDigitsMaxCutsTheRunRow.holds Try.pinned (OpenSpec.ofChange Rows.fnDigitsMaxCutsTheRunSpec) :=
  OpenClaim.holds_of_wide 7 Try.f7 rfl rfl rfl rfl rfl rfl rfl ⟨rfl, rfl, rfl, rfl, rfl⟩ rfl rfl rfl rfl rfl (by kernel_rfl) Try.func7 (by kernel_rfl)
    (of_decide_eq_true (by kernel_rfl)) (by unfold Func.isWrapper; first | (rw [if_pos (by decide +kernel)]; kernel_rfl) | (rw [if_neg (by decide +kernel)]; exact ⟨rfl, rfl⟩))
    (fun os started H enc _ => lifted os started H enc)

/-- ████ THE STATEMENT ████ -/
theorem proved : Rows.FnDigitsMaxCutsTheRunSaid :=
  over
#print axioms proved
end Go.Proofs.Qxb6620857a.fnDigitsMaxCutsTheRun
