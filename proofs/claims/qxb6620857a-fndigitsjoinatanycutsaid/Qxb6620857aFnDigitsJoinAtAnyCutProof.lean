import Derived.Test.Qxb6620857aRows
import Derived.WalkKit
import Derived.ProofKit
import Derived.OpenShut
import Derived.ShutString
import Derived.Test.Qxb6620857aDig
namespace Go.Proofs.Qxb6620857a.fnDigitsJoinAtAnyCut
open Go.ChangeShapes Go.WideShapes Go.ChangeAt Go.RowKit
open Go.ChangeMaps (open_string shut_string)
set_option linter.unusedVariables false      -- a walk need not use every 'w<i>' (that an integer argument fits its kind)

theorem own : ownKnob Try.prog.godebug = none := by kernel_rfl

open Go.Proofs.Qxb6620857a.Wk

theorem zz_big (a b : ByteArray) (m : Int) (ha : a.size ≤ maxLen) (hb : b.size ≤ maxLen) (h : 1048576 < a.size + b.size) (w : World) :
    Calls Try.prog 15 #[.string a, .string b, .int .i64 m] w fun e w' => e = .returned (.bool false) ∧ w' = w := by
  unfold maxLen at ha hb
  by_cases h1 : 1048576 < a.size
  · go_enter Try.func15, Try.ntmps15
    go_wp2
    go_ret
    exact ⟨rfl, rfl⟩
  by_cases h2 : 1048576 < b.size
  · go_enter Try.func15, Try.ntmps15
    go_wp2
    go_ret
    exact ⟨rfl, rfl⟩
  · go_enter Try.func15, Try.ntmps15
    go_wp2
    go_ret
    exact ⟨rfl, rfl⟩
theorem zz_ok (a b : ByteArray) (m : Int) (h : a.size + b.size ≤ 1048576) (w : World) :
    Calls Try.prog 15 #[.string a, .string b, .int .i64 m] w fun e w' => e = .returned (.bool true) ∧ w' = w := by
  go_enter Try.func15, Try.ntmps15
  go_wp2
  go_ret
  exact ⟨rfl, rfl⟩

/-- One reading: what the call of ZZdigits hands back. -/
def Reads (s : ByteArray) (base v : Int) (n : Int) : Prop :=
  ∀ w : World, Calls Try.prog 16 #[.string s, .int .i64 base, .int .i64 0] w fun e w' => e = .returned (.tuple #[.int .i64 v, .int .i64 n]) ∧ w' = w
theorem Reads.go {s : ByteArray} {base v : Int} {n : Int} (h : Reads s base v n) (w : World) :
    Calls Try.prog 16 #[.string s, .int .i64 base, .int .i64 0] w fun e w' => e = .returned (.tuple #[.int .i64 v, .int .i64 n]) ∧ w' = w := h w

/-- What the law says of a's first byte. -/
def First (a : ByteArray) (base va : Int) (na : Nat) : Prop :=
  (∃ h : 0 < a.size, Pl.dv ((a[0]'h).toNat : Int) < base ∧ 1 ≤ na ∧ (na ≤ 1 → va ≤ Pl.dv ((a[0]'h).toNat : Int) ∧ Pl.dv ((a[0]'h).toNat : Int) ≤ va)) ∨
  (na ≤ 0 ∧ va ≤ 0 ∧ 0 ≤ va ∧ ∀ h : 0 < a.size, base ≤ Pl.dv ((a[0]'h).toNat : Int))
theorem ret_true {x y : Int} (h : x = y) : Ending.returned (.bool (x == y)) = .returned (.bool true) := by subst h; simp
/-- P is va times base, k times. -/
def Pw (base va : Int) (k : Nat) (P : Int) : Prop := P = va * base ^ k
theorem Pw.zero (base va : Int) : Pw base va 0 va := by simp [Pw]
theorem Pw.next {base va P : Int} {k : Nat} (h : Pw base va k P) : Pw base va (k + 1) (P * base) := by
  unfold Pw at *; rw [h, Int.pow_succ, Int.mul_assoc]

set_option maxHeartbeats 1000000 in
/-- a's run stops inside a. -/
theorem core_in (a b : ByteArray) (base va vb : Int) (na nb : Nat) (hs : a.size ≤ 65536) (hs2 : b.size ≤ 65536) (hb : 2 ≤ base) (hb2 : base ≤ 16) (hna : na < a.size)
    (ra : Reads a base va na) (rb : Reads b base vb nb) (rab : Reads (a ++ b) base va na) (hf : First a base va na) (w : World) :
    Calls Try.prog 6 #[.string a, .string b, .int .i64 base] w fun e w' => e = .returned (.bool true) ∧ Grown w w' := by
  rcases hf with ⟨h0, hd, n1, hva⟩ | ⟨n1, v1, v2, hd⟩
  · have hc : (a[0]'h0).toNat < 256 := UInt8.toNat_lt _
    by_cases n2 : na ≤ 1
    · obtain ⟨v1, v2⟩ := hva n2
      go_enter Try.func6, Try.ntmps6
      go_wp2_with (go_at_call 15; refine (zz_ok _ _ _ (by omega) _).mono ?_; rintro e w' ⟨rfl, rfl⟩)
      refine (ra.go _).mono ?_; rintro e w' ⟨rfl, rfl⟩
      go_wp2_with fail
      refine (rb.go _).mono ?_; rintro e w' ⟨rfl, rfl⟩
      go_wp2_with fail
      refine (rab.go _).mono ?_; rintro e w' ⟨rfl, rfl⟩
      go_wp2_with (go_at_call 14; refine (digitValue_any _ (by omega) (by omega) _).mono ?_; rintro e w' ⟨rfl, rfl⟩)
      all_goals (go_ret; exact ⟨rfl, Grown.refl _⟩)
    · go_enter Try.func6, Try.ntmps6
      go_wp2_with (go_at_call 15; refine (zz_ok _ _ _ (by omega) _).mono ?_; rintro e w' ⟨rfl, rfl⟩)
      refine (ra.go _).mono ?_; rintro e w' ⟨rfl, rfl⟩
      go_wp2_with fail
      refine (rb.go _).mono ?_; rintro e w' ⟨rfl, rfl⟩
      go_wp2_with fail
      refine (rab.go _).mono ?_; rintro e w' ⟨rfl, rfl⟩
      go_wp2_with (go_at_call 14; refine (digitValue_any _ (by omega) (by omega) _).mono ?_; rintro e w' ⟨rfl, rfl⟩)
      all_goals (go_ret; exact ⟨rfl, Grown.refl _⟩)
  · by_cases h0 : 0 < a.size
    · have hc : (a[0]'h0).toNat < 256 := UInt8.toNat_lt _
      have hd' := hd h0
      clear hd
      go_enter Try.func6, Try.ntmps6
      go_wp2_with (go_at_call 15; refine (zz_ok _ _ _ (by omega) _).mono ?_; rintro e w' ⟨rfl, rfl⟩)
      refine (ra.go _).mono ?_; rintro e w' ⟨rfl, rfl⟩
      go_wp2_with fail
      refine (rb.go _).mono ?_; rintro e w' ⟨rfl, rfl⟩
      go_wp2_with fail
      refine (rab.go _).mono ?_; rintro e w' ⟨rfl, rfl⟩
      go_wp2_with (go_at_call 14; refine (digitValue_any _ (by omega) (by omega) _).mono ?_; rintro e w' ⟨rfl, rfl⟩)
      all_goals (go_ret; exact ⟨rfl, Grown.refl _⟩)
    · omega

set_option maxHeartbeats 2000000 in
/-- a is digits all through. -/
theorem core_over (a b : ByteArray) (base va vb v : Int) (na nb : Nat) (hs : a.size ≤ 65536) (hs2 : b.size ≤ 65536) (hb : 2 ≤ base) (hb2 : base ≤ 16) (hna : na ≤ a.size) (hna2 : a.size ≤ na) (hnb : nb ≤ b.size)
    (hv0 : 0 ≤ va) (hv1 : va ≤ 256) (hvb0 : 0 ≤ vb) (hvb1 : vb ≤ 256)
    (ra : Reads a base va na) (rb : Reads b base vb nb) (rab : Reads (a ++ b) base v ((a.size : Int) + (nb : Int))) (hf : First a base va na)
    (hV0 : Hid (∀ (k : Nat) (P : Int), k ≤ nb → Pw base va k P → (k = nb ∨ 256 ≤ P) → v = min (P + vb) 256)) (w : World) :
    Calls Try.prog 6 #[.string a, .string b, .int .i64 base] w fun e w' => e = .returned (.bool true) ∧ Grown w w' := by
  rcases hf with ⟨h0, hd, n1, hva⟩ | ⟨n1, v1, v2, hd⟩
  · have hc : (a[0]'h0).toNat < 256 := UInt8.toNat_lt _
    by_cases n2 : na ≤ 1
    · obtain ⟨v1, v2⟩ := hva n2
      go_enter Try.func6, Try.ntmps6
      go_wp2_with (go_at_call 15; refine (zz_ok _ _ _ (by omega) _).mono ?_; rintro e w' ⟨rfl, rfl⟩)
      refine (ra.go _).mono ?_; rintro e w' ⟨rfl, rfl⟩
      go_wp2_with fail
      refine (rb.go _).mono ?_; rintro e w' ⟨rfl, rfl⟩
      go_wp2_with fail
      refine (rab.go _).mono ?_; rintro e w' ⟨rfl, rfl⟩
      go_wp2_with (go_at_call 14; refine (digitValue_any _ (by omega) (by omega) _).mono ?_; rintro e w' ⟨rfl, rfl⟩)
      go_loop [13, 14] (fun p i => ∃ (k : Nat) (P : Int), k ≤ nb ∧ 0 ≤ P ∧ P ≤ 4096 ∧ Pw base va k P ∧ i = .int .i64 k ∧ p = .int .i64 P) (fun _ i => nb - (intOf i).toNat)
      case atStart => exact ⟨0, va, Nat.zero_le _, hv0, by omega, Pw.zero _ _, rfl, rfl⟩
      case round =>
        obtain ⟨k, P, hk, P0, P1, hP, rfl, rfl⟩ := hrel
        have hm0 : 0 ≤ P * base := Int.mul_nonneg P0 (by omega)
        by_cases hlt : k < nb
        · by_cases hp : P < 256
          · have hm1 : P * base ≤ 4096 := by have := Int.mul_le_mul (show P ≤ 256 by omega) hb2 (by omega) (by omega); omega
            go_wp2
            go_round
            case rel => exact ⟨k + 1, P * base, by omega, hm0, hm1, hP.next, by go_num, rfl⟩
            case measure => simp [intOf]; omega
          · have hV := hV0.out k P hk hP (.inr (by omega))
            by_cases hsum : 256 < P + vb
            all_goals
              go_wp2
              go_ret
              exact ⟨ret_true (by omega), Grown.refl _⟩
        · have hV := hV0.out k P hk hP (.inl (by omega))
          by_cases hsum : 256 < P + vb
          all_goals
            go_wp2
            go_ret
            exact ⟨ret_true (by omega), Grown.refl _⟩
    · go_enter Try.func6, Try.ntmps6
      go_wp2_with (go_at_call 15; refine (zz_ok _ _ _ (by omega) _).mono ?_; rintro e w' ⟨rfl, rfl⟩)
      refine (ra.go _).mono ?_; rintro e w' ⟨rfl, rfl⟩
      go_wp2_with fail
      refine (rb.go _).mono ?_; rintro e w' ⟨rfl, rfl⟩
      go_wp2_with fail
      refine (rab.go _).mono ?_; rintro e w' ⟨rfl, rfl⟩
      go_wp2_with (go_at_call 14; refine (digitValue_any _ (by omega) (by omega) _).mono ?_; rintro e w' ⟨rfl, rfl⟩)
      go_loop [13, 14] (fun p i => ∃ (k : Nat) (P : Int), k ≤ nb ∧ 0 ≤ P ∧ P ≤ 4096 ∧ Pw base va k P ∧ i = .int .i64 k ∧ p = .int .i64 P) (fun _ i => nb - (intOf i).toNat)
      case atStart => exact ⟨0, va, Nat.zero_le _, hv0, by omega, Pw.zero _ _, rfl, rfl⟩
      case round =>
        obtain ⟨k, P, hk, P0, P1, hP, rfl, rfl⟩ := hrel
        have hm0 : 0 ≤ P * base := Int.mul_nonneg P0 (by omega)
        by_cases hlt : k < nb
        · by_cases hp : P < 256
          · have hm1 : P * base ≤ 4096 := by have := Int.mul_le_mul (show P ≤ 256 by omega) hb2 (by omega) (by omega); omega
            go_wp2
            go_round
            case rel => exact ⟨k + 1, P * base, by omega, hm0, hm1, hP.next, by go_num, rfl⟩
            case measure => simp [intOf]; omega
          · have hV := hV0.out k P hk hP (.inr (by omega))
            by_cases hsum : 256 < P + vb
            all_goals
              go_wp2
              go_ret
              exact ⟨ret_true (by omega), Grown.refl _⟩
        · have hV := hV0.out k P hk hP (.inl (by omega))
          by_cases hsum : 256 < P + vb
          all_goals
            go_wp2
            go_ret
            exact ⟨ret_true (by omega), Grown.refl _⟩
  · by_cases h0 : 0 < a.size
    · omega
    · clear hd
      go_enter Try.func6, Try.ntmps6
      go_wp2_with (go_at_call 15; refine (zz_ok _ _ _ (by omega) _).mono ?_; rintro e w' ⟨rfl, rfl⟩)
      refine (ra.go _).mono ?_; rintro e w' ⟨rfl, rfl⟩
      go_wp2_with fail
      refine (rb.go _).mono ?_; rintro e w' ⟨rfl, rfl⟩
      go_wp2_with fail
      refine (rab.go _).mono ?_; rintro e w' ⟨rfl, rfl⟩
      go_wp2_with (go_at_call 14; refine (digitValue_any _ (by omega) (by omega) _).mono ?_; rintro e w' ⟨rfl, rfl⟩)
      go_loop [13, 14] (fun p i => ∃ (k : Nat) (P : Int), k ≤ nb ∧ 0 ≤ P ∧ P ≤ 4096 ∧ Pw base va k P ∧ i = .int .i64 k ∧ p = .int .i64 P) (fun _ i => nb - (intOf i).toNat)
      case atStart => exact ⟨0, va, Nat.zero_le _, hv0, by omega, Pw.zero _ _, rfl, rfl⟩
      case round =>
        obtain ⟨k, P, hk, P0, P1, hP, rfl, rfl⟩ := hrel
        have hm0 : 0 ≤ P * base := Int.mul_nonneg P0 (by omega)
        by_cases hlt : k < nb
        · by_cases hp : P < 256
          · have hm1 : P * base ≤ 4096 := by have := Int.mul_le_mul (show P ≤ 256 by omega) hb2 (by omega) (by omega); omega
            go_wp2
            go_round
            case rel => exact ⟨k + 1, P * base, by omega, hm0, hm1, hP.next, by go_num, rfl⟩
            case measure => simp [intOf]; omega
          · have hV := hV0.out k P hk hP (.inr (by omega))
            by_cases hsum : 256 < P + vb
            all_goals
              go_wp2
              go_ret
              exact ⟨ret_true (by omega), Grown.refl _⟩
        · have hV := hV0.out k P hk hP (.inl (by omega))
          by_cases hsum : 256 < P + vb
          all_goals
            go_wp2
            go_ret
            exact ⟨ret_true (by omega), Grown.refl _⟩


theorem bs_append (a b : ByteArray) : bs (a ++ b) = bs a ++ bs b := by
  simp [bs]

theorem reads_of (s : ByteArray) (base : Int) (hs : s.size ≤ maxLen) (hb : 2 ≤ base) (hb2 : base ≤ 16) : Reads s base (Pl.digV base 0 (bs s)) (Pl.run base (bs s)) := by
  intro w
  have h := zzdigits_any s base 0 hs hb hb2 (by omega) (by omega) w
  rw [Pl.nread_zero] at h
  exact h

theorem first_of (a : ByteArray) (base : Int) : First a base (Pl.digV base 0 (bs a)) (Pl.run base (bs a)) := by
  by_cases h : 0 < (bs a).length ∧ Pl.dv ((bs a).getD 0 0) < base
  · obtain ⟨h1, h2⟩ := h
    have h1' : 0 < a.size := by rw [bs_len] at h1; exact h1
    have g := bs_get a 0 h1'
    have f := Pl.first_yes base (bs a) h1 h2
    rw [g] at f h2
    exact .inl ⟨h1', h2, f.1, fun e => by have := f.2 (by omega); omega⟩
  · have f := Pl.first_no base (bs a) h
    refine .inr ⟨by omega, by omega, by omega, fun h1' => ?_⟩
    have g := bs_get a 0 h1'
    rw [g, bs_len] at h
    omega

theorem walk_in (a b : ByteArray) (base : Int) (hs : a.size ≤ 65536) (hs2 : b.size ≤ 65536) (hb : 2 ≤ base) (hb2 : base ≤ 16) (w : World) :
    Calls Try.prog 6 #[.string a, .string b, .int .i64 base] w fun e w' => e = .returned (.bool true) ∧ Grown w w' := by
  have la : a.size ≤ maxLen := by unfold maxLen; omega
  have lb : b.size ≤ maxLen := by unfold maxLen; omega
  have lab : (a ++ b).size ≤ maxLen := by rw [ByteArray.size_append]; unfold maxLen; omega
  have ra := reads_of a base la hb hb2
  have rb := reads_of b base lb hb hb2
  have rab := reads_of (a ++ b) base lab hb hb2
  have hf := first_of a base
  have na := Pl.run_le base (bs a)
  have nb := Pl.run_le base (bs b)
  rw [bs_append] at rab
  by_cases h : Pl.run base (bs a) < (bs a).length
  · have J := Pl.join_inside base (bs a) (bs b) h
    rw [J.1, J.2] at rab
    exact core_in a b base _ _ _ _ hs hs2 hb hb2 (by rw [bs_len] at h; exact h) ra rb rab hf w
  · have h' : Pl.run base (bs a) = (bs a).length := by omega
    have J := Pl.join_over base (by omega) (bs a) (bs b) h' (Pl.run base (bs b)) (Nat.le_refl _) (.inl rfl)
    rw [J.1] at rab
    have va := Pl.val_range base (by omega) 0 ((bs a).take (Pl.nread base 0 (bs a))) (by omega) (by omega)
    have vb := Pl.val_range base (by omega) 0 ((bs b).take (Pl.nread base 0 (bs b))) (by omega) (by omega)
    rw [bs_len] at h' na nb rab
    refine core_over a b base (Pl.digV base 0 (bs a)) (Pl.digV base 0 (bs b)) (Pl.digV base 0 (bs a ++ bs b)) _ _ hs hs2 hb hb2 na (by omega) nb va.1 va.2 vb.1 vb.2 ra rb (by rw [← Int.natCast_add]; exact rab) hf ?_ w
    intro k P hk hP hor
    unfold Pw at hP
    have J2 := Pl.join_over base (by omega) (bs a) (bs b) (by rw [bs_len]; exact h') k hk (by rw [← hP]; exact hor)
    rw [hP]
    exact J2.2

theorem walk (a0 : ByteArray) (a1 : ByteArray) (a2 : Int) (w0 : a0.size ≤ maxLen) (w1 : a1.size ≤ maxLen) (w2 : (Lit.int .i64 a2).wf = true) (w : World) :
    Calls Try.prog 6 #[.string a0, .string a1, .int .i64 a2] w fun e w' => e = .returned (.bool true) ∧ Grown w w' := by
  by_cases h1 : 1048576 < a0.size + a1.size
  · have hs := w0
    have hs' := w1
    unfold maxLen at hs hs'
    go_enter Try.func6, Try.ntmps6
    go_wp2_with (go_at_call 15; refine (zz_big _ _ _ w0 w1 h1 _).mono ?_; rintro e w' ⟨rfl, rfl⟩)
    go_ret
    exact ⟨rfl, Grown.refl _⟩
  by_cases h2 : 65536 < a0.size
  · go_enter Try.func6, Try.ntmps6
    go_wp2_with (go_at_call 15; refine (zz_ok _ _ _ (by omega) _).mono ?_; rintro e w' ⟨rfl, rfl⟩)
    go_ret
    exact ⟨rfl, Grown.refl _⟩
  by_cases h3 : 65536 < a1.size
  · go_enter Try.func6, Try.ntmps6
    go_wp2_with (go_at_call 15; refine (zz_ok _ _ _ (by omega) _).mono ?_; rintro e w' ⟨rfl, rfl⟩)
    go_ret
    exact ⟨rfl, Grown.refl _⟩
  by_cases h4 : a2 < 2
  · go_enter Try.func6, Try.ntmps6
    go_wp2_with (go_at_call 15; refine (zz_ok _ _ _ (by omega) _).mono ?_; rintro e w' ⟨rfl, rfl⟩)
    go_ret
    exact ⟨rfl, Grown.refl _⟩
  by_cases h5 : 16 < a2
  · go_enter Try.func6, Try.ntmps6
    go_wp2_with (go_at_call 15; refine (zz_ok _ _ _ (by omega) _).mono ?_; rintro e w' ⟨rfl, rfl⟩)
    go_ret
    exact ⟨rfl, Grown.refl _⟩
  exact walk_in a0 a1 a2 (by omega) (by omega) (by omega) (by omega) w

/-! ### THE ROW's STEP: WRITTEN OUT: LEAVE IT -/
set_option maxRecDepth 100000 in
theorem lifted (os : Os) (started : os.Started) (H : Type) (enc : TypeId × Value → H) :
    ReturnsInHanded {} Try.checked os 6 .any (Rows.fnDigitsJoinAtAnyCutSpec.pre6 enc Try.prog Try.f6 Rows.fnDigitsJoinAtAnyCutRow.domain false) (Rows.fnDigitsJoinAtAnyCutSpec.post enc Try.prog Try.f6 false true false false) := by
  refine returnsInHanded_of_change (C := Try.checked) own started (by kernel_rfl) Try.func6
    (ChangeSpec.witness6 (enc := enc) (C := Try.checked) false ⟨#[], #[.string ByteArray.empty, .string ByteArray.empty, .int .i64 0], []⟩ 8 (by kernel_rfl) (by kernel_rfl) (by kernel_rfl) (by kernel_rfl)) ?_
  intro W base args ds gs before hval0 hW hcnd _
  have hval : ∀ (j : Nat) t v, Try.f6.params[j]? = some t → args[j]? = some v → Value.okWide Try.prog W .any base t v := hval0
  have hW' := hW
  obtain ⟨p, q, hA0, hV, rfl, hfz, hnd⟩ := hW
  have hA : DataW.TrodAll enc Try.prog W 0 (fun _ => true) true Try.f6.params.toList args.toList ds p := hA0
  rw [Try.params6] at hA hval
  obtain ⟨v0, vs0, d0, ds0, p0, q0, hargs, rfl, rfl, h0, r0⟩ := trodAll_cons hA
  obtain ⟨v1, vs1, d1, ds1, p1, q1, rfl, rfl, rfl, h1, r1⟩ := trodAll_cons r0
  obtain ⟨v2, vs2, d2, ds2, p2, q2, rfl, rfl, rfl, h2, r2⟩ := trodAll_cons r1
  obtain ⟨rfl, rfl, rfl⟩ := trodAll_nil r2
  obtain rfl : args = #[v0, v1, v2] := by cases args; simp_all
  obtain ⟨rfl, rfl⟩ := trodVars_none hV
  obtain ⟨a0, rfl, rfl, rfl, w0⟩ := open_string Try.underlying9 (hval 0 9 v0 rfl rfl) h0
  obtain ⟨a1, rfl, rfl, rfl, w1⟩ := open_string Try.underlying9 (hval 1 9 v1 rfl rfl) h1
  obtain ⟨a2, rfl, rfl, rfl, w2⟩ := open_int Try.underlying3 (hval 2 3 v2 rfl rfl) h2
  clear hA0 hval0
  simp only [List.append_nil] at hW'
  refine (walk a0 a1 a2 w0 w1 w2 W).mono fun e W' ⟨he, hg⟩ => ?_
  subst he
  exact ⟨_, rfl, post_of_same (pa := []) (pv := []) hW' (fun _ _ _ => (trodAll_cons_mk (shut_bool Try.underlying4 _) trodAll_mk0)) (fun sp _ => (trodAll_cons_mk (shut_string Try.underlying9 w0) (trodAll_cons_mk (shut_string Try.underlying9 w1) (trodAll_cons_mk (shut_int Try.underlying3 w2) trodAll_mk0)))) (fun _ _ => rfl) rfl
    (hg.frame _) hg.2.1 (ok_one (by kernel_rfl) rfl (okWide_bool_mk Try.underlying4 _))⟩

theorem over : Rows.fnDigitsJoinAtAnyCutRow.holds Try.pinned (OpenSpec.ofChange Rows.fnDigitsJoinAtAnyCutSpec) :=
  OpenClaim.holds_of_wide 6 Try.f6 rfl rfl rfl rfl rfl rfl rfl ⟨rfl, rfl, rfl, rfl, rfl⟩ rfl rfl rfl rfl rfl (by kernel_rfl) Try.func6 (by kernel_rfl)
    (of_decide_eq_true (by kernel_rfl)) (by unfold Func.isWrapper; first | (rw [if_pos (by decide +kernel)]; kernel_rfl) | (rw [if_neg (by decide +kernel)]; exact ⟨rfl, rfl⟩))
    (fun os started H enc _ => lifted os started H enc)

/-- ████ THE STATEMENT ████ -/
theorem proved : Rows.FnDigitsJoinAtAnyCutSaid :=
  over
#print axioms proved
end Go.Proofs.Qxb6620857a.fnDigitsJoinAtAnyCut
