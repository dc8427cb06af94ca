import Derived.Test.Qxb6621733aRows
import Derived.WalkKit
import Derived.ProofKit
import Derived.OpenShut
import Derived.WalkSpells
import Derived.WalkLawsBesides
import Derived.Laws.Closers25
namespace Go.Proofs.Qxb6621733a.Wk
open Go.RowKit

theorem ret_int {k : IntKind} {a b : Int} (h : a = b) : Ending.returned (.int k a) = .returned (.int k b) := by rw [h]

/-- How many leading one bits a byte has. -/
def ones (b : Nat) : Nat := if b < 128 then 0 else if b < 192 then 1 else if b < 224 then 2 else if b < 240 then 3 else if b < 248 then 4 else if b < 252 then 5 else if b < 254 then 6 else if b < 255 then 7 else 8
def cl (b : Nat) : Int := if 2 ≤ ones b ∧ ones b ≤ 4 then (ones b : Int) else 1
/-- The mask after i rounds. -/
def mk (i : Nat) : Int := [128, 64, 32, 16, 8, 4, 2, 1].getD i 0
theorem mk_half (i : Nat) (h : i < 8) : mk i / 2 = mk (i + 1) := by
  have : ∀ i : Fin 8, mk i.val / 2 = mk (i.val + 1) := by decide +kernel
  exact this ⟨i, h⟩
theorem mk_pos (i : Nat) (h : i < 8) : 1 ≤ mk i ∧ mk i ≤ 128 := by
  have : ∀ i : Fin 8, 1 ≤ mk i.val ∧ mk i.val ≤ 128 := by decide +kernel
  exact this ⟨i, h⟩
theorem bit_at (b i : Nat) (hb : b < 256) (hi : i < 8) (hl : i ≤ ones b) : (bits BinOp.and IntKind.u8 (b : Int) (mk i) != 0) = decide (i < ones b) := by
  have : ∀ b : Fin 256, ∀ i : Fin 8, i.val ≤ ones b.val → (bits BinOp.and IntKind.u8 ((b.val : Nat) : Int) (mk i.val) != 0) = decide (i.val < ones b.val) := by decide +kernel
  exact this ⟨b, hb⟩ ⟨i, hi⟩ hl
theorem ones_le (b : Nat) : ones b ≤ 8 := by
  unfold ones
  repeat' split
  all_goals omega
theorem and224 (b : Nat) (hb : b < 256) : (bits BinOp.and IntKind.u8 (b : Int) 224 == 192) = (ones b == 2) := by
  have : ∀ b : Fin 256, (bits BinOp.and IntKind.u8 ((b.val : Nat) : Int) 224 == 192) = (ones b.val == 2) := by decide +kernel
  exact this ⟨b, hb⟩
theorem and240 (b : Nat) (hb : b < 256) : (bits BinOp.and IntKind.u8 (b : Int) 240 == 224) = (ones b == 3) := by
  have : ∀ b : Fin 256, (bits BinOp.and IntKind.u8 ((b.val : Nat) : Int) 240 == 224) = (ones b.val == 3) := by decide +kernel
  exact this ⟨b, hb⟩
theorem and248 (b : Nat) (hb : b < 256) : (bits BinOp.and IntKind.u8 (b : Int) 248 == 240) = (ones b == 4) := by
  have : ∀ b : Fin 256, (bits BinOp.and IntKind.u8 ((b.val : Nat) : Int) 248 == 240) = (ones b.val == 4) := by decide +kernel
  exact this ⟨b, hb⟩

/-- charLen as a plain function. -/
def cl0 (s : ByteArray) : Int := if h : 0 < s.size then cl (s[0]'h).toNat else 0

theorem empty_yes (s : ByteArray) (h : s.size = 0) : s.toList.isEmpty = true := by
  have : s = ByteArray.empty := by
    apply ByteArray.ext
    exact Array.eq_empty_of_size_eq_zero h
  subst this
  decide +kernel
theorem empty_no (s : ByteArray) (h : 0 < s.size) : s.toList.isEmpty = false := by
  rw [← decide_eq_emptyBytes s]
  simp
  rintro rfl
  exact absurd h (by decide)

theorem cl_two (b : Nat) (h : (ones b == 2) = true) : cl b = 2 := by
  have e : ones b = 2 := by simpa using h
  simp [cl, e]
theorem cl_three (b : Nat) (h : (ones b == 3) = true) : cl b = 3 := by
  have e : ones b = 3 := by simpa using h
  simp [cl, e]
theorem cl_four (b : Nat) (h : (ones b == 4) = true) : cl b = 4 := by
  have e : ones b = 4 := by simpa using h
  simp [cl, e]
theorem cl_one (b : Nat) (h2 : (ones b == 2) = false) (h3 : (ones b == 3) = false) (h4 : (ones b == 4) = false) : cl b = 1 := by
  have a2 : ones b ≠ 2 := by simpa using h2
  have a3 : ones b ≠ 3 := by simpa using h3
  have a4 : ones b ≠ 4 := by simpa using h4
  unfold cl; rw [if_neg (by omega)]

theorem charLen_any (s : ByteArray) (w : World) :
    Calls Try.prog 11 #[.string s] w fun e w' => e = .returned (.int .i64 (cl0 s)) ∧ w' = w := by
  by_cases h : 0 < s.size
  · have hb : (s[0]'h).toNat < 256 := UInt8.toNat_lt _
    have he := empty_no s h
    have e0 : cl0 s = cl (s[0]'h).toNat := by unfold cl0; rw [dif_pos h]
    rw [e0]
    have e1 := and224 _ hb
    have e2 := and240 _ hb
    have e3 := and248 _ hb
    go_enter Try.func11, Try.ntmps11
    go_wp2
    all_goals go_ret
    all_goals refine ⟨ret_int ?_, rfl⟩
    all_goals first
      | exact (cl_two _ (by assumption)).symm
      | exact (cl_three _ (by assumption)).symm
      | exact (cl_four _ (by assumption)).symm
      | exact (cl_one _ (by assumption) (by assumption) (by assumption)).symm
  · have he := empty_yes s (by omega)
    have e0 : cl0 s = 0 := by unfold cl0; rw [dif_neg h]
    rw [e0]
    go_enter Try.func11, Try.ntmps11
    go_wp2
    go_ret
    exact ⟨rfl, rfl⟩

theorem zzCharLen_any (s : ByteArray) (w : World) :
    Calls Try.prog 9 #[.string s] w fun e w' => e = .returned (.int .i64 (cl0 s)) ∧ w' = w := by
  go_enter Try.func9, Try.ntmps9
  go_wp2_with (go_at_call 11; refine (charLen_any _ _).mono ?_; rintro e w' ⟨rfl, rfl⟩)
  go_ret
  exact ⟨rfl, rfl⟩

set_option maxHeartbeats 1000000 in
theorem leadLen_any (s : ByteArray) (w : World) (hs : s.size ≤ maxLen) :
    Calls Try.prog 10 #[.string s] w fun e w' => e = .returned (.int .i64 (cl0 s)) ∧ w' = w := by
  unfold maxLen at hs
  by_cases h : 0 < s.size
  · have hb : (s[0]'h).toNat < 256 := UInt8.toNat_lt _
    have e0 : cl0 s = cl (s[0]'h).toNat := by unfold cl0; rw [dif_pos h]
    rw [e0]
    clear e0
    have hol := ones_le (s[0]'h).toNat
    go_enter Try.func10, Try.ntmps10
    go_wp2
    go_loop [4, 5] (fun m k => ∃ i : Nat, i ≤ ones (s[0]'h).toNat ∧ m = .int .u8 (mk i) ∧ k = .int .i64 i) (fun _ k => 8 - (intOf k).toNat)
    case atStart => exact ⟨0, Nat.zero_le _, rfl, rfl⟩
    case round =>
      obtain ⟨i, hi, rfl, rfl⟩ := hrel
      by_cases hlt : i < ones (s[0]'h).toNat
      · have hp := mk_pos i (by omega)
        have t1 : (mk i != 0) = true := by simp; omega
        have t2 : (bits BinOp.and IntKind.u8 ((s[0]'h).toNat : Int) (mk i) != 0) = true := by rw [bit_at _ i hb (by omega) hi]; simpa using hlt
        have hh : Hid (mk i / 2 = mk (i + 1)) := mk_half i (by omega)
        go_wp2
        go_round
        case rel => exact ⟨i + 1, hlt, by rw [← hh.out], by go_num⟩
        case measure => simp [intOf]; omega
      · have hie : Hid (ones (s[0]'h).toNat = i) := by show _ = _; omega
        have hcl : Hid (cl (s[0]'h).toNat = if 2 ≤ i ∧ i ≤ 4 then (i : Int) else 1) := by show _ = _; unfold cl; rw [hie.out]
        by_cases h8 : i < 8
        · have hp := mk_pos i h8
          have t1 : (mk i != 0) = true := by simp; omega
          have t2 : (bits BinOp.and IntKind.u8 ((s[0]'h).toNat : Int) (mk i) != 0) = false := by rw [bit_at _ i hb h8 hi]; simpa using hlt
          go_wp2
          all_goals go_ret
          all_goals refine ⟨ret_int ?_, rfl⟩
          all_goals rw [hcl.out]
          all_goals first | (rw [if_pos (by omega)]) | (rw [if_neg (by omega)])
        · have t1 : (mk i != 0) = false := by
            obtain rfl : i = 8 := by omega
            decide
          go_wp2
          all_goals go_ret
          all_goals refine ⟨ret_int ?_, rfl⟩
          all_goals rw [hcl.out]
          all_goals first | (rw [if_pos (by omega)]) | (rw [if_neg (by omega)])
  · have e0 : cl0 s = 0 := by unfold cl0; rw [dif_neg h]
    rw [e0]
    go_enter Try.func10, Try.ntmps10
    go_wp2
    go_ret
    exact ⟨rfl, rfl⟩

end Go.Proofs.Qxb6621733a.Wk
