import Derived.Test.Qxb6620857aRows
import Derived.Test.Qxb6620857aPlain
import Derived.WalkKit
import Derived.ProofKit
import Derived.WalkSpells
import Derived.WalkLawsBesides
namespace Go.Proofs.Qxb6620857a.Wk
open Go.RowKit

theorem ret_int {k : IntKind} {a b : Int} (h : a = b) : Ending.returned (.int k a) = .returned (.int k b) := by rw [h]
theorem ret_two {a b c d : Int} (h : a = b) (h' : c = d) : Ending.returned (.tuple #[.int .i64 a, .int .i64 c]) = .returned (.tuple #[.int .i64 b, .int .i64 d]) := by rw [h, h']

/-- A string's bytes as numbers. -/
def bs (s : ByteArray) : List Int := s.data.toList.map fun b => (b.toNat : Int)
theorem bs_len (s : ByteArray) : (bs s).length = s.size := by simp [bs]
theorem bs_get (s : ByteArray) (k : Nat) (h : k < s.size) : (bs s).getD k 0 = (s[k].toNat : Int) := by
  have h' : k < s.data.toList.length := by simpa using h
  simp only [bs, List.getD_eq_getElem?_getD, List.getElem?_map, List.getElem?_eq_getElem h', Option.map_some, Option.getD_some]
  rfl

theorem digitValue_any (c : Int) (h0 : 0 ≤ c) (h1 : c ≤ 255) (w : World) :
    Calls Try.prog 14 #[.int .u8 c] w fun e w' => e = .returned (.int .i64 (Pl.dv c)) ∧ w' = w := by
  go_enter Try.func14, Try.ntmps14
  go_wp2
  all_goals go_ret
  all_goals refine ⟨ret_int ?_, rfl⟩
  all_goals unfold Pl.dv
  all_goals first
    | (rw [if_pos (by omega)])
    | (rw [if_neg (by omega), if_pos (by omega)]; omega)
    | (rw [if_neg (by omega), if_neg (by omega), if_pos (by omega)]; omega)
    | (rw [if_neg (by omega), if_neg (by omega), if_neg (by omega)])

/-- The three ends of the loop in 'digits'. -/
theorem dig_end (base max : Int) (l : List Int) (k : Nat) (hk : k ≤ Pl.run base l) (hm : max = 0 ∨ (k : Int) ≤ max) (h0 : 0 ≤ max)
    (h : l.length ≤ k ∨ (max ≠ 0 ∧ max ≤ (k : Int)) ∨ base ≤ Pl.dv (l.getD k 0)) : Pl.nread base max l = k := by
  have hr := Pl.run_le base l
  unfold Pl.nread
  rcases h with h | ⟨h1, h2⟩ | h
  · rw [if_neg (by omega)]; omega
  · by_cases e : max < (Pl.run base l : Int)
    · rw [if_pos (by omega)]; omega
    · rw [if_neg (by omega)]; omega
  · have := Pl.run_end base l k hk h
    rw [if_neg (by omega)]; omega

/-- The bound on the count, kept from the walk. -/
def okMax (max : Int) (k : Nat) : Prop := max = 0 ∨ (k : Int) ≤ max
theorem min_if (x : Int) : (if 256 < x then 256 else x) = min x 256 := by split <;> omega

set_option maxHeartbeats 1000000 in
theorem digits_any (s : ByteArray) (base max : Int) (hs : s.size ≤ maxLen) (hb : 2 ≤ base) (hb2 : base ≤ 16) (hm : 0 ≤ max) (hm2 : max ≤ 9223372036854775807) (w : World) :
    Calls Try.prog 19 #[.string s, .int .i64 base, .int .i64 max] w fun e w' =>
      e = .returned (.tuple #[.int .i64 (Pl.digV base max (bs s)), .int .i64 (Pl.nread base max (bs s))]) ∧ w' = w := by
  unfold maxLen at hs
  have hfin : Hid (∀ k : Nat, k ≤ Pl.run base (bs s) → okMax max k → (s.size ≤ k ∨ (max ≠ 0 ∧ max ≤ (k : Int)) ∨ base ≤ Pl.dv ((bs s).getD k 0)) → Pl.nread base max (bs s) = k) :=
    fun k h1 h2 h3 => dig_end base max (bs s) k h1 h2 hm (by rw [bs_len]; exact h3)
  have hrl : Pl.run base (bs s) ≤ s.size := by have := Pl.run_le base (bs s); rw [bs_len] at this; exact this
  go_enter Try.func19, Try.ntmps19
  go_wp2
  go_loop [6, 7] (fun v n => ∃ k : Nat, k ≤ Pl.run base (bs s) ∧ okMax max k ∧ n = .int .i64 k ∧ v = .int .i64 (Pl.val base 0 ((bs s).take k))) (fun _ n => s.size - (intOf n).toNat)
  case atStart => exact ⟨0, Nat.zero_le _, .inr hm, rfl, rfl⟩
  case round =>
    obtain ⟨k, hk, hkm, rfl, rfl⟩ := hrel
    have hv := Pl.val_range base (by omega) 0 ((bs s).take k) (by omega) (by omega)
    by_cases hlt : k < s.size
    · have hc : s[k].toNat < 256 := UInt8.toNat_lt _
      have hdr := Pl.dv_range (s[k].toNat : Int)
      have hget : Hid ((bs s).getD k 0 = (s[k].toNat : Int)) := bs_get s k hlt
      have hmul : 0 ≤ Pl.val base 0 ((bs s).take k) * base ∧ Pl.val base 0 ((bs s).take k) * base ≤ 256 * 16 := by
        refine ⟨Int.mul_nonneg hv.1 (by omega), Int.mul_le_mul hv.2 hb2 (by omega) (by omega)⟩
      have hsn : Hid (Pl.val base 0 ((bs s).take (k + 1)) = min (Pl.val base 0 ((bs s).take k) * base + Pl.dv (s[k].toNat : Int)) 256) := by
        have := Pl.val_snoc base (bs s) k (by rw [bs_len]; exact hlt)
        rw [hget.out] at this; exact this
      by_cases hz : (max == 0) = true
      · have hok : okMax max (k + 1) := .inl (by simpa using hz)
        by_cases hd : Pl.dv (s[k].toNat : Int) < base
        · have hnx : Hid (k + 1 ≤ Pl.run base (bs s)) := Pl.run_next base (bs s) k hk (by rw [bs_len]; exact hlt) (by rw [hget.out]; exact hd)
          go_wp2_with (go_at_call 14; refine (digitValue_any _ (by omega) (by omega) _).mono ?_; rintro e w' ⟨rfl, rfl⟩)
          all_goals
            go_round
            case rel => exact ⟨k + 1, hnx.out, hok, by go_num, by rw [hsn.out, ← min_if]⟩
            case measure => simp [intOf]; omega
        · have hF : Hid (Pl.nread base max (bs s) = k) := hfin.out k hk hkm (.inr (.inr (by rw [hget.out]; omega)))
          go_wp2_with (go_at_call 14; refine (digitValue_any _ (by omega) (by omega) _).mono ?_; rintro e w' ⟨rfl, rfl⟩)
          go_ret2
          exact ⟨ret_two (by unfold Pl.digV; rw [hF.out]) (by rw [hF.out]), rfl⟩
      · rw [Bool.not_eq_true] at hz
        by_cases hgo : (k : Int) < max
        · have hok : okMax max (k + 1) := .inr (by omega)
          by_cases hd : Pl.dv (s[k].toNat : Int) < base
          · have hnx : Hid (k + 1 ≤ Pl.run base (bs s)) := Pl.run_next base (bs s) k hk (by rw [bs_len]; exact hlt) (by rw [hget.out]; exact hd)
            go_wp2_with (go_at_call 14; refine (digitValue_any _ (by omega) (by omega) _).mono ?_; rintro e w' ⟨rfl, rfl⟩)
            all_goals
              go_round
              case rel => exact ⟨k + 1, hnx.out, hok, by go_num, by rw [hsn.out, ← min_if]⟩
              case measure => simp [intOf]; omega
          · have hF : Hid (Pl.nread base max (bs s) = k) := hfin.out k hk hkm (.inr (.inr (by rw [hget.out]; omega)))
            go_wp2_with (go_at_call 14; refine (digitValue_any _ (by omega) (by omega) _).mono ?_; rintro e w' ⟨rfl, rfl⟩)
            go_ret2
            exact ⟨ret_two (by unfold Pl.digV; rw [hF.out]) (by rw [hF.out]), rfl⟩
        · have hF : Hid (Pl.nread base max (bs s) = k) := hfin.out k hk hkm (.inr (.inl ⟨by simpa using hz, by omega⟩))
          go_wp2
          go_ret2
          exact ⟨ret_two (by unfold Pl.digV; rw [hF.out]) (by rw [hF.out]), rfl⟩
    · have hF : Hid (Pl.nread base max (bs s) = k) := hfin.out k hk hkm (.inl (by omega))
      go_wp2
      go_ret2
      exact ⟨ret_two (by unfold Pl.digV; rw [hF.out]) (by rw [hF.out]), rfl⟩

theorem zzdigits_any (s : ByteArray) (base max : Int) (hs : s.size ≤ maxLen) (hb : 2 ≤ base) (hb2 : base ≤ 16) (hm : 0 ≤ max) (hm2 : max ≤ 9223372036854775807) (w : World) :
    Calls Try.prog 16 #[.string s, .int .i64 base, .int .i64 max] w fun e w' =>
      e = .returned (.tuple #[.int .i64 (Pl.digV base max (bs s)), .int .i64 (Pl.nread base max (bs s))]) ∧ w' = w := by
  go_enter Try.func16, Try.ntmps16
  go_wp2_with (go_at_call 19; refine (digits_any _ _ _ hs hb hb2 hm hm2 _).mono ?_; rintro e w' ⟨rfl, rfl⟩)
  go_ret2
  exact ⟨rfl, rfl⟩

end Go.Proofs.Qxb6620857a.Wk
