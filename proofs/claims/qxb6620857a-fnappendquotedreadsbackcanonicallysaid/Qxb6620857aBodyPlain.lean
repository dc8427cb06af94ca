/-
  PLAIN LAWS for the reading back of a quoted body. No Go in sight.
-/
import Derived.Test.Qxb6620857aPlain
namespace Go.Proofs.Qxb6620857a.Pl

theorem body_at (l : List Int) (k : Nat) (h : k < l.length) : escAll l = escAll (l.take k) ++ (esc (l.getD k 0) ++ escAll (l.drop (k + 1))) := by
  rw [← List.append_assoc, ← escAll_snoc l k h, ← escAll_append, List.take_append_drop]
/-- Where the k-th byte's escape begins. -/
def pos (l : List Int) (k : Nat) : Nat := (escAll (l.take k)).length
theorem pos_zero (l : List Int) : pos l 0 = 0 := rfl
theorem pos_succ (l : List Int) (k : Nat) (h : k < l.length) : pos l (k + 1) = pos l k + (esc (l.getD k 0)).length := by
  unfold pos; rw [escAll_snoc l k h, List.length_append]
theorem pos_le (l : List Int) (k : Nat) (h : k < l.length) : pos l k + (esc (l.getD k 0)).length ≤ (escAll l).length := by
  have := congrArg List.length (body_at l k h)
  rw [List.length_append, List.length_append] at this
  unfold pos; omega
theorem pos_end (l : List Int) (k : Nat) (h : l.length ≤ k) : pos l k = (escAll l).length := by
  unfold pos; rw [List.take_of_length_le h]
theorem pos_get (l : List Int) (k : Nat) (h : k < l.length) (j : Nat) (hj : j < (esc (l.getD k 0)).length) : (escAll l).getD (pos l k + j) 0 = (esc (l.getD k 0)).getD j 0 := by
  rw [body_at l k h]
  unfold pos
  generalize esc (l.getD k 0) = e at hj ⊢
  simp only [List.getD_eq_getElem?_getD]
  rw [List.getElem?_append_right (by omega), Nat.add_sub_cancel_left, List.getElem?_append_left hj]

theorem hexD_range (k : Int) (h0 : 0 ≤ k) (h1 : k < 16) : 48 ≤ hexD k ∧ hexD k ≤ 102 ∧ (hexD k ≤ 57 ∨ 97 ≤ hexD k) := by unfold hexD; split <;> omega
theorem dv_hexD (k : Int) (h0 : 0 ≤ k) (h1 : k < 16) : dv (hexD k) = k := by
  unfold hexD
  split
  · unfold dv; rw [if_pos (by omega)]; omega
  · unfold dv; rw [if_neg (by omega), if_pos (by omega)]; omega

/-- Two hex digits, at most two read, whatever follows. -/
theorem two_digits (q r : Int) (hq0 : 0 ≤ q) (hq1 : q < 16) (hr0 : 0 ≤ r) (hr1 : r < 16) (t : List Int) :
    nread 16 2 (hexD q :: hexD r :: t) = 2 ∧ digV 16 2 (hexD q :: hexD r :: t) = 16 * q + r := by
  have hn : nread 16 2 (hexD q :: hexD r :: t) = 2 := by
    have h : run 16 (hexD q :: hexD r :: t) = run 16 t + 1 + 1 := by
      simp only [run]
      rw [dv_hexD q hq0 hq1, dv_hexD r hr0 hr1, if_pos hq1, if_pos hr1]
    unfold nread
    rw [h]
    split <;> omega
  refine ⟨hn, ?_⟩
  unfold digV
  rw [hn]
  show min (min (0 * 16 + dv (hexD q)) 256 * 16 + dv (hexD r)) 256 = 16 * q + r
  rw [dv_hexD q hq0 hq1, dv_hexD r hr0 hr1]
  omega

/-- The seven kinds of a byte. -/
theorem esc_plain (c : Int) (h : c ≠ 92 ∧ c ≠ 34 ∧ 32 ≤ c ∧ c ≠ 127) : esc c = [c] := by
  unfold esc
  rw [if_neg (by omega), if_neg (by omega), if_neg (by omega), if_neg (by omega), if_neg (by omega)]
theorem esc_self (c : Int) (h : c = 92 ∨ c = 34) : esc c = [92, c] := by unfold esc; rw [if_pos h]
theorem esc_hex (c : Int) (h1 : c ≠ 10 ∧ c ≠ 9 ∧ c ≠ 13) (h2 : c < 32 ∨ c = 127) : esc c = [92, 120, hexD (c / 16), hexD (c % 16)] := by
  unfold esc
  rw [if_neg (by omega), if_neg (by omega), if_neg (by omega), if_neg (by omega), if_pos h2]

end Go.Proofs.Qxb6620857a.Pl
