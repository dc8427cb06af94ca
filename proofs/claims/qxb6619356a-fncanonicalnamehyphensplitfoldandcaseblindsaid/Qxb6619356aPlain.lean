/-
  PLAIN LAWS for seat b6619356a: the canonical form of a field name, lower case, swapped case, as plain functions on lists of numbers. No Go in sight.
-/
namespace Go.Proofs.Qxb6619356a.Pl

def low (c : Int) : Int := if 65 ≤ c ∧ c ≤ 90 then c + 32 else c
def swp (c : Int) : Int := if 65 ≤ c ∧ c ≤ 90 then c + 32 else if 97 ≤ c ∧ c ≤ 122 then c - 32 else c
/-- One byte made canonical: where a letter is to be upper, or lower. -/
def cn (u : Bool) (c : Int) : Int := if u = true ∧ 97 ≤ c ∧ c ≤ 122 then c - 32 else if u = false ∧ 65 ≤ c ∧ c ≤ 90 then c + 32 else c
def canon : Bool → List Int → List Int
  | _, [] => []
  | u, c :: l => cn u c :: canon (c == 45) l
/-- Is the next letter to be upper? -/
def fl : Bool → List Int → Bool
  | u, [] => u
  | _, c :: l => fl (c == 45) l

theorem cn_hyphen (u : Bool) (c : Int) : (cn u c == 45) = (c == 45) := by
  unfold cn
  split
  · rw [Bool.eq_iff_iff]; simp; omega
  · split
    · rw [Bool.eq_iff_iff]; simp; omega
    · rfl
theorem low_cn (u : Bool) (c : Int) : low (cn u c) = low c := by
  unfold cn
  split
  · unfold low; rw [if_pos (by omega), if_neg (by omega)]; omega
  · split
    · unfold low; rw [if_neg (by omega), if_pos (by omega)]
    · rfl
theorem swp_hyphen (c : Int) : (swp c == 45) = (c == 45) := by
  unfold swp
  split
  · rw [Bool.eq_iff_iff]; simp; omega
  · split
    · rw [Bool.eq_iff_iff]; simp; omega
    · rfl
theorem cn_swp (u : Bool) (c : Int) : cn u (swp c) = cn u c := by
  unfold swp
  cases u
  · split
    · unfold cn; rw [if_neg (by simp), if_neg (by omega), if_neg (by simp), if_pos (by simp; omega)]
    · split
      · unfold cn; rw [if_neg (by simp), if_pos (by simp; omega), if_neg (by simp), if_neg (by omega)]; omega
      · rfl
  · split
    · unfold cn; rw [if_pos (by simp; omega), if_neg (by omega), if_neg (by simp)]; omega
    · split
      · unfold cn; rw [if_neg (by omega), if_neg (by simp), if_pos (by simp; omega)]
      · rfl
theorem cn_cn (u : Bool) (c : Int) : cn u (cn u c) = cn u c := by
  cases u
  · by_cases h : 65 ≤ c ∧ c ≤ 90
    · have e : cn false c = c + 32 := by unfold cn; rw [if_neg (by simp), if_pos (by simp; omega)]
      rw [e]; unfold cn; rw [if_neg (by simp), if_neg (by omega)]
    · have e : cn false c = c := by unfold cn; rw [if_neg (by simp), if_neg (by omega)]
      rw [e, e]
  · by_cases h : 97 ≤ c ∧ c ≤ 122
    · have e : cn true c = c - 32 := by unfold cn; rw [if_pos (by simp; omega)]
      rw [e]; unfold cn; rw [if_neg (by omega), if_neg (by simp)]
    · have e : cn true c = c := by unfold cn; rw [if_neg (by omega), if_neg (by simp)]
      rw [e, e]

theorem canon_len : (u : Bool) → (l : List Int) → (canon u l).length = l.length
  | _, [] => rfl
  | u, c :: l => by simp [canon, canon_len]
theorem canon_append : (u : Bool) → (a b : List Int) → canon u (a ++ b) = canon u a ++ canon (fl u a) b
  | _, [], _ => rfl
  | u, c :: a, b => by simp only [List.cons_append, canon, fl]; rw [canon_append]
theorem fl_append : (u : Bool) → (a b : List Int) → fl u (a ++ b) = fl (fl u a) b
  | _, [], _ => rfl
  | u, c :: a, b => by simp only [List.cons_append, fl]; rw [fl_append]
/-- THE HYPHEN SPLITS. -/
theorem split_hyphen (a b : List Int) : canon true (a ++ 45 :: b) = canon true a ++ 45 :: canon true b := by
  rw [canon_append]
  show _ ++ (cn (fl true a) 45 :: canon (45 == (45 : Int)) b) = _
  have e : cn (fl true a) 45 = 45 := by unfold cn; rw [if_neg (by omega), if_neg (by omega)]
  rw [e]; rfl
/-- IT FOLDS. -/
theorem folds : (u : Bool) → (l : List Int) → (canon u l).map low = l.map low
  | _, [] => rfl
  | u, c :: l => by simp only [canon, List.map_cons]; rw [low_cn, folds]
/-- CASE-BLIND. -/
theorem blind : (u : Bool) → (l : List Int) → canon u (l.map swp) = canon u l
  | _, [] => rfl
  | u, c :: l => by simp only [canon, List.map_cons]; rw [cn_swp, swp_hyphen, blind]
/-- AGAIN. -/
theorem again : (u : Bool) → (l : List Int) → canon u (canon u l) = canon u l
  | _, [] => rfl
  | u, c :: l => by simp only [canon]; rw [cn_cn, cn_hyphen, again]

theorem take_snoc (l : List Int) (k : Nat) (h : k < l.length) : l.take (k + 1) = l.take k ++ [l.getD k 0] := by
  rw [List.take_succ_eq_append_getElem h]; simp [List.getD, h]
theorem canon_snoc (u : Bool) (l : List Int) (k : Nat) (h : k < l.length) : canon u (l.take (k + 1)) = canon u (l.take k) ++ [cn (fl u (l.take k)) (l.getD k 0)] := by
  rw [take_snoc l k h, canon_append]; rfl
theorem fl_snoc (u : Bool) (l : List Int) (k : Nat) (h : k < l.length) : fl u (l.take (k + 1)) = (l.getD k 0 == 45) := by
  rw [take_snoc l k h, fl_append]; rfl

theorem cn_range (u : Bool) (c : Int) (h : 0 ≤ c ∧ c ≤ 255) : 0 ≤ cn u c ∧ cn u c ≤ 255 := by
  unfold cn; split
  · omega
  · split <;> omega
theorem canon_range : (u : Bool) → (l : List Int) → (∀ n ∈ l, 0 ≤ n ∧ n ≤ 255) → ∀ n ∈ canon u l, 0 ≤ n ∧ n ≤ 255
  | _, [], _ => by intro n hn; simp [canon] at hn
  | u, c :: l, h => by
    intro n hn
    simp only [canon, List.mem_cons] at hn
    rcases hn with rfl | hn
    · exact cn_range u c (h c (by simp))
    · exact canon_range _ l (fun n hn => h n (by simp [hn])) n hn
theorem swp_range (c : Int) (h : 0 ≤ c ∧ c ≤ 255) : 0 ≤ swp c ∧ swp c ≤ 255 := by
  unfold swp; split
  · omega
  · split <;> omega
theorem low_range (c : Int) (h : 0 ≤ c ∧ c ≤ 255) : 0 ≤ low c ∧ low c ≤ 255 := by unfold low; split <;> omega

end Go.Proofs.Qxb6619356a.Pl
