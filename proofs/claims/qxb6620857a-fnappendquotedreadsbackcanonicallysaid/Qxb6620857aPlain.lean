/-
  PLAIN LAWS for seat b6620857a: what DigitValue, digits and AppendQuoted compute, as plain functions on lists of numbers, and what the five laws say of them. No Go in sight.
-/
namespace Go.Proofs.Qxb6620857a.Pl

/-! ### digits -/
/-- DigitValue. -/
def dv (c : Int) : Int := if 48 ≤ c ∧ c ≤ 57 then c - 48 else if 97 ≤ c ∧ c ≤ 102 then c - 87 else if 65 ≤ c ∧ c ≤ 70 then c - 55 else 16
theorem dv_range (c : Int) : 0 ≤ dv c ∧ dv c ≤ 16 := by unfold dv; split <;> (try split) <;> (try split) <;> omega

/-- How many leading digits of the base. -/
def run (base : Int) : List Int → Nat
  | [] => 0
  | c :: l => if dv c < base then run base l + 1 else 0
theorem run_le (base : Int) : (l : List Int) → run base l ≤ l.length
  | [] => Nat.le_refl _
  | c :: l => by have := run_le base l; simp only [run, List.length_cons]; split <;> omega

/-- The capped value of a list of digits, on from v. -/
def val (base : Int) : Int → List Int → Int
  | v, [] => v
  | v, c :: l => val base (min (v * base + dv c) 256) l
/-- The value without the cap. -/
def uval (base : Int) : Int → List Int → Int
  | v, [] => v
  | v, c :: l => uval base (v * base + dv c) l

theorem val_append (base : Int) : (v : Int) → (l m : List Int) → val base v (l ++ m) = val base (val base v l) m
  | _, [], _ => rfl
  | v, c :: l, m => by simp only [List.cons_append, val]; exact val_append base _ l m
theorem uval_append (base : Int) : (v : Int) → (l m : List Int) → uval base v (l ++ m) = uval base (uval base v l) m
  | _, [], _ => rfl
  | v, c :: l, m => by simp only [List.cons_append, uval]; exact uval_append base _ l m

theorem mul_le (a b v : Int) (h : a ≤ b) (hv : 0 ≤ v) : a * v ≤ b * v := Int.mul_le_mul_of_nonneg_right h hv

theorem uval_mono (base : Int) (hb : 0 ≤ base) : (u v : Int) → (l : List Int) → u ≤ v → uval base u l ≤ uval base v l
  | _, _, [], h => h
  | u, v, c :: l, h => by
    simp only [uval]
    refine uval_mono base hb _ _ l ?_
    have := mul_le u v base h hb
    omega
theorem uval_ge (base : Int) (hb : 1 ≤ base) : (v : Int) → (l : List Int) → 0 ≤ v → v ≤ uval base v l
  | _, [], _ => Int.le_refl _
  | v, c :: l, h => by
    simp only [uval]
    have h1 := dv_range c
    have h2 : v * 1 ≤ v * base := Int.mul_le_mul_of_nonneg_left hb h
    have := uval_ge base hb (v * base + dv c) l (by omega)
    omega

theorem val_eq (base : Int) (hb : 1 ≤ base) : (v : Int) → (l : List Int) → 0 ≤ v → v ≤ 256 → val base v l = min (uval base v l) 256
  | v, [], _, h => by simp only [val, uval]; omega
  | v, c :: l, h0, h => by
    simp only [val, uval]
    have h1 := dv_range c
    have h2 : 0 ≤ v * base := Int.mul_nonneg h0 (by omega)
    rw [val_eq base hb _ l (by omega) (by omega)]
    by_cases hc : v * base + dv c ≤ 256
    · rw [show min (v * base + dv c) 256 = v * base + dv c by omega]
    · have e1 := uval_ge base hb 256 l (by omega)
      have e2 := uval_ge base hb (v * base + dv c) l (by omega)
      rw [show min (v * base + dv c) 256 = 256 by omega]
      omega

theorem val_range (base : Int) (hb : 1 ≤ base) (v : Int) (l : List Int) (h0 : 0 ≤ v) (h : v ≤ 256) : 0 ≤ val base v l ∧ val base v l ≤ 256 := by
  rw [val_eq base hb v l h0 h]
  have := uval_ge base hb v l h0
  omega

theorem uval_split (base : Int) : (v : Int) → (l : List Int) → uval base v l = v * base ^ l.length + uval base 0 l
  | v, [] => by simp [uval]
  | v, c :: l => by
    simp only [uval, List.length_cons]
    rw [uval_split base (v * base + dv c) l, uval_split base (0 * base + dv c) l, Int.pow_succ, Int.add_mul, Int.mul_assoc, Int.mul_comm base (base ^ l.length)]
    simp only [Int.zero_mul, Int.zero_add]
    omega

theorem pow_pos' (base : Int) (hb : 1 ≤ base) : (n : Nat) → 1 ≤ base ^ n
  | 0 => by simp
  | n + 1 => by
    rw [Int.pow_succ]
    have h := pow_pos' base hb n
    have := Int.mul_le_mul_of_nonneg_left hb (show 0 ≤ base ^ n by omega)
    omega
theorem pow_mono' (base : Int) (hb : 1 ≤ base) (i : Nat) : (n : Nat) → i ≤ n → base ^ i ≤ base ^ n
  | 0, h => by obtain rfl : i = 0 := by omega
               exact Int.le_refl _
  | n + 1, h => by
    by_cases e : i = n + 1
    · subst e; exact Int.le_refl _
    · have h1 := pow_mono' base hb i n (by omega)
      have h2 := pow_pos' base hb n
      have := Int.mul_le_mul_of_nonneg_left hb (show 0 ≤ base ^ n by omega)
      rw [Int.pow_succ]; omega

/-- THE JOIN: the value of a's digits, then b's. -/
theorem val_join (base : Int) (hb : 1 ≤ base) (a b : List Int) (i : Nat) (hi : i ≤ b.length) (hp : i = b.length ∨ 256 ≤ val base 0 a * base ^ i) :
    val base 0 (a ++ b) = min (val base 0 a * base ^ i + val base 0 b) 256 := by
  have hA := val_eq base hb 0 a (by omega) (by omega)
  have hB := val_eq base hb 0 b (by omega) (by omega)
  have hAB := val_eq base hb 0 (a ++ b) (by omega) (by omega)
  have gA := uval_ge base hb 0 a (by omega)
  have gB := uval_ge base hb 0 b (by omega)
  rw [hAB, uval_append, uval_split base (uval base 0 a) b]
  have hpow := pow_pos' base hb b.length
  have hpi := pow_pos' base hb i
  have hm := pow_mono' base hb i b.length hi
  generalize hX : uval base 0 a = X at *
  generalize hY : uval base 0 b = Y at *
  by_cases hbig : 256 ≤ val base 0 a * base ^ i
  · have h1 : val base 0 a ≤ X := by omega
    have h2 : val base 0 a * base ^ i ≤ X * base ^ i := mul_le _ _ _ h1 (by omega)
    have h3 : X * base ^ i ≤ X * base ^ b.length := Int.mul_le_mul_of_nonneg_left hm gA
    omega
  · obtain rfl : i = b.length := by rcases hp with h | h; exact h; exact absurd h hbig
    have h4 : val base 0 a * 1 ≤ val base 0 a * base ^ b.length := Int.mul_le_mul_of_nonneg_left hpow (by omega)
    have h5 : val base 0 a = X := by omega
    rw [h5] at hbig ⊢
    rw [hB]
    have h6 : 0 ≤ X * base ^ b.length := Int.mul_nonneg gA (by omega)
    generalize X * base ^ b.length = Z at *
    omega

/-- How many digits are read when at most 'max' are (0: no bound). -/
def nread (base : Int) (max : Int) (l : List Int) : Nat := if 0 < max ∧ max < (run base l : Int) then max.toNat else run base l
theorem nread_le (base max : Int) (l : List Int) : nread base max l ≤ run base l := by unfold nread; split <;> omega
theorem nread_zero (base : Int) (l : List Int) : nread base 0 l = run base l := by simp [nread]

theorem run_take (base : Int) : (l : List Int) → (n : Nat) → n ≤ run base l → run base (l.take n) = n
  | [], n, h => by simp [run] at h; subst h; rfl
  | c :: l, 0, h => rfl
  | c :: l, n + 1, h => by
    simp only [run] at h
    split at h
    · rename_i hc
      simp only [List.take_succ_cons, run, hc, if_true]
      rw [run_take base l n (by omega)]
    · omega
theorem run_append_lt (base : Int) : (a b : List Int) → run base a < a.length → run base (a ++ b) = run base a
  | [], b, h => by simp [run] at h
  | c :: a, b, h => by
    simp only [run, List.length_cons, List.cons_append] at h ⊢
    split
    · rename_i hc
      rw [if_pos hc] at h
      rw [run_append_lt base a b (by omega)]
    · rfl
theorem run_append_all (base : Int) : (a b : List Int) → run base a = a.length → run base (a ++ b) = a.length + run base b
  | [], b, h => by simp
  | c :: a, b, h => by
    simp only [run, List.length_cons, List.cons_append] at h ⊢
    split
    · rename_i hc
      rw [if_pos hc] at h
      rw [run_append_all base a b (by omega)]
      omega
    · rename_i hc; rw [if_neg hc] at h; omega
/-- Every byte ahead of the run's end is a digit; the one at its end is not. -/
theorem run_dig (base : Int) : (l : List Int) → (k : Nat) → k < run base l → dv (l.getD k 0) < base
  | [], k, h => by simp [run] at h
  | c :: l, 0, h => by
    simp only [run] at h
    split at h
    · simpa
    · omega
  | c :: l, k + 1, h => by
    simp only [run] at h
    split at h
    · simpa using run_dig base l k (by omega)
    · omega
theorem run_stop (base : Int) : (l : List Int) → run base l < l.length → base ≤ dv (l.getD (run base l) 0)
  | [], h => by simp at h
  | c :: l, h => by
    simp only [run, List.length_cons] at h ⊢
    split
    · rename_i hc
      rw [if_pos hc] at h
      simpa using run_stop base l (by omega)
    · rename_i hc; simp; omega
theorem run_next (base : Int) (l : List Int) (k : Nat) (h : k ≤ run base l) (hk : k < l.length) (hd : dv (l.getD k 0) < base) : k + 1 ≤ run base l := by
  by_cases e : k = run base l
  · subst e; have := run_stop base l hk; omega
  · omega
theorem run_end (base : Int) (l : List Int) (k : Nat) (h : k ≤ run base l) (hd : base ≤ dv (l.getD k 0)) : run base l = k := by
  by_cases e : k = run base l
  · exact e.symm
  · have := run_dig base l k (by omega); omega

theorem take_snoc (l : List Int) (k : Nat) (h : k < l.length) : l.take (k + 1) = l.take k ++ [l.getD k 0] := by
  rw [List.take_succ_eq_append_getElem h]; simp [List.getD, h]
theorem val_snoc (base : Int) (l : List Int) (k : Nat) (h : k < l.length) : val base 0 (l.take (k + 1)) = min (val base 0 (l.take k) * base + dv (l.getD k 0)) 256 := by
  rw [take_snoc l k h, val_append]; rfl

/-- The reading of 'digits'. -/
def digV (base max : Int) (l : List Int) : Int := val base 0 (l.take (nread base max l))

/-- FnDigitsJoinAtAnyCut: where a's run stops inside a. -/
theorem join_inside (base : Int) (a b : List Int) (h : run base a < a.length) : run base (a ++ b) = run base a ∧ digV base 0 (a ++ b) = digV base 0 a := by
  have e := run_append_lt base a b h
  refine ⟨e, ?_⟩
  unfold digV
  rw [nread_zero, nread_zero, e, List.take_append_of_le_length (by omega)]
theorem join_over (base : Int) (hb : 1 ≤ base) (a b : List Int) (h : run base a = a.length) (i : Nat) (hi : i ≤ run base b) (hp : i = run base b ∨ 256 ≤ digV base 0 a * base ^ i) :
    run base (a ++ b) = a.length + run base b ∧ digV base 0 (a ++ b) = min (digV base 0 a * base ^ i + digV base 0 b) 256 := by
  have e := run_append_all base a b h
  have hl := run_le base b
  refine ⟨e, ?_⟩
  unfold digV at hp ⊢
  rw [nread_zero] at hp
  rw [nread_zero, nread_zero, nread_zero, e]
  rw [h, List.take_of_length_le (Nat.le_refl a.length)] at hp ⊢
  rw [show (a ++ b).take (a.length + run base b) = a ++ b.take (run base b) by rw [List.take_append, List.take_of_length_le (by omega)]; simp]
  exact val_join base hb a (b.take (run base b)) i (by simp; omega) (by simp; omega)
theorem first_yes (base : Int) (l : List Int) (h : 0 < l.length) (hd : dv (l.getD 0 0) < base) : 1 ≤ run base l ∧ (run base l = 1 → digV base 0 l = dv (l.getD 0 0)) := by
  refine ⟨run_next base l 0 (Nat.zero_le _) h hd, fun e => ?_⟩
  unfold digV
  rw [nread_zero, e, val_snoc base l 0 h]
  have := dv_range (l.getD 0 0)
  show min (0 * base + dv (l.getD 0 0)) 256 = _
  omega
theorem first_no (base : Int) (l : List Int) (h : ¬ (0 < l.length ∧ dv (l.getD 0 0) < base)) : run base l = 0 ∧ digV base 0 l = 0 := by
  have e : run base l = 0 := by
    match l, h with
    | [], _ => rfl
    | c :: l, h => simp only [run]; rw [if_neg]; intro hc; exact h ⟨by simp, by simpa⟩
  exact ⟨e, by unfold digV; rw [nread_zero, e]; rfl⟩

/-- FnDigitsMaxCutsTheRun. -/
theorem max_cuts (base max : Int) (l : List Int) : run base (l.take (nread base max l)) = nread base max l ∧ digV base 0 (l.take (nread base max l)) = digV base max l := by
  have h := run_take base l (nread base max l) (nread_le base max l)
  refine ⟨h, ?_⟩
  unfold digV
  rw [nread_zero, h, List.take_take, Nat.min_self]

/-! ### AppendQuoted -/
/-- A hex digit's byte. -/
def hexD (n : Int) : Int := if n < 10 then 48 + n else 87 + n
/-- What AppendQuoted writes for one byte. -/
def esc (c : Int) : List Int :=
  if c = 92 ∨ c = 34 then [92, c]
  else if c = 10 then [92, 110]
  else if c = 9 then [92, 116]
  else if c = 13 then [92, 114]
  else if c < 32 ∨ c = 127 then [92, 120, hexD (c / 16), hexD (c % 16)]
  else [c]
def escAll (l : List Int) : List Int := l.flatMap esc
def quoted (l : List Int) : List Int := 34 :: (escAll l ++ [34])

theorem esc_len (c : Int) : 1 ≤ (esc c).length ∧ (esc c).length ≤ 4 := by
  unfold esc
  repeat' split
  all_goals simp
theorem escAll_nil : escAll [] = [] := rfl
theorem escAll_cons (c : Int) (l : List Int) : escAll (c :: l) = esc c ++ escAll l := by simp [escAll]
theorem escAll_append (a b : List Int) : escAll (a ++ b) = escAll a ++ escAll b := by simp [escAll]
theorem escAll_len : (l : List Int) → l.length ≤ (escAll l).length ∧ (escAll l).length ≤ 4 * l.length
  | [] => by simp [escAll]
  | c :: l => by
    have h1 := esc_len c
    have h2 := escAll_len l
    rw [escAll_cons, List.length_append, List.length_cons]; omega
theorem escAll_snoc (l : List Int) (k : Nat) (h : k < l.length) : escAll (l.take (k + 1)) = escAll (l.take k) ++ esc (l.getD k 0) := by
  rw [take_snoc l k h, escAll_append]; simp [escAll]
theorem quoted_len (l : List Int) : (quoted l).length = (escAll l).length + 2 := by simp [quoted]

/-- FnAppendQuotedSplitsAtAnyCut. -/
theorem split_at (a b : List Int) : (quoted a).take ((quoted a).length - 1) ++ (quoted b).drop 1 = quoted (a ++ b) := by
  have h : (quoted a).take ((quoted a).length - 1) = 34 :: escAll a := by
    rw [quoted_len, show (escAll a).length + 2 - 1 = (escAll a).length + 1 by omega]
    simp [quoted]
  rw [h]
  simp [quoted, escAll_append]

end Go.Proofs.Qxb6620857a.Pl
