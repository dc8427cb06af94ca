import Derived.Test.Qxb6620857aQuo
import Derived.WalkSmall
namespace Go.Proofs.Qxb6620857a.Wk
open Go.RowKit Go.WideShapes

/-- The slice (ao, n) reads the bytes xs in w. -/
def Rd (w : World) (ao : Option Addr) (n : Nat) (xs : List Int) : Prop :=
  xs.length = n ∧ (ao = none → n = 0) ∧ ∀ b, ao = some b → ∀ j, j < n → w.cell? (b.add j) = some (.int .u8 (xs.getD j 0))

theorem Rd.later {w w' : World} {ao : Option Addr} {n : Nat} {xs : List Int} (h : Rd w ao n xs) (hb : Below w.heap.size w w') : Rd w' ao n xs :=
  ⟨h.1, h.2.1, fun b hb' j hj => cell_later hb (h.2.2 b hb' j hj)⟩
theorem Rd.len {w : World} {ao : Option Addr} {n : Nat} {xs : List Int} (h : Rd w ao n xs) : xs.length = n := h.1
theorem Rd.nil (w : World) : Rd w none 0 [] := ⟨rfl, fun _ => rfl, fun b hb => by cases hb⟩
/-- Where there is an element the address is plain. -/
theorem Rd.at {w : World} {ao : Option Addr} {n : Nat} {xs : List Int} (h : Rd w ao n xs) (hn : 0 < n) :
    ∃ b o, ao = some ⟨b, o, none⟩ ∧ b < w.heap.size ∧ ∀ j, j < n → w.cell? ⟨b, o + j, none⟩ = some (.int .u8 (xs.getD j 0)) := by
  cases ao with
  | none => have := h.2.1 rfl; omega
  | some x =>
    obtain ⟨b, o, sp⟩ := x
    have h0 := h.2.2 _ rfl 0 hn
    have hsp := World.cell?_spot h0
    have hsp' : sp = none := by simpa [Addr.add] using hsp
    subst hsp'
    have hb := World.block_lt_of_cell? _ _ h0
    rw [add_plain] at hb
    exact ⟨b, o, rfl, hb, fun j hj => by rw [← add_plain]; exact h.2.2 _ rfl j hj⟩
theorem none_absurd {x : Addr} {p : Prop} (e : some x = none) : p := by cases e
theorem Rd.mk' {w : World} {b o n : Nat} {xs : List Int} (hl : xs.length = n) (h : ∀ j, j < n → w.cell? ⟨b, o + j, none⟩ = some (.int .u8 (xs.getD j 0))) : Rd w (some ⟨b, o, none⟩) n xs :=
  And.intro hl (And.intro (fun e => none_absurd e) (fun b' hb j hj => by
    obtain rfl := Option.some.inj hb
    rw [add_plain]; exact h j hj))
theorem Rd.zero {w : World} (ao : Option Addr) : Rd w ao 0 [] := ⟨rfl, fun _ => rfl, fun _ _ j hj => by omega⟩
/-- A slice of it. -/
theorem Rd.sub {w : World} {b o n : Nat} {xs : List Int} (h : Rd w (some ⟨b, o, none⟩) n xs) (i m : Nat) (hm : i + m ≤ n) : Rd w (some ⟨b, o + i, none⟩) m ((xs.drop i).take m) := by
  have hl := h.1
  refine Rd.mk' (by simp; omega) fun j hj => ?_
  have := h.2.2 _ rfl (i + j) (by omega)
  rw [add_plain, ← Nat.add_assoc] at this
  rw [this]
  simp [List.getD, hj]
theorem Rd.front {w : World} {x : Addr} {n : Nat} {xs : List Int} (h : Rd w (some x) n xs) (m : Nat) (hm : m ≤ n) : Rd w (some x) m (xs.take m) := by
  have hl := h.1
  refine And.intro (by simp; omega) (And.intro (fun e => none_absurd e) fun b hb j hj => ?_)
  rw [h.2.2 b hb j (by omega)]
  simp [List.getD, hj]
theorem Rd.tail {w : World} {b n : Nat} {xs : List Int} (h : Rd w (some ⟨b, 0, none⟩) n xs) (i : Nat) (hi : i ≤ n) : Rd w (some ⟨b, i, none⟩) (n - i) (xs.drop i) := by
  have hl := h.1
  have := h.sub i (n - i) (by omega)
  rw [Nat.zero_add, List.take_of_length_le (by simp; omega)] at this
  exact this
theorem Owns.rd {w : World} {base g n cap : Nat} {xs : List Int} (h : Owns w base (.slice (some ⟨g, 0, none⟩) n cap) xs) (hn : xs.length = n) : Rd w (some ⟨g, 0, none⟩) n xs := by
  refine Rd.mk' hn fun j hj => ?_
  subst hn
  have := World.ownsRow.cellAt h j (by omega)
  rw [Nat.zero_add, this]
  simp [List.getD, hj]

/-- AppendQuoted, told by 'Rd'. -/
theorem quote_rd (ao : Option Addr) (n : Nat) (xs : List Int) (s : ByteArray) (w : World) (h : Rd w ao n xs) (hn : n ≤ 1048576) (hs : s.size ≤ 1048576) :
    Calls Try.prog 10 #[.slice ao n n, .string s] w fun e w' => ∃ g cap L, e = .returned (.slice (some ⟨g, 0, none⟩) L cap) ∧ Rd w' (some ⟨g, 0, none⟩) L (xs ++ Pl.quoted (bs s)) ∧
      n + s.size + 2 ≤ L ∧ L ≤ n + 4 * s.size + 2 ∧ L ≤ cap ∧ cap ≤ 9223372036854775807 ∧ Below w.heap.size w w' := by
  refine (appendQuoted_at ao n xs s w h.1 hn hs h.2.1 h.2.2).mono ?_
  rintro e w' ⟨g, cap, rfl, _, _, h3, h4, h5, hbel⟩
  refine ⟨g, cap, _, rfl, Rd.mk' rfl (fun j hj => by rw [Nat.zero_add]; exact h5 j hj), ?_, ?_, h3, ?_, hbel⟩
  · have := (Pl.escAll_len (bs s)).1
    rw [bs_len] at this
    rw [List.length_append, Pl.quoted_len, h.1]; omega
  · have := (Pl.escAll_len (bs s)).2
    rw [bs_len] at this
    rw [List.length_append, Pl.quoted_len, h.1]; omega
  · unfold maxLen at h4; omega

theorem zeros_own {w : World} {base g n : Nat} (h : w.ownsRow base 5 1 (.slice (some ⟨g, 0, none⟩) n n) n (madeCells (Value.int .u8 0).cells (n * 1)).toList) :
    Owns w base (.slice (some ⟨g, 0, none⟩) n n) (List.replicate n 0) := by
  have e : (madeCells (Value.int .u8 0).cells (n * 1)).toList = (List.replicate n (0 : Int)).map (Value.int .u8) := by
    rw [show (Value.int IntKind.u8 0).cells = #[Value.int .u8 0] from rfl, toList_madeCells_one]; simp
  rw [e] at h
  unfold Owns
  rw [List.length_replicate]
  exact h

/-- One store more: the first k + 1 bytes are copied. -/
theorem copy_step (xs : List Int) (n k : Nat) (hl : xs.length = n) (hk : k < n) : (xs.take k ++ List.replicate (n - k) 0).set k (xs.getD k 0) = xs.take (k + 1) ++ List.replicate (n - (k + 1)) 0 := by
  have h1 : n - k = n - (k + 1) + 1 := by omega
  have h2 : (xs.take k).length = k := by simp; omega
  rw [h1, List.replicate_succ, List.set_append_right _ _ (by omega), h2, Nat.sub_self, List.set_cons_zero, Pl.take_snoc xs k (by omega)]
  simp

theorem Owns.stored {w : World} {base g n cap : Nat} {xs : List Int} (h : Owns w base (.slice (some ⟨g, 0, none⟩) n cap) xs) (hn : xs.length = n) (j : Nat) (c : Int) :
    Owns (w.setCell ⟨g, j, none⟩ (.int .u8 c)) base (.slice (some ⟨g, 0, none⟩) n cap) (xs.set j c) := by
  subst hn
  have := (World.ownsRow.stored h j (.int .u8 c)).1
  unfold Owns
  rw [List.length_set, List.map_set]
  exact this

theorem clone_nil (w : World) : Calls Try.prog 9 #[.slice none 0 0] w fun e w' => e = .returned (.slice none 0 0) ∧ w' = w := by
  have q : ∀ (w : World) (a : Option Addr) (n c : Nat), (binOp .eql 22 (.slice a n c) (.slice none 0 0)).run Try.prog w = .ok (.bool a.isNone) w := fun w a n c => Lib.run_eql_slice_nil w 22 5 a n c 0 0 Try.underlying22
  go_enter Try.func9, Try.ntmps9
  go_wp2
  go_ret
  exact ⟨rfl, rfl⟩

set_option maxHeartbeats 1000000 in
theorem clone_some (x : Addr) (n cap : Nat) (xs : List Int) (w : World) (h : Rd w (some x) n xs) (hn : n ≤ 1048576) :
    Calls Try.prog 9 #[.slice (some x) n cap] w fun e w' => e = .returned (.slice (some ⟨w.heap.size, 0, none⟩) n n) ∧ Rd w' (some ⟨w.heap.size, 0, none⟩) n xs ∧ Below w.heap.size w w' := by
  have q : ∀ (w : World) (a : Option Addr) (n c : Nat), (binOp .eql 22 (.slice a n c) (.slice none 0 0)).run Try.prog w = .ok (.bool a.isNone) w := fun w a n c => Lib.run_eql_slice_nil w 22 5 a n c 0 0 Try.underlying22
  obtain ⟨i0, hi, hz0, hz1, hz2⟩ := info_parts info5
  have hl := h.1
  go_enter Try.func9, Try.ntmps9
  go_wp2_with (at_make; refine wpList_make_full _ rfl _ _ 22 rfl w.heap.size 5 i0 (.int .u8 0) 1 Try.underlying22 hi hz0 hz1 .i64 .i64 (n : Int) (n : Int) n rfl rfl rfl rfl (by rw [hz2]; omega) (by unfold maxLen; omega) (Nat.le_refl _) ?_; intro w1 hown1 hgrow1)
  have hO1 : Hid (Owns w1 w.heap.size (.slice (some ⟨w.heap.size, 0, none⟩) n n) (List.replicate n 0)) := zeros_own hown1
  have hB1 : Hid (Below w.heap.size w w1) := (Below.refl _ w).grown hgrow1 (Nat.le_refl _) (fun k hk => by cases hk)
  clear hown1 hgrow1
  go_loopw [4] (fun i wr => ∃ k : Nat, k ≤ n ∧ i = .int .i64 k ∧ Owns wr w.heap.size (.slice (some ⟨w.heap.size, 0, none⟩) n n) (xs.take k ++ List.replicate (n - k) 0) ∧ Below w.heap.size w wr) (fun i _ => n - (intOf i).toNat)
  case atStart => exact ⟨0, Nat.zero_le _, rfl, by simpa using hO1.out, hB1.out⟩
  case round =>
    obtain ⟨k, hk, rfl, hown, hbel⟩ := hrel
    have HO : Hid (Owns wr w.heap.size (.slice (some ⟨w.heap.size, 0, none⟩) n n) (xs.take k ++ List.replicate (n - k) 0)) := hown
    have HB : Hid (Below w.heap.size w wr) := hbel
    have hll : (xs.take k ++ List.replicate (n - k) (0 : Int)).length = n := by simp; omega
    clear hown hbel
    by_cases hlt : k < n
    · obtain ⟨b, o, hx, hb, hc⟩ := h.at (by omega)
      obtain rfl := Option.some.inj hx
      obtain ⟨c, hcv⟩ : ∃ c, xs.getD k 0 = c := ⟨_, rfl⟩
      have g1 : wr.cell? ⟨b, o + k, none⟩ = some (.int .u8 c) := by rw [← hcv]; exact cell_later HB.out (hc k hlt)
      obtain ⟨z, g2⟩ : ∃ z, wr.cell? ⟨w.heap.size, k, none⟩ = some (.int .u8 z) := by
        have := (HO.out.rd hll).2.2 _ rfl k hlt
        rw [add_plain, Nat.zero_add] at this
        exact ⟨_, this⟩
      have g3 : wr.frozen? ⟨w.heap.size, k, none⟩ = false := by
        have := HO.out
        unfold Owns at this
        rw [hll] at this
        exact World.ownsRow.frozenAt this k
      have hS : Hid (Owns (wr.setCell ⟨w.heap.size, k, none⟩ (.int .u8 c)) w.heap.size (.slice (some ⟨w.heap.size, 0, none⟩) n n) (xs.take (k + 1) ++ List.replicate (n - (k + 1)) 0)) := by
        have := HO.out.stored hll k (xs.getD k 0)
        rw [copy_step xs n k hl hlt, hcv] at this
        exact this
      have hS2 : Hid (Below w.heap.size w (wr.setCell ⟨w.heap.size, k, none⟩ (.int .u8 c))) := HB.out.setCell (Nat.le_refl _) _
      clear hcv hc
      go_wp2
      go_roundw
      case rel => exact ⟨k + 1, by omega, by go_num, hS.out, hS2.out⟩
      case measure => simp [intOf]; omega
    · obtain rfl : k = n := by omega
      have hF : Hid (Rd wr (some ⟨w.heap.size, 0, none⟩) k xs) := by
        have := HO.out
        rw [Nat.sub_self, List.replicate_zero, List.append_nil, List.take_of_length_le (by omega)] at this
        exact this.rd hl
      go_wp2
      go_ret
      exact ⟨rfl, hF.out, HB.out⟩

section
variable {ops : Array Oper} {rest : List Oper} {o : Oper} {a : Act} {Q : Exit → Act → World → Prop}
/-- 'v = append(v, x...)' within v's capacity, x whatever slice reads ys. -/
theorem app_slice {W : World} (w0 : World) (hgd : o.guard = none) (s x : Operand) (ho : o.op = .call { callee := .builtin .append, args := #[s, x], argTypes := #[22, 22] })
    (base g n cap : Nat) (xs : List Int) (hs : a.eval s = .slice (some ⟨g, 0, none⟩) n cap) (hown : Owns w0 base (.slice (some ⟨g, 0, none⟩) n cap) xs) (hn : xs.length = n)
    (ao : Option Addr) (m c : Nat) (ys : List Int) (hx : a.eval x = .slice ao m c) (hc0 : ao = none → c = 0) (hrd : Rd w0 ao m ys) (r : Nat) (hr : n + m = r) (hfit : r ≤ cap) (hsz : W.heap.size ≤ w0.heap.size) (hbel : Below W.heap.size W w0) (hg : W.heap.size ≤ g)
    (h : ∀ w', Owns w' base (.slice (some ⟨g, 0, none⟩) r cap) (xs ++ ys) → Below W.heap.size W w' → wpList Try.prog ops Q rest (a.put o.dst (.slice (some ⟨g, 0, none⟩) r cap)) w') :
    wpList Try.prog ops Q (o :: rest) a w0 := by
  obtain ⟨i0, hi, hz0, hz1, hz2⟩ := info_parts info5
  subst hr hn
  have hyl := hrd.1
  refine wpList_append_fits_any w0 hgd s x 22 ho base 5 i0 1 Try.underlying22 hi hz1 g xs.length cap (xs.map (Value.int .u8)) hs hown ao m c (ys.map (Value.int .u8)) hx (by simp [hyl]) (fun e => ⟨hrd.2.1 e, hc0 e⟩) ?_ (ints_oneCell _ _) hfit ?_
  · intro ad had j u hj
    have hlt : j < ys.length := by
      have := (List.getElem?_eq_some_iff.1 hj).1
      simpa using this
    rw [hrd.2.2 ad had j (by omega), ← hj]
    simp [List.getD, hlt]
  · intro w' h1 h2
    refine h w' ?_ (hbel.grown h2 hsz (fun k hk => by cases hk; exact hg))
    unfold Owns
    rw [List.length_append, hyl, List.map_append]
    exact h1
end

/-- cloneBytes. -/
theorem clone_any (ao : Option Addr) (n cap : Nat) (xs : List Int) (w : World) (h : Rd w ao n xs) (hc : ao = none → cap = 0) (hn : n ≤ 1048576) :
    Calls Try.prog 9 #[.slice ao n cap] w fun e w' => ∃ ao', e = .returned (.slice ao' n n) ∧ Rd w' ao' n xs ∧ Below w.heap.size w w' := by
  cases ao with
  | none =>
    obtain rfl := hc rfl
    obtain rfl := h.2.1 rfl
    refine (clone_nil w).mono ?_
    rintro e w' ⟨rfl, rfl⟩
    exact ⟨none, rfl, h, Below.refl _ _⟩
  | some x =>
    refine (clone_some x n cap xs w h hn).mono ?_
    rintro e w' ⟨rfl, h1, h2⟩
    exact ⟨_, rfl, h1, h2⟩

set_option maxHeartbeats 1000000 in
/-- sameBytes of two slices that read the same. -/
theorem same_yes0 (ao bo : Option Addr) (n c d : Nat) (xs : List Int) (w : World) (ha : Rd w ao n xs) (hb : Rd w bo n xs) (hn : n ≤ 16777216) :
    Calls Try.prog 11 #[.slice ao n c, .slice bo n d] w fun e w' => e = .returned (.bool true) ∧ Below w.heap.size w w' := by
  go_enter Try.func11, Try.ntmps11
  go_wp2
  go_loopw [5] (fun i wr => ∃ k : Nat, k ≤ n ∧ i = .int .i64 k ∧ Below w.heap.size w wr) (fun i _ => n - (intOf i).toNat)
  case atStart => exact ⟨0, Nat.zero_le _, rfl, Below.refl _ _⟩
  case round =>
    obtain ⟨k, hk, rfl, hbel⟩ := hrel
    have HB : Hid (Below w.heap.size w wr) := hbel
    clear hbel
    by_cases hlt : k < n
    · obtain ⟨b1, o1, e1, _, hc1⟩ := ha.at (by omega)
      obtain ⟨b2, o2, e2, _, hc2⟩ := hb.at (by omega)
      subst e1 e2
      obtain ⟨z, hz⟩ : ∃ z, xs.getD k 0 = z := ⟨_, rfl⟩
      have g1 : wr.cell? ⟨b1, o1 + k, none⟩ = some (.int .u8 z) := by rw [← hz]; exact cell_later HB.out (hc1 k hlt)
      have g2 : wr.cell? ⟨b2, o2 + k, none⟩ = some (.int .u8 z) := by rw [← hz]; exact cell_later HB.out (hc2 k hlt)
      have hlt' : (k : Int) < (n : Int) := by omega
      have hk0 : (0 : Int) ≤ (k : Int) := by omega
      clear hz hc1 hc2
      go_wp2
      go_quiet (fail)
      go_wp2
      go_roundw
      case rel => exact ⟨k + 1, by omega, by go_num, below_drewN HB.out _⟩
      case measure => simp [intOf]; omega
    · go_wp2
      go_ret
      exact ⟨rfl, HB.out⟩

theorem same_yes (ao bo : Option Addr) (n m c d : Nat) (xs : List Int) (w : World) (ha : Rd w ao n xs) (hb : Rd w bo m xs) (hn : n ≤ 16777216) :
    Calls Try.prog 11 #[.slice ao n c, .slice bo m d] w fun e w' => e = .returned (.bool true) ∧ Below w.heap.size w w' := by
  obtain rfl : n = m := ha.1.symm.trans hb.1
  exact same_yes0 ao bo n c d xs w ha hb hn

end Go.Proofs.Qxb6620857a.Wk
