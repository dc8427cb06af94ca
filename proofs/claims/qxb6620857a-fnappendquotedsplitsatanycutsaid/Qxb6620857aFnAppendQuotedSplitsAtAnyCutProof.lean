import Derived.Test.Qxb6620857aRows
import Derived.WalkKit
import Derived.ProofKit
import Derived.OpenShut
import Derived.ShutString
import Derived.ChangeOld
import Derived.Below
import Derived.Test.Qxb6620857aRd
namespace Go.Proofs.Qxb6620857a.fnAppendQuotedSplitsAtAnyCut
open Go.ChangeShapes Go.WideShapes Go.ChangeAt Go.RowKit
open Go.ChangeMaps (open_string shut_string)
set_option linter.unusedVariables false

theorem own : ownKnob Try.prog.godebug = none := by kernel_rfl
theorem laidOut : laidOutB Try.prog = true := by kernel_rfl

/-- WHAT THE WALK IS TOLD OF A SLICE OF INTEGERS THAT CAME IN: it is nil; or it leads to a row of 'cap' cells, the numbers 'zs' (the first 'len' are its elements, the rest its spare room), each fitting its kind. -/
def IsRow (k : IntKind) (w : World) (a : Option Addr) (len cap : Nat) (zs : List Int) : Prop :=
  (a = none ∧ len = 0 ∧ cap = 0 ∧ zs = []) ∨
  ∃ x, a = some x ∧ len ≤ cap ∧ cap ≤ maxLen ∧ zs.length = cap ∧ (∀ i, i < zs.length → w.cell? (x.add i) = some (.int k (zs.getD i 0))) ∧ ∀ n ∈ zs, (Lit.int k n).wf = true

open Go.Proofs.Qxb6620857a.Wk

theorem zz_big (ao : Option Addr) (n cap : Nat) (s : ByteArray) (m : Int) (hn : n ≤ maxLen) (hs : s.size ≤ maxLen) (h : 1048576 < n + s.size) (w : World) :
    Calls Try.prog 13 #[.slice ao n cap, .string s, .int .i64 m] w fun e w' => e = .returned (.bool false) ∧ w' = w := by
  unfold maxLen at hn hs
  by_cases h1 : 1048576 < n
  · go_enter Try.func13, Try.ntmps13
    go_wp2
    go_ret
    exact ⟨rfl, rfl⟩
  by_cases h2 : 1048576 < s.size
  · go_enter Try.func13, Try.ntmps13
    go_wp2
    go_ret
    exact ⟨rfl, rfl⟩
  · go_enter Try.func13, Try.ntmps13
    go_wp2
    go_ret
    exact ⟨rfl, rfl⟩
theorem zz_ok (ao : Option Addr) (n cap : Nat) (s : ByteArray) (m : Int) (h : n + s.size ≤ 1048576) (w : World) :
    Calls Try.prog 13 #[.slice ao n cap, .string s, .int .i64 m] w fun e w' => e = .returned (.bool true) ∧ w' = w := by
  go_enter Try.func13, Try.ntmps13
  go_wp2
  go_ret
  exact ⟨rfl, rfl⟩

/-- The quoting of a part, onto nil. -/
theorem quote_part (t : ByteArray) (m : Nat) (hm : t.size = m) (hm2 : m ≤ 65536) (w : World) :
    Calls Try.prog 10 #[.slice none 0 0, .string t] w fun e w' => ∃ g cap L, e = .returned (.slice (some ⟨g, 0, none⟩) L cap) ∧ Rd w' (some ⟨g, 0, none⟩) L (Pl.quoted (bs t)) ∧
      m + 2 ≤ L ∧ L ≤ 4 * m + 2 ∧ L ≤ cap ∧ cap ≤ 9223372036854775807 ∧ Below w.heap.size w w' := by
  refine (quote_rd none 0 [] t w (Rd.nil w) (by omega) (by omega)).mono ?_
  rintro e w' ⟨g, cap, L, rfl, h1, h2, h3, h4, h5, h6⟩
  exact ⟨g, cap, L, rfl, h1, by omega, by omega, h4, h5, h6⟩

theorem bs_cut (s : ByteArray) (k : Nat) (hk : k ≤ s.size) : bs (s.extract 0 k) ++ bs (s.extract k s.size) = bs s := by
  simp only [bs, ← List.map_append]
  congr 1
  rw [ByteArray.data_extract, ByteArray.data_extract, Array.toList_extract, Array.toList_extract]
  simp only [List.extract, List.drop_zero, Nat.sub_zero]
  rw [List.take_of_length_le (l := List.drop k s.data.toList) (by simp)]
  exact List.take_append_drop _ _

set_option maxHeartbeats 2000000 in
theorem walk_in (ao : Option Addr) (n cap : Nat) (xs : List Int) (s : ByteArray) (k : Nat) (w : World) (h : Rd w ao n xs) (hc : ao = none → cap = 0) (hn : n ≤ 65536) (hs : s.size ≤ 65536) (hk : k ≤ s.size) :
    Calls Try.prog 4 #[.slice ao n cap, .string s, .int .i64 k] w fun e w' => e = .returned (.bool true) ∧ Below w.heap.size w w' := by
  have HC : Hid (ao = none → cap = 0) := hc
  clear hc
  obtain ⟨i0, hi, hz0, hz1, hz2⟩ := info_parts info5
  go_enter Try.func4, Try.ntmps4
  go_wp2_with (go_at_call 13; refine (zz_ok _ _ _ _ _ (by omega) _).mono ?_; rintro e w' ⟨rfl, rfl⟩)
  refine (clone_any ao n cap xs _ h HC.out (by omega)).mono ?_
  rintro e w1 ⟨a1, rfl, r1, B1⟩
  go_wp2_with fail
  refine (clone_any a1 n n xs _ r1 (fun e => r1.2.1 e) (by omega)).mono ?_
  rintro e w2 ⟨a2, rfl, r2, B2⟩
  go_wp2_with fail
  refine (quote_rd a1 n xs s _ (r1.later B2) (by omega) (by omega)).mono ?_
  rintro e w3 ⟨g3, c3, L3, rfl, r3, l3a, l3b, l3c, l3d, B3⟩
  go_wp2_with fail
  refine (quote_part (s.extract 0 k) k (by rw [ByteArray.size_extract]; omega) (by omega) _).mono ?_
  rintro e w4 ⟨g4, c4, L4, rfl, r4, l4a, l4b, l4c, l4d, B4⟩
  go_wp2_with fail
  refine (quote_part (s.extract k s.size) (s.size - k) (by rw [ByteArray.size_extract]; omega) (by omega) _).mono ?_
  rintro e w5 ⟨g5, c5, L5, rfl, r5, l5a, l5b, l5c, l5d, B5⟩
  have q2 : Hid (Rd w5 a2 n xs) := ((r2.later B3).later B4).later B5
  have q3 : Hid (Rd w5 (some ⟨g3, 0, none⟩) L3 (xs ++ Pl.quoted (bs s))) := (r3.later B4).later B5
  have q4 : Hid (Rd w5 (some ⟨g4, 0, none⟩) L4 (Pl.quoted (bs (s.extract 0 k)))) := r4.later B5
  have q5 : Hid (Rd w5 (some ⟨g5, 0, none⟩) L5 (Pl.quoted (bs (s.extract k s.size)))) := r5
  have BB : Hid (Below w'.heap.size w' w5) := (((B1.trans (B2.mono B1.size)).trans (B3.mono (Nat.le_trans B1.size B2.size))).trans (B4.mono (Nat.le_trans (Nat.le_trans B1.size B2.size) B3.size))).trans (B5.mono (Nat.le_trans (Nat.le_trans (Nat.le_trans B1.size B2.size) B3.size) B4.size))
  clear r1 r2 r3 r4 r5 B1 B2 B3 B4 B5
  go_wp2_with (first | (at_make; refine wpList_make_own _ rfl _ _ 22 rfl w5.heap.size 5 i0 (.int .u8 0) 1 Try.underlying22 hi hz0 hz1 .i64 .i64 _ (n + L4 + L5) rfl rfl (by omega) (by rw [hz2]; omega) (by unfold maxLen; omega) (Nat.le_refl _) ?_; intro w6 hown6 hgrow6; have b6 : Hid (Below w5.heap.size w5 w6) := (Below.refl _ w5).grown hgrow6 (Nat.le_refl _) (fun k hk => by cases hk); have o6 : Hid (Owns w6 w5.heap.size (.slice (some ⟨w5.heap.size, 0, none⟩) 0 (n + L4 + L5)) []) := hown6; clear hown6 hgrow6) | (at_builtin; refine app_slice (W := w5) _ rfl (.tmp 84) (.tmp 85) rfl w5.heap.size w5.heap.size 0 (n + L4 + L5) [] rfl o6.out rfl a2 n n xs rfl (fun e => q2.out.2.1 e) (q2.out.later b6.out) n (by omega) (by omega) b6.out.size b6.out (Nat.le_refl _) ?_; intro w7 hown7 hbel7; have o7 : Hid (Owns w7 w5.heap.size (.slice (some ⟨w5.heap.size, 0, none⟩) n (n + L4 + L5)) ([] ++ xs)) := hown7; have b7 : Hid (Below w5.heap.size w5 w7) := hbel7; clear hown7 hbel7 o6 b6) | (at_builtin; refine app_slice (W := w5) _ rfl (.tmp 87) (.tmp 92) rfl w5.heap.size w5.heap.size n (n + L4 + L5) ([] ++ xs) rfl o7.out q2.out.1 (some ⟨g4, 0, none⟩) (L4 - 1) c4 _ rfl (fun e => none_absurd e) ((q4.out.later b7.out).front (L4 - 1) (by omega)) (n + (L4 - 1)) rfl (by omega) b7.out.size b7.out (Nat.le_refl _) ?_; intro w8 hown8 hbel8; have l8 := (q4.out.later b7.out).front (L4 - 1) (by omega); have o8 : Hid (Owns w8 w5.heap.size (.slice (some ⟨w5.heap.size, 0, none⟩) (n + (L4 - 1)) (n + L4 + L5)) ([] ++ xs ++ (Pl.quoted (bs (s.extract 0 k))).take (L4 - 1)) ∧ ([] ++ xs ++ (Pl.quoted (bs (s.extract 0 k))).take (L4 - 1)).length = n + (L4 - 1)) := ⟨hown8, by rw [List.length_append, l8.1, List.nil_append, q2.out.1]⟩; have b8 : Hid (Below w5.heap.size w5 w8) := hbel8; clear hown8 hbel8 o7 b7 l8) | (at_builtin; refine app_slice (W := w5) _ rfl (.tmp 94) (.tmp 96) rfl w5.heap.size w5.heap.size (n + (L4 - 1)) (n + L4 + L5) _ rfl o8.out.1 o8.out.2 (some ⟨g5, 1, none⟩) (L5 - 1) (c5 - 1) _ rfl (fun e => none_absurd e) ((q5.out.later b8.out).tail 1 (by omega)) (n + (L4 - 1) + (L5 - 1)) rfl (by omega) b8.out.size b8.out (Nat.le_refl _) ?_; intro w9 hown9 hbel9; have l9 := ((q5.out.later b8.out).tail 1 (by omega)).1; have o9 : Hid (Rd w9 (some ⟨w5.heap.size, 0, none⟩) (n + (L4 - 1) + (L5 - 1)) ([] ++ xs ++ (Pl.quoted (bs (s.extract 0 k))).take (L4 - 1) ++ (Pl.quoted (bs (s.extract k s.size))).drop 1)) := hown9.rd (by rw [List.length_append, o8.out.2, l9]); have b9 : Hid (Below w5.heap.size w5 w9) := hbel9; clear hown9 hbel9 o8 b8 l9))
  have hlist : [] ++ xs ++ (Pl.quoted (bs (s.extract 0 k))).take (L4 - 1) ++ (Pl.quoted (bs (s.extract k s.size))).drop 1 = xs ++ Pl.quoted (bs s) := by
    rw [← bs_cut s k hk, ← Pl.split_at, q4.out.1]; simp
  have q9 := o9.out
  rw [hlist] at q9
  refine (same_yes _ _ _ _ _ _ _ _ (q3.out.later b9.out) q9 (by omega)).mono ?_
  rintro e w10 ⟨rfl, b10⟩
  go_wp2
  go_ret
  refine ⟨rfl, (BB.out.trans (b9.out.mono BB.out.size)).trans (b10.mono ?_)⟩
  exact Nat.le_trans BB.out.size b9.out.size

theorem walk (a0 : Option Addr) (len0 cap0 : Nat) (z0 : List Int) (a1 : ByteArray) (a2 : Int) (w : World) (w0 : IsRow .u8 w a0 len0 cap0 z0) (w1 : a1.size ≤ maxLen) (w2 : (Lit.int .i64 a2).wf = true) :
    Calls Try.prog 4 #[.slice a0 len0 cap0, .string a1, .int .i64 a2] w fun e w' => e = .returned (.bool true) ∧ Below w.heap.size w w' := by
  have b2 := bounds_i64 w2
  have hrd : Rd w a0 len0 (z0.take len0) ∧ (a0 = none → cap0 = 0) ∧ len0 ≤ maxLen := by
    rcases w0 with ⟨rfl, rfl, rfl, rfl⟩ | ⟨x, rfl, hlc, hcm, hz, hcell, _⟩
    · exact ⟨Rd.nil w, fun _ => rfl, by unfold maxLen; omega⟩
    · refine ⟨And.intro (by simp; omega) (And.intro (fun e => none_absurd e) fun b hb j hj => ?_), fun e => none_absurd e, Nat.le_trans hlc hcm⟩
      obtain rfl := Option.some.inj hb
      rw [hcell j (by omega)]
      simp [List.getD, hj]
  obtain ⟨h, hc, hln⟩ := hrd
  have hls := w1
  have hln' := hln
  unfold maxLen at hls hln'
  clear w0
  by_cases h1 : 1048576 < len0 + a1.size
  · go_enter Try.func4, Try.ntmps4
    go_wp2_with (go_at_call 13; refine (zz_big _ _ _ _ _ hln w1 h1 _).mono ?_; rintro e w' ⟨rfl, rfl⟩)
    go_ret
    exact ⟨rfl, Below.refl _ _⟩
  by_cases h2 : 65536 < len0
  · go_enter Try.func4, Try.ntmps4
    go_wp2_with (go_at_call 13; refine (zz_ok _ _ _ _ _ (by omega) _).mono ?_; rintro e w' ⟨rfl, rfl⟩)
    go_ret
    exact ⟨rfl, Below.refl _ _⟩
  by_cases h3 : 65536 < a1.size
  · go_enter Try.func4, Try.ntmps4
    go_wp2_with (go_at_call 13; refine (zz_ok _ _ _ _ _ (by omega) _).mono ?_; rintro e w' ⟨rfl, rfl⟩)
    go_ret
    exact ⟨rfl, Below.refl _ _⟩
  by_cases h4 : a2 < 0
  · go_enter Try.func4, Try.ntmps4
    go_wp2_with (go_at_call 13; refine (zz_ok _ _ _ _ _ (by omega) _).mono ?_; rintro e w' ⟨rfl, rfl⟩)
    go_ret
    exact ⟨rfl, Below.refl _ _⟩
  by_cases h5 : (a1.size : Int) < a2
  · go_enter Try.func4, Try.ntmps4
    go_wp2_with (go_at_call 13; refine (zz_ok _ _ _ _ _ (by omega) _).mono ?_; rintro e w' ⟨rfl, rfl⟩)
    go_ret
    exact ⟨rfl, Below.refl _ _⟩
  obtain ⟨k, rfl⟩ := Int.eq_ofNat_of_zero_le (show 0 ≤ a2 by omega)
  exact walk_in a0 len0 cap0 _ a1 k w h hc (by omega) (by omega) (by omega)

/-! ### THE ROW's STEP: WRITTEN OUT: LEAVE IT -/
set_option maxRecDepth 100000 in
theorem lifted (os : Os) (started : os.Started) (H : Type) (enc : TypeId × Value → H) :
    ReturnsInHanded {} Try.checked os 4 .any (Rows.fnAppendQuotedSplitsAtAnyCutSpec.pre6 enc Try.prog Try.f4 Rows.fnAppendQuotedSplitsAtAnyCutRow.domain false) (Rows.fnAppendQuotedSplitsAtAnyCutSpec.post enc Try.prog Try.f4 false true false false) := by
  refine returnsInHanded_of_change (C := Try.checked) own started (by kernel_rfl) Try.func4
    (ChangeSpec.witness6 (enc := enc) (C := Try.checked) false ⟨#[], #[.slice none 0 0, .string ByteArray.empty, .int .i64 0], []⟩ 8 (by kernel_rfl) (by kernel_rfl) (by kernel_rfl) (by kernel_rfl)) ?_
  intro W base args ds gs before hval0 hW hcnd _
  have hval : ∀ (j : Nat) t v, Try.f4.params[j]? = some t → args[j]? = some v → Value.okWide Try.prog W .any base t v := hval0
  have hW' := hW
  obtain ⟨p, q, hA0, hV, rfl, hfz, hnd⟩ := hW
  have hA : DataW.TrodAll enc Try.prog W 0 (fun _ => true) true Try.f4.params.toList args.toList ds p := hA0
  rw [Try.params4] at hA hval
  obtain ⟨v0, vs0, d0, ds0, p0, q0, hargs, rfl, rfl, h0, r0⟩ := trodAll_cons hA
  obtain ⟨v1, vs1, d1, ds1, p1, q1, rfl, rfl, rfl, h1, r1⟩ := trodAll_cons r0
  obtain ⟨v2, vs2, d2, ds2, p2, q2, rfl, rfl, rfl, h2, r2⟩ := trodAll_cons r1
  obtain ⟨rfl, rfl, rfl⟩ := trodAll_nil r2
  obtain rfl : args = #[v0, v1, v2] := by cases args; simp_all
  obtain ⟨rfl, rfl⟩ := trodVars_none hV
  obtain ⟨a0, len0, cap0, rfl⟩ := okWide_slice Try.underlying22 (hval 0 22 v0 rfl rfl)
  have k0 := h0
  have lt0 : ∀ x ∈ p0, x.block < W.heap.size := by obtain ⟨m, hm⟩ := k0; exact DataW.trod_lt m _ _ _ hm
  obtain ⟨z0, w0⟩ : ∃ zs, IsRow .u8 W a0 len0 cap0 zs := by
    obtain ⟨fuel, hf⟩ := h0
    rcases open_ints Try.underlying22 Try.underlying5 (by kernel_rfl) hf with ⟨hcs, _⟩ | ⟨x, l, c, zs, hcs, _, hl, hm, hz, _, hcell, hwz⟩
    · simp [Value.cells] at hcs
      obtain ⟨rfl, rfl, rfl⟩ := hcs
      exact ⟨[], .inl ⟨rfl, rfl, rfl, rfl⟩⟩
    · simp [Value.cells] at hcs
      obtain ⟨rfl, rfl, rfl⟩ := hcs
      exact ⟨zs, .inr ⟨_, rfl, hl, hm, by simpa using hz, hcell, hwz⟩⟩
  obtain ⟨a1, rfl, rfl, rfl, w1⟩ := open_string Try.underlying9 (hval 1 9 v1 rfl rfl) h1
  obtain ⟨a2, rfl, rfl, rfl, w2⟩ := open_int Try.underlying3 (hval 2 3 v2 rfl rfl) h2
  clear hA0 hval0
  refine (walk a0 len0 cap0 z0 a1 a2 W w0 w1 w2).mono fun e W' ⟨he, bel⟩ => ?_
  subst he
  exact ⟨_, rfl, _, _, _, [], _, [], hW', trodAll_mk1 (shut_bool Try.underlying4 _), (trodAll_cons_mk (Below.trod laidOut (by kernel_rfl) (of_decide_eq_true (by kernel_rfl)) k0 bel lt0) (trodAll_cons_mk (shut_string Try.underlying9 w1) (trodAll_cons_mk (shut_int Try.underlying3 w2) trodAll_mk0))), rfl, bel.frame _, fun h => by cases h⟩

theorem over : Rows.fnAppendQuotedSplitsAtAnyCutRow.holds Try.pinned (OpenSpec.ofChange Rows.fnAppendQuotedSplitsAtAnyCutSpec) :=
  OpenClaim.holds_of_wide 4 Try.f4 rfl rfl rfl rfl rfl rfl rfl ⟨rfl, rfl, rfl, rfl, rfl⟩ rfl rfl rfl rfl rfl (by kernel_rfl) Try.func4 (by kernel_rfl)
    (of_decide_eq_true (by kernel_rfl)) (by unfold Func.isWrapper; first | (rw [if_pos (by decide +kernel)]; kernel_rfl) | (rw [if_neg (by decide +kernel)]; exact ⟨rfl, rfl⟩))
    (fun os started H enc _ => lifted os started H enc)

/-- ████ THE STATEMENT ████ -/
theorem proved : Rows.FnAppendQuotedSplitsAtAnyCutSaid := over
#print axioms proved
end Go.Proofs.Qxb6620857a.fnAppendQuotedSplitsAtAnyCut
