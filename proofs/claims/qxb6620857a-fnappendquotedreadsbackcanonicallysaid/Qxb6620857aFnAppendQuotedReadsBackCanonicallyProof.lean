import Derived.Test.Qxb6620857aRows
import Derived.WalkKit
import Derived.ProofKit
import Derived.OpenShut
import Derived.ShutString
import Derived.ChangeOld
import Derived.Below
import Derived.Test.Qxb6620857aBody
namespace Go.Proofs.Qxb6620857a.fnAppendQuotedReadsBackCanonically
open Go.ChangeShapes Go.WideShapes Go.ChangeAt Go.RowKit
open Go.ChangeMaps (open_string shut_string)
set_option linter.unusedVariables false

theorem own : ownKnob Try.prog.godebug = none := by kernel_rfl
theorem laidOut : laidOutB Try.prog = true := by kernel_rfl

/-- WHAT THE WALK IS TOLD OF A SLICE OF INTEGERS THAT CAME IN: it is nil; or it leads to a row of 'cap' cells, the numbers 'zs' (the first 'len' are its elements, the rest its spare room), each fitting its kind. -/
def IsRow (k : IntKind) (w : World) (a : Option Addr) (len cap : Nat) (zs : List Int) : Prop :=
  (a = none ∧ len = 0 ∧ cap = 0 ∧ zs = []) ∨
  ∃ x, a = some x ∧ len ≤ cap ∧ cap ≤ maxLen ∧ zs.length = cap ∧ (∀ i, i < zs.length → w.cell? (x.add i) = some (.int k (zs.getD i 0))) ∧ ∀ n ∈ zs, (Lit.int k n).wf = true

open Go.Proofs.Qxb6620857a.Wk

theorem zz_big (ao : Option Addr) (n cap : Nat) (s : ByteArray) (hn : n ≤ maxLen) (hs : s.size ≤ maxLen) (h : 1048576 < n + s.size) (w : World) :
    Calls Try.prog 8 #[.slice ao n cap, .string s] w fun e w' => e = .returned (.bool false) ∧ w' = w := by
  unfold maxLen at hn hs
  by_cases h1 : 1048576 < n
  · go_enter Try.func8, Try.ntmps8
    go_wp2
    go_ret
    exact ⟨rfl, rfl⟩
  by_cases h2 : 1048576 < s.size
  · go_enter Try.func8, Try.ntmps8
    go_wp2
    go_ret
    exact ⟨rfl, rfl⟩
  · go_enter Try.func8, Try.ntmps8
    go_wp2
    go_ret
    exact ⟨rfl, rfl⟩
theorem zz_ok (ao : Option Addr) (n cap : Nat) (s : ByteArray) (h : n + s.size ≤ 1048576) (w : World) :
    Calls Try.prog 8 #[.slice ao n cap, .string s] w fun e w' => e = .returned (.bool true) ∧ w' = w := by
  go_enter Try.func8, Try.ntmps8
  go_wp2
  go_ret
  exact ⟨rfl, rfl⟩

/-- What owns is a slice that reads. -/
theorem owns_slice {w : World} {base : Nat} {v : Value} {xs : List Int} (h : Owns w base v xs) : ∃ ao c, v = .slice ao xs.length c ∧ Rd w ao xs.length xs := by
  rcases h.2 with ⟨rfl, hn⟩ | ⟨g, cap, cur, rfl, _⟩
  · have : xs = [] := List.eq_nil_of_length_eq_zero hn
    subst this
    exact ⟨none, 0, rfl, Rd.nil w⟩
  · exact ⟨_, cap, rfl, Owns.rd h rfl⟩

theorem bs_bytes (s : ByteArray) : ∀ n ∈ bs s, 0 ≤ n ∧ n ≤ 255 := by
  intro n hn
  simp only [bs, List.mem_map] at hn
  obtain ⟨c, _, rfl⟩ := hn
  have : c.toNat < 256 := UInt8.toNat_lt _
  omega

/-- []byte(s): the new row reads s. -/
theorem rd_bytes (w : World) (s : ByteArray) (C : Nat) (fr : Nat × Nat) : Rd (w.drew.alloc (.cells (bytesRow s C) 5 fr)) (some ⟨w.heap.size, 0, none⟩) s.size (bs s) := by
  refine Rd.mk' (bs_len s) fun j hj => ?_
  have h : (w.drew.alloc (.cells (bytesRow s C) 5 fr)).cell? ⟨w.drew.heap.size, 0 + j, none⟩ = (bytesRow s C)[0 + j]? := World.cell?_alloc_mark _ _ _ _ _
  rw [Nat.zero_add] at h ⊢
  have h2 := bytesRow_at s C j hj
  rw [bs_get s j hj]
  exact h.trans h2

theorem get_open (xs l : List Int) (n : Nat) (hn : xs.length = n) : (xs ++ Pl.quoted l).getD n 0 = 34 := by
  subst hn
  simp [List.getD, Pl.quoted]
theorem get_close (xs l : List Int) (n : Nat) (hn : (xs ++ Pl.quoted l).length = n) : (xs ++ Pl.quoted l).getD (n - 1) 0 = 34 := by
  subst hn
  have e : xs ++ Pl.quoted l = (xs ++ 34 :: Pl.escAll l) ++ [34] := by simp [Pl.quoted]
  rw [e]
  generalize xs ++ 34 :: Pl.escAll l = A
  have hA : (A ++ [(34 : Int)]).length - 1 = A.length := by simp
  rw [hA]
  simp [List.getD]
theorem body_list (xs l : List Int) (n m : Nat) (hn : xs.length = n) (hm : (xs ++ Pl.quoted l).length = m) : ((xs ++ Pl.quoted l).drop (n + 1)).take (m - 1 - (n + 1)) = Pl.escAll l := by
  subst hn hm
  rw [List.length_append, Pl.quoted_len]
  have e : xs ++ Pl.quoted l = (xs ++ [34]) ++ (Pl.escAll l ++ [34]) := by simp [Pl.quoted]
  rw [e, List.drop_append_of_le_length (by simp), List.drop_of_length_le (by simp), List.nil_append, List.take_append_of_le_length (by omega), List.take_of_length_le (by omega)]

set_option maxHeartbeats 2000000 in
theorem walk_in (ao : Option Addr) (n cap : Nat) (xs : List Int) (s : ByteArray) (w : World) (h : Rd w ao n xs) (hc : ao = none → cap = 0) (hn : n ≤ 65536) (hs : s.size ≤ 65536) :
    Calls Try.prog 3 #[.slice ao n cap, .string s] w fun e w' => e = .returned (.bool true) ∧ Below w.heap.size w w' := by
  have HC : Hid (ao = none → cap = 0) := hc
  clear hc
  go_enter Try.func3, Try.ntmps3
  go_wp2_with (go_at_call 8; refine (zz_ok _ _ _ _ (by omega) _).mono ?_; rintro e w' ⟨rfl, rfl⟩)
  refine (clone_any ao n cap xs _ h HC.out (by omega)).mono ?_
  rintro e w1 ⟨a1, rfl, r1, B1⟩
  go_wp2_with fail
  refine (clone_any a1 n n xs _ r1 (fun e => r1.2.1 e) (by omega)).mono ?_
  rintro e w2 ⟨a2, rfl, r2, B2⟩
  go_wp2_with fail
  refine (quote_rd a1 n xs s _ (r1.later B2) (by omega) (by omega)).mono ?_
  rintro e w3 ⟨g3, c3, L3, rfl, r3, l3a, l3b, l3c, l3d, B3⟩
  go_wp2_with fail
  have f3 := r3.front n (by omega)
  rw [List.take_append_of_le_length (by rw [r1.1]; exact Nat.le_refl _), List.take_of_length_le (by rw [r1.1]; exact Nat.le_refl _)] at f3
  refine (same_yes _ _ _ _ _ _ _ _ f3 (r2.later B3) (by omega)).mono ?_
  rintro e w4 ⟨rfl, B4⟩
  have q3 : Hid (Rd w4 (some ⟨g3, 0, none⟩) L3 (xs ++ Pl.quoted (bs s))) := r3.later B4
  have BB : Hid (Below w'.heap.size w' w4) := ((B1.trans (B2.mono B1.size)).trans (B3.mono (Nat.le_trans B1.size B2.size))).trans (B4.mono (Nat.le_trans (Nat.le_trans B1.size B2.size) B3.size))
  have hxl : Hid (xs.length = n) := r1.1
  clear r1 r2 r3 f3 B1 B2 B3 B4
  have g1 : w4.cell? ⟨g3, n, none⟩ = some (.int .u8 34) := by
    have := q3.out.2.2 _ rfl n (by omega)
    rw [add_plain, Nat.zero_add, get_open xs (bs s) n hxl.out] at this
    exact this
  have g2 : w4.cell? ⟨g3, L3 - 1, none⟩ = some (.int .u8 34) := by
    have := q3.out.2.2 _ rfl (L3 - 1) (by omega)
    rw [add_plain, Nat.zero_add, get_close xs (bs s) L3 q3.out.1] at this
    exact this
  have q4 : Hid (Rd w4 (some ⟨g3, n + 1, none⟩) (L3 - 1 - (n + 1)) (Pl.escAll (bs s))) := by
    have := q3.out.sub (n + 1) (L3 - 1 - (n + 1)) (by omega)
    rw [Nat.zero_add, body_list xs (bs s) n L3 hxl.out q3.out.1] at this
    exact this
  have hcv : ∀ w : World, Sem.run Try.prog (convert 9 22 (.string s)) w = .ok (.slice (some ⟨w.heap.size, 0, none⟩) s.size (grownCap w s.size 0 5))
      (w.drew.alloc (.cells (bytesRow s (grownCap w s.size 0 5)) 5 ((bytesRow s (grownCap w s.size 0 5)).size, (bytesRow s (grownCap w s.size 0 5)).size + 1))) :=
    fun w => run_bytes_of_string w 9 22 5 s Try.underlying9 Try.underlying22 Try.underlying5
  go_wp2_with fail
  refine (readBody g3 (n + 1) (L3 - 1 - (n + 1)) (c3 - (n + 1)) (bs s) _ q4.out (by omega) (by omega) (by rw [bs_len]; exact hs) (bs_bytes s)).mono ?_
  rintro e w5 ⟨v, rfl, own5, B5⟩
  obtain ⟨a5, c5, rfl, r5⟩ := owns_slice own5
  clear own5
  go_wp2_with fail
  refine (same_yes _ _ _ _ _ _ _ _ (r5.later (((Below.refl _ w5).alloc (Nat.le_refl _) _).drew)) (rd_bytes w5 s _ _) (by rw [bs_len]; omega)).mono ?_
  rintro e w6 ⟨rfl, B6⟩
  go_wp2
  go_ret
  refine ⟨rfl, ((BB.out.trans (B5.mono BB.out.size)).trans ((((Below.refl _ w5).alloc (Nat.le_refl _) _).drew).mono (Nat.le_trans BB.out.size B5.size))).trans (B6.mono ?_)⟩
  have h1 := BB.out.size
  have h2 := B5.size
  simp
  omega

theorem walk (a0 : Option Addr) (len0 cap0 : Nat) (z0 : List Int) (a1 : ByteArray) (w : World) (w0 : IsRow .u8 w a0 len0 cap0 z0) (w1 : a1.size ≤ maxLen) :
    Calls Try.prog 3 #[.slice a0 len0 cap0, .string a1] w fun e w' => e = .returned (.bool true) ∧ Below w.heap.size w w' := by
  have hrd : Rd w a0 len0 (z0.take len0) ∧ (a0 = none → cap0 = 0) ∧ len0 ≤ maxLen := by
    rcases w0 with ⟨rfl, rfl, rfl, rfl⟩ | ⟨x, rfl, hlc, hcm, hz, hcell, _⟩
    · exact ⟨Rd.nil w, fun _ => rfl, by unfold maxLen; omega⟩
    · refine ⟨And.intro (by simp; omega) (And.intro (fun e => none_absurd e) fun b hb j hj => ?_), fun e => none_absurd e, Nat.le_trans hlc hcm⟩
      obtain rfl := Option.some.inj hb
      rw [hcell j (by omega)]
      simp [List.getD, hj]
  obtain ⟨h, hc, hln⟩ := hrd
  have hls := w1
  have hln' := hln
  unfold maxLen at hls hln'
  clear w0
  by_cases h1 : 1048576 < len0 + a1.size
  · go_enter Try.func3, Try.ntmps3
    go_wp2_with (go_at_call 8; refine (zz_big _ _ _ _ hln w1 h1 _).mono ?_; rintro e w' ⟨rfl, rfl⟩)
    go_ret
    exact ⟨rfl, Below.refl _ _⟩
  by_cases h2 : 65536 < len0
  · go_enter Try.func3, Try.ntmps3
    go_wp2_with (go_at_call 8; refine (zz_ok _ _ _ _ (by omega) _).mono ?_; rintro e w' ⟨rfl, rfl⟩)
    go_ret
    exact ⟨rfl, Below.refl _ _⟩
  by_cases h3 : 65536 < a1.size
  · go_enter Try.func3, Try.ntmps3
    go_wp2_with (go_at_call 8; refine (zz_ok _ _ _ _ (by omega) _).mono ?_; rintro e w' ⟨rfl, rfl⟩)
    go_ret
    exact ⟨rfl, Below.refl _ _⟩
  exact walk_in a0 len0 cap0 _ a1 w h hc (by omega) (by omega)

/-! ### THE ROW's STEP: WRITTEN OUT: LEAVE IT -/
set_option maxRecDepth 100000 in
theorem lifted (os : Os) (started : os.Started) (H : Type) (enc : TypeId × Value → H) :
    ReturnsInHanded {} Try.checked os 3 .any (Rows.fnAppendQuotedReadsBackCanonicallySpec.pre6 enc Try.prog Try.f3 Rows.fnAppendQuotedReadsBackCanonicallyRow.domain false) (Rows.fnAppendQuotedReadsBackCanonicallySpec.post enc Try.prog Try.f3 false true false false) := by
  refine returnsInHanded_of_change (C := Try.checked) own started (by kernel_rfl) Try.func3
    (ChangeSpec.witness6 (enc := enc) (C := Try.checked) false ⟨#[], #[.slice none 0 0, .string ByteArray.empty], []⟩ 8 (by kernel_rfl) (by kernel_rfl) (by kernel_rfl) (by kernel_rfl)) ?_
  intro W base args ds gs before hval0 hW hcnd _
  have hval : ∀ (j : Nat) t v, Try.f3.params[j]? = some t → args[j]? = some v → Value.okWide Try.prog W .any base t v := hval0
  have hW' := hW
  obtain ⟨p, q, hA0, hV, rfl, hfz, hnd⟩ := hW
  have hA : DataW.TrodAll enc Try.prog W 0 (fun _ => true) true Try.f3.params.toList args.toList ds p := hA0
  rw [Try.params3] at hA hval
  obtain ⟨v0, vs0, d0, ds0, p0, q0, hargs, rfl, rfl, h0, r0⟩ := trodAll_cons hA
  obtain ⟨v1, vs1, d1, ds1, p1, q1, rfl, rfl, rfl, h1, r1⟩ := trodAll_cons r0
  obtain ⟨rfl, rfl, rfl⟩ := trodAll_nil r1
  obtain rfl : args = #[v0, v1] := by cases args; simp_all
  obtain ⟨rfl, rfl⟩ := trodVars_none hV
  obtain ⟨a0, len0, cap0, rfl⟩ := okWide_slice Try.underlying22 (hval 0 22 v0 rfl rfl)
  have k0 := h0
  have lt0 : ∀ x ∈ p0, x.block < W.heap.size := by obtain ⟨m, hm⟩ := k0; exact DataW.trod_lt m _ _ _ hm
  obtain ⟨z0, w0⟩ : ∃ zs, IsRow .u8 W a0 len0 cap0 zs := by
    obtain ⟨fuel, hf⟩ := h0
    rcases open_ints Try.underlying22 Try.underlying5 (by kernel_rfl) hf with ⟨hcs, _⟩ | ⟨x, l, c, zs, hcs, _, hl, hm, hz, _, hcell, hwz⟩
    · simp [Value.cells] at hcs
      obtain ⟨rfl, rfl, rfl⟩ := hcs
      exact ⟨[], .inl ⟨rfl, rfl, rfl, rfl⟩⟩
    · simp [Value.cells] at hcs
      obtain ⟨rfl, rfl, rfl⟩ := hcs
      exact ⟨zs, .inr ⟨_, rfl, hl, hm, by simpa using hz, hcell, hwz⟩⟩
  obtain ⟨a1, rfl, rfl, rfl, w1⟩ := open_string Try.underlying9 (hval 1 9 v1 rfl rfl) h1
  clear hA0 hval0
  refine (walk a0 len0 cap0 z0 a1 W w0 w1).mono fun e W' ⟨he, bel⟩ => ?_
  subst he
  exact ⟨_, rfl, _, _, _, [], _, [], hW', trodAll_mk1 (shut_bool Try.underlying4 _), (trodAll_cons_mk (Below.trod laidOut (by kernel_rfl) (of_decide_eq_true (by kernel_rfl)) k0 bel lt0) (trodAll_cons_mk (shut_string Try.underlying9 w1) trodAll_mk0)), rfl, bel.frame _, fun h => by cases h⟩

theorem over : Rows.fnAppendQuotedReadsBackCanonicallyRow.holds Try.pinned (OpenSpec.ofChange Rows.fnAppendQuotedReadsBackCanonicallySpec) :=
  OpenClaim.holds_of_wide 3 Try.f3 rfl rfl rfl rfl rfl rfl rfl ⟨rfl, rfl, rfl, rfl, rfl⟩ rfl rfl rfl rfl rfl (by kernel_rfl) Try.func3 (by kernel_rfl)
    (of_decide_eq_true (by kernel_rfl)) (by unfold Func.isWrapper; first | (rw [if_pos (by decide +kernel)]; kernel_rfl) | (rw [if_neg (by decide +kernel)]; exact ⟨rfl, rfl⟩))
    (fun os started H enc _ => lifted os started H enc)

/-- ████ THE STATEMENT ████ -/
theorem proved : Rows.FnAppendQuotedReadsBackCanonicallySaid := over
#print axioms proved
end Go.Proofs.Qxb6620857a.fnAppendQuotedReadsBackCanonically
