import Derived.Test.Qxb6620857aOwn
namespace Go.Proofs.Qxb6620857a.Wk
open Go.RowKit

theorem lists (xs : List Int) (l : List Int) (k : Nat) (h : k < l.length) (c : Int) (hc : l.getD k 0 = c) (cs : List Int) (he : Pl.esc c = cs) :
    (xs ++ 34 :: Pl.escAll (l.take k)) ++ cs = xs ++ 34 :: Pl.escAll (l.take (k + 1)) := by
  rw [Pl.escAll_snoc l k h, hc, he]; simp

theorem and15 (c : Nat) (h : c < 256) : bits BinOp.and IntKind.u8 (c : Int) 15 = (c : Int) % 16 := by
  have : ∀ c : Fin 256, bits BinOp.and IntKind.u8 ((c.val : Nat) : Int) 15 = ((c.val : Nat) : Int) % 16 := by decide +kernel
  exact this ⟨c, h⟩
theorem hexAt (q : Int) (h0 : 0 ≤ q) (h1 : q < 16) (h : q.toNat < ({ data := #[48, 49, 50, 51, 52, 53, 54, 55, 56, 57, 97, 98, 99, 100, 101, 102] } : ByteArray).size) : ((({ data := #[48, 49, 50, 51, 52, 53, 54, 55, 56, 57, 97, 98, 99, 100, 101, 102] } : ByteArray)[q.toNat]'h).toNat : Int) = Pl.hexD q := by
  have : ∀ c : Fin 16, ((({ data := #[48, 49, 50, 51, 52, 53, 54, 55, 56, 57, 97, 98, 99, 100, 101, 102] } : ByteArray)[c.val]'c.isLt).toNat : Int) = Pl.hexD (c.val : Nat) := by decide +kernel
  have e := this ⟨q.toNat, by omega⟩
  rw [show ((q.toNat : Nat) : Int) = q by omega] at e
  exact e

set_option maxHeartbeats 4000000 in
theorem appendQuoted_any (ao : Option Addr) (n : Nat) (xs : List Int) (s : ByteArray) (w : World) (hxs : xs.length = n) (hn : n ≤ 1048576) (hs : s.size ≤ 1048576) (hnone : ao = none → n = 0)
    (hold : ∀ b, ao = some b → ∀ j, j < n → w.cell? (b.add j) = some (.int .u8 (xs.getD j 0))) :
    Calls Try.prog 10 #[.slice ao n n, .string s] w fun e w' => ∃ v, e = .returned v ∧ Owns w' w.heap.size v (xs ++ Pl.quoted (bs s)) ∧ Below w.heap.size w w' := by
  have H1 : Hid (ao = none → n = 0) := hnone
  have H2 : Hid (∀ b, ao = some b → ∀ j, j < n → w.cell? (b.add j) = some (.int .u8 (xs.getD j 0))) := hold
  have H3 : Hid (xs.length = n) := hxs
  clear hnone hold hxs
  have hesl : Hid (∀ k, ((xs ++ 34 :: Pl.escAll ((bs s).take k)).length ≤ 8388608)) := by
    intro k
    have h1 := (Pl.escAll_len ((bs s).take k)).2
    have h2 : ((bs s).take k).length ≤ s.size := by rw [List.length_take, bs_len]; omega
    have h3 := H3.out
    simp; omega
  go_enter Try.func10, Try.ntmps10
  go_wp2_with (at_builtin; refine app_first w [34] rfl _ _ rfl ao n xs rfl H3.out H1.out H2.out 1 rfl ?_ ?_ ?_)
  · decide
  · have := H3.out; simp; omega
  intro v1 w1 hown1 hbel1
  go_wp2
  go_loopw [0, 5] (fun v i wr => ∃ k : Nat, k ≤ s.size ∧ i = .int .i64 k ∧ Owns wr w.heap.size v (xs ++ 34 :: Pl.escAll ((bs s).take k)) ∧ Below w.heap.size w wr) (fun _ i _ => s.size - (intOf i).toNat)
  case atStart => exact ⟨0, Nat.zero_le _, rfl, hown1, hbel1⟩
  case round =>
    obtain ⟨k, hk, rfl, hown, hbel⟩ := hrel
    have hsz := hbel.size
    have hlen := hesl.out k
    have HO : Hid (Owns wr w.heap.size _ (xs ++ 34 :: Pl.escAll ((bs s).take k))) := hown
    have HB : Hid (Below w.heap.size w wr) := hbel
    clear hown hbel hown1 hbel1
    by_cases hlt : k < s.size
    · have hc : s[k].toNat < 256 := UInt8.toNat_lt _
      have hL : Hid (∀ cs, Pl.esc (s[k].toNat : Int) = cs → (xs ++ 34 :: Pl.escAll ((bs s).take k)) ++ cs = xs ++ 34 :: Pl.escAll ((bs s).take (k + 1))) :=
        fun cs he => lists xs (bs s) k (by rw [bs_len]; exact hlt) _ (bs_get s k hlt) cs he
      rcases Bool.eq_false_or_eq_true ((s[k].toNat : Int) == 92) with h92 | h92
      · have hR : Hid (Pl.esc (s[k].toNat : Int) = [92, (s[k].toNat : Int)]) := by show Pl.esc _ = _; unfold Pl.esc; rw [if_pos (by simp at h92; omega)]
        go_wp2_with (at_builtin; refine app_new wr [92, (s[k].toNat : Int)] rfl _ _ rfl w.heap.size _ _ rfl HO.out 2 rfl (by simp at hlen ⊢; omega) hsz HB.out ?_; intro v2 w2 hown2 hbel2; rw [hL.out _ hR.out] at hown2)
        go_roundw
        case rel => exact ⟨k + 1, by omega, by go_num, hown2, hbel2⟩
        case measure => simp [intOf]; omega
      rcases Bool.eq_false_or_eq_true ((s[k].toNat : Int) == 34) with h34 | h34
      · have hR : Hid (Pl.esc (s[k].toNat : Int) = [92, (s[k].toNat : Int)]) := by show Pl.esc _ = _; unfold Pl.esc; rw [if_pos (by simp at h34; omega)]
        go_wp2_with (at_builtin; refine app_new wr [92, (s[k].toNat : Int)] rfl _ _ rfl w.heap.size _ _ rfl HO.out 2 rfl (by simp at hlen ⊢; omega) hsz HB.out ?_; intro v2 w2 hown2 hbel2; rw [hL.out _ hR.out] at hown2)
        go_roundw
        case rel => exact ⟨k + 1, by omega, by go_num, hown2, hbel2⟩
        case measure => simp [intOf]; omega
      rcases Bool.eq_false_or_eq_true ((s[k].toNat : Int) == 10) with h10 | h10
      · have hR : Hid (Pl.esc (s[k].toNat : Int) = [92, 110]) := by show Pl.esc _ = _; unfold Pl.esc; rw [if_neg (by simp at h92 h34; omega), if_pos (by simp at h10; omega)]
        go_wp2_with (at_builtin; refine app_str wr ⟨#[92, 110]⟩ [92, 110] (by rfl) rfl _ _ rfl w.heap.size _ _ rfl HO.out rfl (by simp at hlen ⊢; omega) hsz HB.out ?_; intro v2 w2 hown2 hbel2; rw [hL.out _ hR.out] at hown2)
        go_roundw
        case rel => exact ⟨k + 1, by omega, by go_num, hown2, hbel2⟩
        case measure => simp [intOf]; omega
      rcases Bool.eq_false_or_eq_true ((s[k].toNat : Int) == 9) with h9 | h9
      · have hR : Hid (Pl.esc (s[k].toNat : Int) = [92, 116]) := by show Pl.esc _ = _; unfold Pl.esc; rw [if_neg (by simp at h92 h34; omega), if_neg (by simp at h10; omega), if_pos (by simp at h9; omega)]
        go_wp2_with (at_builtin; refine app_str wr ⟨#[92, 116]⟩ [92, 116] (by rfl) rfl _ _ rfl w.heap.size _ _ rfl HO.out rfl (by simp at hlen ⊢; omega) hsz HB.out ?_; intro v2 w2 hown2 hbel2; rw [hL.out _ hR.out] at hown2)
        go_roundw
        case rel => exact ⟨k + 1, by omega, by go_num, hown2, hbel2⟩
        case measure => simp [intOf]; omega
      rcases Bool.eq_false_or_eq_true ((s[k].toNat : Int) == 13) with h13 | h13
      · have hR : Hid (Pl.esc (s[k].toNat : Int) = [92, 114]) := by show Pl.esc _ = _; unfold Pl.esc; rw [if_neg (by simp at h92 h34; omega), if_neg (by simp at h10; omega), if_neg (by simp at h9; omega), if_pos (by simp at h13; omega)]
        go_wp2_with (at_builtin; refine app_str wr ⟨#[92, 114]⟩ [92, 114] (by rfl) rfl _ _ rfl w.heap.size _ _ rfl HO.out rfl (by simp at hlen ⊢; omega) hsz HB.out ?_; intro v2 w2 hown2 hbel2; rw [hL.out _ hR.out] at hown2)
        go_roundw
        case rel => exact ⟨k + 1, by omega, by go_num, hown2, hbel2⟩
        case measure => simp [intOf]; omega
      by_cases h32 : (s[k].toNat : Int) < 32
      · have hq0 : (0 : Int) ≤ (s[k].toNat : Int) / 16 := by omega
        have hq1 : (s[k].toNat : Int) / 16 < 16 := by omega
        have hr0 : (0 : Int) ≤ (s[k].toNat : Int) % 16 := by omega
        have hr1 : (s[k].toNat : Int) % 16 < 16 := by omega
        have hand := and15 s[k].toNat hc
        have hA := hexAt ((s[k].toNat : Int) / 16) hq0 hq1
        have hB := hexAt ((s[k].toNat : Int) % 16) hr0 hr1
        have hR : Hid (Pl.esc (s[k].toNat : Int) = [92, 120, Pl.hexD ((s[k].toNat : Int) / 16), Pl.hexD ((s[k].toNat : Int) % 16)]) := by show Pl.esc _ = _; unfold Pl.esc; rw [if_neg (by simp at h92 h34; omega), if_neg (by simp at h10; omega), if_neg (by simp at h9; omega), if_neg (by simp at h13; omega), if_pos (by first | omega | (simp at h127; omega))]
        go_wp2_with fail
        go_region_law ((refine step_app _ wr.heap.size [92, 120, Pl.hexD ((s[k].toNat : Int) / 16), Pl.hexD ((s[k].toNat : Int) % 16)] (by rfl) _ _ (by rfl) w.heap.size _ _ (by rfl) (by exact World.ownsRow.alloc HO.out _) 4 (by rfl) (by exact heap_alloc_new wr _) (by simp at hlen ⊢; omega) (by simp; omega) (by exact (HB.out.alloc hsz _).drew) ?_; intro v2 w2 hown2 hbel2; rw [hL.out _ hR.out] at hown2))
        all_goals
          go_wp2
          go_roundw
          case rel => exact ⟨k + 1, by omega, by go_num, by assumption, by assumption⟩
          case measure => simp [intOf]; omega
      rcases Bool.eq_false_or_eq_true ((s[k].toNat : Int) == 127) with h127 | h127
      · have hq0 : (0 : Int) ≤ (s[k].toNat : Int) / 16 := by omega
        have hq1 : (s[k].toNat : Int) / 16 < 16 := by omega
        have hr0 : (0 : Int) ≤ (s[k].toNat : Int) % 16 := by omega
        have hr1 : (s[k].toNat : Int) % 16 < 16 := by omega
        have hand := and15 s[k].toNat hc
        have hA := hexAt ((s[k].toNat : Int) / 16) hq0 hq1
        have hB := hexAt ((s[k].toNat : Int) % 16) hr0 hr1
        have hR : Hid (Pl.esc (s[k].toNat : Int) = [92, 120, Pl.hexD ((s[k].toNat : Int) / 16), Pl.hexD ((s[k].toNat : Int) % 16)]) := by show Pl.esc _ = _; unfold Pl.esc; rw [if_neg (by simp at h92 h34; omega), if_neg (by simp at h10; omega), if_neg (by simp at h9; omega), if_neg (by simp at h13; omega), if_pos (by first | omega | (simp at h127; omega))]
        go_wp2_with fail
        go_region_law ((refine step_app _ wr.heap.size [92, 120, Pl.hexD ((s[k].toNat : Int) / 16), Pl.hexD ((s[k].toNat : Int) % 16)] (by rfl) _ _ (by rfl) w.heap.size _ _ (by rfl) (by exact World.ownsRow.alloc HO.out _) 4 (by rfl) (by exact heap_alloc_new wr _) (by simp at hlen ⊢; omega) (by simp; omega) (by exact (HB.out.alloc hsz _).drew) ?_; intro v2 w2 hown2 hbel2; rw [hL.out _ hR.out] at hown2))
        all_goals
          go_wp2
          go_roundw
          case rel => exact ⟨k + 1, by omega, by go_num, by assumption, by assumption⟩
          case measure => simp [intOf]; omega
      · have hR : Hid (Pl.esc (s[k].toNat : Int) = [(s[k].toNat : Int)]) := by show Pl.esc _ = _; unfold Pl.esc; rw [if_neg (by simp at h92 h34; omega), if_neg (by simp at h10; omega), if_neg (by simp at h9; omega), if_neg (by simp at h13; omega), if_neg (by simp at h127; omega)]
        go_wp2_with (at_builtin; refine app_new wr [(s[k].toNat : Int)] rfl _ _ rfl w.heap.size _ _ rfl HO.out 1 rfl (by simp at hlen ⊢; omega) hsz HB.out ?_; intro v2 w2 hown2 hbel2; rw [hL.out _ hR.out] at hown2)
        go_roundw
        case rel => exact ⟨k + 1, by omega, by go_num, hown2, hbel2⟩
        case measure => simp [intOf]; omega
    · have hF : Hid (xs ++ 34 :: Pl.escAll ((bs s).take k) ++ [34] = xs ++ Pl.quoted (bs s)) := by
        show _ = _
        rw [List.take_of_length_le (by rw [bs_len]; omega)]; simp [Pl.quoted]
      go_wp2_with (at_builtin; refine app_new wr [34] rfl _ _ rfl w.heap.size _ _ rfl HO.out 1 rfl (by simp at hlen ⊢; omega) hsz HB.out ?_; intro v2 w2 hown2 hbel2; rw [hF.out] at hown2)
      go_ret
      exact ⟨_, rfl, hown2, hbel2⟩

/-- The same with the value written out. -/
theorem appendQuoted_at (ao : Option Addr) (n : Nat) (xs : List Int) (s : ByteArray) (w : World) (hxs : xs.length = n) (hn : n ≤ 1048576) (hs : s.size ≤ 1048576) (hnone : ao = none → n = 0)
    (hold : ∀ b, ao = some b → ∀ j, j < n → w.cell? (b.add j) = some (.int .u8 (xs.getD j 0))) :
    Calls Try.prog 10 #[.slice ao n n, .string s] w fun e w' => ∃ g cap, e = .returned (.slice (some ⟨g, 0, none⟩) (xs ++ Pl.quoted (bs s)).length cap) ∧ w.heap.size ≤ g ∧ g < w'.heap.size ∧
      (xs ++ Pl.quoted (bs s)).length ≤ cap ∧ cap ≤ maxLen ∧ (∀ j, j < (xs ++ Pl.quoted (bs s)).length → w'.cell? ⟨g, j, none⟩ = some (.int .u8 ((xs ++ Pl.quoted (bs s)).getD j 0))) ∧ Below w.heap.size w w' := by
  refine (appendQuoted_any ao n xs s w hxs hn hs hnone hold).mono ?_
  rintro e w' ⟨v, rfl, hown, hbel⟩
  obtain ⟨g, cap, rfl, h1, h2, h3, h4, h5⟩ := hown.form (by rw [List.length_append, Pl.quoted_len]; omega)
  exact ⟨g, cap, rfl, h1, h2, h3, h4, h5, hbel⟩

end Go.Proofs.Qxb6620857a.Wk
