import Derived.Test.Qxb6619356aWalks
namespace Go.Proofs.Qxb6619356a.Wk
open Go.RowKit Go.WideShapes

/-- One store more: the first k + 1 bytes are copied. -/
theorem copy_step (xs : List Int) (n k : Nat) (hl : xs.length = n) (hk : k < n) : (xs.take k ++ List.replicate (n - k) 0).set k (xs.getD k 0) = xs.take (k + 1) ++ List.replicate (n - (k + 1)) 0 := by
  have h1 : n - k = n - (k + 1) + 1 := by omega
  have h2 : (xs.take k).length = k := by simp; omega
  rw [h1, List.replicate_succ, List.set_append_right _ _ (by omega), h2, Nat.sub_self, List.set_cons_zero, Pl.take_snoc xs k (by omega)]
  simp


/-- The facts of one store into the row that is being filled. -/
theorem fill_facts {w wr : World} {n k : Nat} {ys : List Int} (hl : ys.length = n) (hlt : k < n) (HO : Owns wr w.heap.size (.slice (some ⟨w.heap.size, 0, none⟩) n n) (ys.take k ++ List.replicate (n - k) 0)) (HB : Below w.heap.size w wr) (c : Int) (hc : ys.getD k 0 = c) :
    (∃ z, wr.cell? ⟨w.heap.size, k, none⟩ = some (.int .u8 z)) ∧ wr.frozen? ⟨w.heap.size, k, none⟩ = false ∧
      Owns (wr.setCell ⟨w.heap.size, k, none⟩ (.int .u8 c)) w.heap.size (.slice (some ⟨w.heap.size, 0, none⟩) n n) (ys.take (k + 1) ++ List.replicate (n - (k + 1)) 0) ∧ Below w.heap.size w (wr.setCell ⟨w.heap.size, k, none⟩ (.int .u8 c)) := by
  have hll : (ys.take k ++ List.replicate (n - k) (0 : Int)).length = n := by simp; omega
  refine ⟨?_, ?_, ?_, HB.setCell (Nat.le_refl _) _⟩
  · have := (HO.rd hll).2.2 _ rfl k hlt
    rw [add_plain, Nat.zero_add] at this
    exact ⟨_, this⟩
  · have := HO
    unfold Owns at this
    rw [hll] at this
    exact World.ownsRow.frozenAt this k
  · have := HO.stored hll k (ys.getD k 0)
    rw [copy_step ys n k hl hlt, hc] at this
    exact this

set_option maxHeartbeats 1000000 in
/-- zzLowerASCII. -/
theorem lower_any (s : ByteArray) (w : World) (hs : s.size ≤ 4194304) :
    Calls Try.prog 8 #[.string s] w fun e w' => e = .returned (.string (strOfNums ((bs s).map Pl.low))) ∧ Below w.heap.size w w' := by
  obtain ⟨i0, hi, hz0, hz1, hz2⟩ := info_parts info5
  obtain ⟨ys, hys⟩ : ∃ ys, (bs s).map Pl.low = ys := ⟨_, rfl⟩
  have HY : Hid ((bs s).map Pl.low = ys) := hys
  have hyl : Hid (ys.length = s.size) := by show _ = _; rw [← hys, List.length_map, bs_len]
  rw [hys]
  clear hys
  go_enter Try.func8, Try.ntmps8
  go_wp2_with (at_make; refine wpList_make_full _ rfl _ _ 22 rfl w.heap.size 5 i0 (.int .u8 0) 1 Try.underlying22 hi hz0 hz1 .i64 .i64 (s.size : Int) (s.size : Int) s.size rfl rfl rfl rfl (by rw [hz2]; omega) (by unfold maxLen; omega) (Nat.le_refl _) ?_; intro w1 hown1 hgrow1)
  have hO1 : Hid (Owns w1 w.heap.size (.slice (some ⟨w.heap.size, 0, none⟩) s.size s.size) (List.replicate s.size 0)) := zeros_own hown1
  have hB1 : Hid (Below w.heap.size w w1) := (Below.refl _ w).grown hgrow1 (Nat.le_refl _) (fun k hk => by cases hk)
  clear hown1 hgrow1
  go_loopw [4] (fun i wr => ∃ k : Nat, k ≤ s.size ∧ i = .int .i64 k ∧ Owns wr w.heap.size (.slice (some ⟨w.heap.size, 0, none⟩) s.size s.size) (ys.take k ++ List.replicate (s.size - k) 0) ∧ Below w.heap.size w wr) (fun i _ => s.size - (intOf i).toNat)
  case atStart => exact ⟨0, Nat.zero_le _, rfl, by simpa using hO1.out, hB1.out⟩
  case round =>
    obtain ⟨k, hk, rfl, hown, hbel⟩ := hrel
    have HO : Hid (Owns wr w.heap.size (.slice (some ⟨w.heap.size, 0, none⟩) s.size s.size) (ys.take k ++ List.replicate (s.size - k) 0)) := hown
    have HB : Hid (Below w.heap.size w wr) := hbel
    clear hown hbel hO1 hB1
    by_cases hlt : k < s.size
    · have hc : s[k].toNat < 256 := UInt8.toNat_lt _
      have hv : ys.getD k 0 = Pl.low (s[k].toNat : Int) := by
        have h4 : k < (bs s).length := by rw [bs_len]; exact hlt
        have h2 := bs_get s k hlt
        rw [← HY.out]
        simp only [List.getD_eq_getElem?_getD, List.getElem?_map, List.getElem?_eq_getElem h4, Option.map_some, Option.getD_some] at h2 ⊢
        rw [h2]
      obtain ⟨⟨z, g2⟩, g3, F1, F2⟩ := fill_facts hyl.out hlt HO.out HB.out _ hv
      have hS : Hid (Owns (wr.setCell ⟨w.heap.size, k, none⟩ (.int .u8 (Pl.low (s[k].toNat : Int)))) w.heap.size (.slice (some ⟨w.heap.size, 0, none⟩) s.size s.size) (ys.take (k + 1) ++ List.replicate (s.size - (k + 1)) 0)) := F1
      have hS2 : Hid (Below w.heap.size w (wr.setCell ⟨w.heap.size, k, none⟩ (.int .u8 (Pl.low (s[k].toNat : Int))))) := F2
      clear hv F1 F2
      go_wp2_with (go_at_call 12; refine (low_any _ (by omega) (by omega) _).mono ?_; rintro e w2 ⟨rfl, rfl⟩)
      go_roundw
      case rel => exact ⟨k + 1, by omega, by go_num, hS.out, hS2.out⟩
      case measure => simp [intOf]; omega
    · have hR : Rd wr (some ⟨w.heap.size, 0, none⟩) s.size ys := by
        have := HO.out
        rw [show s.size - k = 0 by omega, List.replicate_zero, List.append_nil, List.take_of_length_le (by have := hyl.out; omega)] at this
        exact this.rd hyl.out
      have hcv := conv_rd wr (some ⟨w.heap.size, 0, none⟩) s.size s.size ys hR
      clear hR
      go_wp2
      go_ret
      exact ⟨rfl, HB.out⟩

set_option maxHeartbeats 1000000 in
/-- zzSwapCaseBytes. -/
theorem swap_any (ao : Option Addr) (n cap : Nat) (xs : List Int) (w : World) (h : Rd w ao n xs) (hn : n ≤ 4194304) (hb : Bytes xs) :
    Calls Try.prog 9 #[.slice ao n cap] w fun e w' => e = .returned (.slice (some ⟨w.heap.size, 0, none⟩) n n) ∧ Rd w' (some ⟨w.heap.size, 0, none⟩) n (xs.map Pl.swp) ∧ Below w.heap.size w w' := by
  obtain ⟨i0, hi, hz0, hz1, hz2⟩ := info_parts info5
  have hl := h.1
  obtain ⟨ys, hys⟩ : ∃ ys, xs.map Pl.swp = ys := ⟨_, rfl⟩
  have HY : Hid (xs.map Pl.swp = ys) := hys
  have hyl : Hid (ys.length = n) := by show _ = _; rw [← hys, List.length_map, hl]
  rw [hys]
  clear hys
  go_enter Try.func9, Try.ntmps9
  go_wp2_with (at_make; refine wpList_make_full _ rfl _ _ 22 rfl w.heap.size 5 i0 (.int .u8 0) 1 Try.underlying22 hi hz0 hz1 .i64 .i64 (n : Int) (n : Int) n rfl rfl rfl rfl (by rw [hz2]; omega) (by unfold maxLen; omega) (Nat.le_refl _) ?_; intro w1 hown1 hgrow1)
  have hO1 : Hid (Owns w1 w.heap.size (.slice (some ⟨w.heap.size, 0, none⟩) n n) (List.replicate n 0)) := zeros_own hown1
  have hB1 : Hid (Below w.heap.size w w1) := (Below.refl _ w).grown hgrow1 (Nat.le_refl _) (fun k hk => by cases hk)
  clear hown1 hgrow1
  go_loopw [4] (fun i wr => ∃ k : Nat, k ≤ n ∧ i = .int .i64 k ∧ Owns wr w.heap.size (.slice (some ⟨w.heap.size, 0, none⟩) n n) (ys.take k ++ List.replicate (n - k) 0) ∧ Below w.heap.size w wr) (fun i _ => n - (intOf i).toNat)
  case atStart => exact ⟨0, Nat.zero_le _, rfl, by simpa using hO1.out, hB1.out⟩
  case round =>
    obtain ⟨k, hk, rfl, hown, hbel⟩ := hrel
    have HO : Hid (Owns wr w.heap.size (.slice (some ⟨w.heap.size, 0, none⟩) n n) (ys.take k ++ List.replicate (n - k) 0)) := hown
    have HB : Hid (Below w.heap.size w wr) := hbel
    clear hown hbel hO1 hB1
    by_cases hlt : k < n
    · obtain ⟨b, o, hx, _, hc⟩ := h.at (by omega)
      subst hx
      obtain ⟨c, hcv⟩ : ∃ c, xs.getD k 0 = c := ⟨_, rfl⟩
      have hcr : 0 ≤ c ∧ c ≤ 255 := by rw [← hcv]; exact hb.at k (by omega)
      have g1 : wr.cell? ⟨b, o + k, none⟩ = some (.int .u8 c) := by rw [← hcv]; exact cell_later HB.out (hc k hlt)
      have hv : ys.getD k 0 = Pl.swp c := by
        have h4 : k < xs.length := by omega
        rw [← HY.out, ← hcv]
        simp only [List.getD_eq_getElem?_getD, List.getElem?_map, List.getElem?_eq_getElem h4, Option.map_some, Option.getD_some]
      obtain ⟨⟨z, g2⟩, g3, F1, F2⟩ := fill_facts hyl.out hlt HO.out HB.out _ hv
      have hS : Hid (Owns (wr.setCell ⟨w.heap.size, k, none⟩ (.int .u8 (Pl.swp c))) w.heap.size (.slice (some ⟨w.heap.size, 0, none⟩) n n) (ys.take (k + 1) ++ List.replicate (n - (k + 1)) 0)) := F1
      have hS2 : Hid (Below w.heap.size w (wr.setCell ⟨w.heap.size, k, none⟩ (.int .u8 (Pl.swp c)))) := F2
      clear hv F1 F2 hcv hc
      go_wp2_with (go_at_call 13; refine (swp_any _ (by omega) (by omega) _).mono ?_; rintro e w2 ⟨rfl, rfl⟩)
      go_roundw
      case rel => exact ⟨k + 1, by omega, by go_num, hS.out, hS2.out⟩
      case measure => simp [intOf]; omega
    · have hR : Hid (Rd wr (some ⟨w.heap.size, 0, none⟩) n ys) := by
        have := HO.out
        rw [show n - k = 0 by omega, List.replicate_zero, List.append_nil, List.take_of_length_le (by have := hyl.out; omega)] at this
        exact this.rd hyl.out
      go_wp2
      go_ret
      exact ⟨rfl, hR.out, HB.out⟩

end Go.Proofs.Qxb6619356a.Wk
