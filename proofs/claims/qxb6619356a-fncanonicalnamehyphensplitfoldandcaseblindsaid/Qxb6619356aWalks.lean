import Derived.Test.Qxb6619356aOwn
namespace Go.Proofs.Qxb6619356a.Wk
open Go.RowKit Go.WideShapes

theorem ret_int {k : IntKind} {a b : Int} (h : a = b) : Ending.returned (.int k a) = .returned (.int k b) := by rw [h]

theorem low_any (c : Int) (h0 : 0 ≤ c) (h1 : c ≤ 255) (w : World) :
    Calls Try.prog 12 #[.int .u8 c] w fun e w' => e = .returned (.int .u8 (Pl.low c)) ∧ w' = w := by
  go_enter Try.func12, Try.ntmps12
  go_wp2
  all_goals go_ret
  all_goals refine ⟨ret_int ?_, rfl⟩
  all_goals unfold Pl.low
  all_goals first | (rw [if_pos (by omega)]) | (rw [if_neg (by omega)])

theorem swp_any (c : Int) (h0 : 0 ≤ c) (h1 : c ≤ 255) (w : World) :
    Calls Try.prog 13 #[.int .u8 c] w fun e w' => e = .returned (.int .u8 (Pl.swp c)) ∧ w' = w := by
  go_enter Try.func13, Try.ntmps13
  go_wp2
  all_goals go_ret
  all_goals refine ⟨ret_int ?_, rfl⟩
  all_goals unfold Pl.swp
  all_goals first | (rw [if_pos (by omega)]) | (rw [if_neg (by omega), if_pos (by omega)]) | (rw [if_neg (by omega), if_neg (by omega)])

/-- The bytes of a list. -/
def Bytes (l : List Int) : Prop := ∀ n ∈ l, 0 ≤ n ∧ n ≤ 255
theorem Bytes.at {l : List Int} (h : Bytes l) (k : Nat) (hk : k < l.length) : 0 ≤ l.getD k 0 ∧ l.getD k 0 ≤ 255 := h _ (by simp [List.getD, hk])

set_option maxHeartbeats 2000000 in
theorem canonical_any (ao : Option Addr) (n cap : Nat) (xs : List Int) (w : World) (h : Rd w ao n xs) (hn : n ≤ 4194304) (hb : Bytes xs) :
    Calls Try.prog 10 #[.slice none 0 0, .slice ao n cap] w fun e w' => ∃ v, e = .returned v ∧ Owns w' w.heap.size v (Pl.canon true xs) ∧ Below w.heap.size w w' := by
  have hl := h.1
  go_enter Try.func10, Try.ntmps10
  go_wp2
  go_loopw [0, 5, 10] (fun v u i wr => ∃ (k : Nat) (f : Bool), k ≤ n ∧ i = .int .i64 k ∧ u = .bool f ∧ Hid (Pl.fl true (xs.take k) = f) ∧ Owns wr w.heap.size v (Pl.canon true (xs.take k)) ∧ Below w.heap.size w wr) (fun _ _ i _ => n - (intOf i).toNat)
  case atStart => exact ⟨0, true, Nat.zero_le _, rfl, rfl, rfl, World.ownsRow_nil _ _ _ _, Below.refl _ _⟩
  case round =>
    obtain ⟨k, f, hk, rfl, rfl, hf, hown, hbel⟩ := hrel
    have HO : Hid (Owns wr w.heap.size _ (Pl.canon true (xs.take k))) := hown
    have HB : Hid (Below w.heap.size w wr) := hbel
    have hsz := hbel.size
    have hcl : (Pl.canon true (xs.take k)).length ≤ 4194304 := by rw [Pl.canon_len]; simp; omega
    clear hown hbel
    by_cases hlt : k < n
    · obtain ⟨b, o, e1, _, hc1⟩ := h.at (by omega)
      subst e1
      obtain ⟨c, hc⟩ : ∃ c, xs.getD k 0 = c := ⟨_, rfl⟩
      have hcr : 0 ≤ c ∧ c ≤ 255 := by rw [← hc]; exact hb.at k (by omega)
      have g1 : wr.cell? ⟨b, o + k, none⟩ = some (.int .u8 c) := by rw [← hc]; exact cell_later HB.out (hc1 k hlt)
      have hcs : Hid (Pl.canon true (xs.take k) ++ [Pl.cn f c] = Pl.canon true (xs.take (k + 1))) := by
        have := Pl.canon_snoc true xs k (by omega)
        rw [hf.out, hc] at this; exact this.symm
      have hfs : Hid (Pl.fl true (xs.take (k + 1)) = (c == 45)) := by
        have := Pl.fl_snoc true xs k (by omega)
        rw [hc] at this; exact this
      clear hc hc1 hf
      cases f
      · by_cases hup : 65 ≤ c ∧ c ≤ 90
        · obtain ⟨u1, u2⟩ := hup
          have he : Hid (Pl.cn false c = c + 32) := by show _ = _; unfold Pl.cn; rw [if_neg (by simp), if_pos (by simp; omega)]
          have hcs' : Hid (Pl.canon true (xs.take k) ++ [c + 32] = Pl.canon true (xs.take (k + 1))) := by have := hcs.out; rw [he.out] at this; exact this
          have hfs' : Hid (Pl.fl true (xs.take (k + 1)) = (c + 32 == 45)) := by
            have h1 := hfs.out
            have h2 := Pl.cn_hyphen false c
            rw [he.out] at h2; rw [← h2] at h1; exact h1
          go_wp2_with (at_builtin; refine app_new wr [c + 32] rfl _ _ rfl w.heap.size _ _ rfl HO.out 1 rfl (by simp; omega) hsz HB.out ?_; intro v2 w2 hown2 hbel2; rw [hcs'.out] at hown2)
          all_goals
            go_roundw
            case rel => exact ⟨k + 1, (c + 32 == 45), by omega, by go_num, rfl, hfs'.out, hown2, hbel2⟩
            case measure => simp [intOf]; omega
        · have he : Hid (Pl.cn false c = c) := by show _ = _; unfold Pl.cn; rw [if_neg (by simp), if_neg (by omega)]
          have hcs' : Hid (Pl.canon true (xs.take k) ++ [c] = Pl.canon true (xs.take (k + 1))) := by have := hcs.out; rw [he.out] at this; exact this
          have hfs' : Hid (Pl.fl true (xs.take (k + 1)) = (c == 45)) := by
            have h1 := hfs.out
            have h2 := Pl.cn_hyphen false c
            rw [he.out] at h2; rw [← h2] at h1; exact h1
          go_wp2_with (at_builtin; refine app_new wr [c] rfl _ _ rfl w.heap.size _ _ rfl HO.out 1 rfl (by simp; omega) hsz HB.out ?_; intro v2 w2 hown2 hbel2; rw [hcs'.out] at hown2)
          all_goals
            go_roundw
            case rel => exact ⟨k + 1, (c == 45), by omega, by go_num, rfl, hfs'.out, hown2, hbel2⟩
            case measure => simp [intOf]; omega
      · by_cases hup : 97 ≤ c ∧ c ≤ 122
        · obtain ⟨u1, u2⟩ := hup
          have he : Hid (Pl.cn true c = c - 32) := by show _ = _; unfold Pl.cn; rw [if_pos (by simp; omega)]
          have hcs' : Hid (Pl.canon true (xs.take k) ++ [c - 32] = Pl.canon true (xs.take (k + 1))) := by have := hcs.out; rw [he.out] at this; exact this
          have hfs' : Hid (Pl.fl true (xs.take (k + 1)) = (c - 32 == 45)) := by
            have h1 := hfs.out
            have h2 := Pl.cn_hyphen true c
            rw [he.out] at h2; rw [← h2] at h1; exact h1
          go_wp2_with (at_builtin; refine app_new wr [c - 32] rfl _ _ rfl w.heap.size _ _ rfl HO.out 1 rfl (by simp; omega) hsz HB.out ?_; intro v2 w2 hown2 hbel2; rw [hcs'.out] at hown2)
          all_goals
            go_roundw
            case rel => exact ⟨k + 1, (c - 32 == 45), by omega, by go_num, rfl, hfs'.out, hown2, hbel2⟩
            case measure => simp [intOf]; omega
        · have he : Hid (Pl.cn true c = c) := by show _ = _; unfold Pl.cn; rw [if_neg (by omega), if_neg (by simp)]
          have hcs' : Hid (Pl.canon true (xs.take k) ++ [c] = Pl.canon true (xs.take (k + 1))) := by have := hcs.out; rw [he.out] at this; exact this
          have hfs' : Hid (Pl.fl true (xs.take (k + 1)) = (c == 45)) := by
            have h1 := hfs.out
            have h2 := Pl.cn_hyphen true c
            rw [he.out] at h2; rw [← h2] at h1; exact h1
          go_wp2_with (at_builtin; refine app_new wr [c] rfl _ _ rfl w.heap.size _ _ rfl HO.out 1 rfl (by simp; omega) hsz HB.out ?_; intro v2 w2 hown2 hbel2; rw [hcs'.out] at hown2)
          all_goals
            go_roundw
            case rel => exact ⟨k + 1, (c == 45), by omega, by go_num, rfl, hfs'.out, hown2, hbel2⟩
            case measure => simp [intOf]; omega
    · have hF := HO.out
      rw [List.take_of_length_le (by omega)] at hF
      go_wp2
      go_ret
      exact ⟨_, rfl, hF, HB.out⟩

/-- ZZCanonicalName(nil, name). -/
theorem zzCanonical (ao : Option Addr) (n cap : Nat) (xs : List Int) (w : World) (h : Rd w ao n xs) (hn : n ≤ 4194304) (hb : Bytes xs) :
    Calls Try.prog 5 #[.slice none 0 0, .slice ao n cap] w fun e w' => ∃ ao' c', e = .returned (.slice ao' n c') ∧ Rd w' ao' n (Pl.canon true xs) ∧ Below w.heap.size w w' := by
  go_enter Try.func5, Try.ntmps5
  go_wp2_with (go_at_call 10; refine (canonical_any _ _ _ xs _ h hn hb).mono ?_; rintro e w2 ⟨v, rfl, hown, hbel⟩)
  obtain ⟨ao', c', rfl, hr, _⟩ := owns_slice hown
  rw [Pl.canon_len, h.1] at hr
  go_ret
  refine ⟨ao', c', ?_, hr, hbel⟩
  simp [Pl.canon_len, h.1]

set_option maxHeartbeats 1000000 in
/-- equalFold where it says yes. -/
theorem fold_yes (s t : ByteArray) (w : World) (hs : s.size ≤ 4194304) (he : (bs s).map Pl.low = bs t) :
    Calls Try.prog 11 #[.string s, .string t] w fun e w' => e = .returned (.bool true) ∧ w' = w := by
  have HE : Hid ((bs s).map Pl.low = bs t) := he
  clear he
  have hlen : Hid (s.size = t.size) := by have := congrArg List.length HE.out; rw [List.length_map, bs_len, bs_len] at this; exact this
  have hl1 : s.size ≤ t.size := Nat.le_of_eq hlen.out
  have hl2 : t.size ≤ s.size := Nat.le_of_eq hlen.out.symm
  go_enter Try.func11, Try.ntmps11
  go_wp2
  go_loop [5] (fun i => ∃ k : Nat, k ≤ s.size ∧ i = .int .i64 k) (fun i => s.size - (intOf i).toNat)
  case atStart => exact ⟨0, Nat.zero_le _, rfl⟩
  case round =>
    obtain ⟨k, hk, rfl⟩ := hrel
    by_cases hlt : k < s.size
    · have hlt2 : k < t.size := by omega
      have hc : s[k].toNat < 256 := UInt8.toNat_lt _
      have hc2 : t[k].toNat < 256 := UInt8.toNat_lt _
      have hlow : Hid ((t[k].toNat : Int) = Pl.low (s[k].toNat : Int)) := by
        have h1 := congrArg (fun l => l.getD k 0) HE.out
        have h2 := bs_get s k hlt
        have h3 := bs_get t k hlt2
        have h4 : k < (bs s).length := by rw [bs_len]; exact hlt
        simp only [List.getD_eq_getElem?_getD, List.getElem?_map, List.getElem?_eq_getElem h4, Option.map_some, Option.getD_some] at h1 h2 h3
        rw [h3, h2] at h1
        exact h1.symm
      by_cases hup : 65 ≤ (s[k].toNat : Int) ∧ (s[k].toNat : Int) ≤ 90
      · have e1 : (t[k].toNat : Int) ≤ (s[k].toNat : Int) + 32 := by rw [hlow.out]; unfold Pl.low; rw [if_pos hup]; omega
        have e2 : (s[k].toNat : Int) + 32 ≤ (t[k].toNat : Int) := by rw [hlow.out]; unfold Pl.low; rw [if_pos hup]; omega
        obtain ⟨u1, u2⟩ := hup
        go_wp2
        all_goals
          go_round
          case rel => exact ⟨k + 1, by omega, by go_num⟩
          case measure => simp [intOf]; omega
      · have e1 : (t[k].toNat : Int) ≤ (s[k].toNat : Int) := by rw [hlow.out]; unfold Pl.low; rw [if_neg hup]; omega
        have e2 : (s[k].toNat : Int) ≤ (t[k].toNat : Int) := by rw [hlow.out]; unfold Pl.low; rw [if_neg hup]; omega
        go_wp2
        all_goals
          go_round
          case rel => exact ⟨k + 1, by omega, by go_num⟩
          case measure => simp [intOf]; omega
    · go_wp2
      go_ret
      exact ⟨rfl, rfl⟩
theorem zzFold_yes (s t : ByteArray) (w : World) (hs : s.size ≤ 4194304) (he : (bs s).map Pl.low = bs t) :
    Calls Try.prog 7 #[.string s, .string t] w fun e w' => e = .returned (.bool true) ∧ w' = w := by
  have HE : Hid ((bs s).map Pl.low = bs t) := he
  clear he
  go_enter Try.func7, Try.ntmps7
  go_wp2_with (go_at_call 11; refine (fold_yes _ _ _ hs HE.out).mono ?_; rintro e w2 ⟨rfl, rfl⟩)
  go_ret
  exact ⟨rfl, rfl⟩

end Go.Proofs.Qxb6619356a.Wk
