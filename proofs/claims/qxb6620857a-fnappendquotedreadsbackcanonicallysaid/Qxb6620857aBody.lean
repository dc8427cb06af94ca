import Derived.Test.Qxb6620857aRd
import Derived.Test.Qxb6620857aBodyPlain
import Derived.Laws.BytesArg
namespace Go.Proofs.Qxb6620857a.Wk
open Go.RowKit Go.WideShapes

theorem lower_yes (c : Int) (h0 : 48 ≤ c) (h1 : c ≤ 102) (h : c ≤ 57 ∨ 97 ≤ c) (w : World) :
    Calls Try.prog 18 #[.int .u8 c] w fun e w' => e = .returned (.bool true) ∧ w' = w := by
  rcases h with h | h
  · go_enter Try.func18, Try.ntmps18
    go_wp2
    go_ret
    exact ⟨rfl, rfl⟩
  · have h2 : ¬ c ≤ 57 := by omega
    go_enter Try.func18, Try.ntmps18
    go_wp2
    go_ret
    exact ⟨rfl, rfl⟩

theorem bs_nums (xs : List Int) (h : ∀ n ∈ xs, 0 ≤ n ∧ n ≤ 255) : bs (strOfNums xs) = xs := by
  simp only [bs, strOfNums, List.map_map]
  conv => rhs; rw [← List.map_id xs]
  refine List.map_congr_left fun n hn => ?_
  have := h n hn
  simp only [Function.comp, id, UInt8.toNat_ofNat']
  omega

/-- string(body[i+2:k]) where the first two bytes are hex digits: digits reads the two. -/
theorem zz_two (c : Int) (h0 : 0 ≤ c) (h1 : c ≤ 255) (t : List Int) (ht : t.length ≤ 1) (w : World) :
    Calls Try.prog 16 #[.string (strOfNums (Pl.hexD (c / 16) :: Pl.hexD (c % 16) :: t)), .int .i64 16, .int .i64 2] w fun e w' => e = .returned (.tuple #[.int .i64 c, .int .i64 2]) ∧ w' = w := by
  have hQ := Pl.hexD_range (c / 16) (by omega) (by omega)
  have hR := Pl.hexD_range (c % 16) (by omega) (by omega)
  have e : bs (strOfNums (Pl.hexD (c / 16) :: Pl.hexD (c % 16) :: t)) = Pl.hexD (c / 16) :: Pl.hexD (c % 16) :: bs (strOfNums t) := by
    have e1 : bs (strOfNums (Pl.hexD (c / 16) :: Pl.hexD (c % 16) :: t)) = bs (strOfNums [Pl.hexD (c / 16), Pl.hexD (c % 16)]) ++ bs (strOfNums t) := by simp [bs, strOfNums]
    rw [e1, bs_nums [Pl.hexD (c / 16), Pl.hexD (c % 16)] (by intro n hn; simp at hn; omega)]
    rfl
  have T := Pl.two_digits (c / 16) (c % 16) (by omega) (by omega) (by omega) (by omega) (bs (strOfNums t))
  have h := zzdigits_any (strOfNums (Pl.hexD (c / 16) :: Pl.hexD (c % 16) :: t)) 16 2 (by rw [strOfNums_size]; unfold maxLen; simp; omega) (by omega) (by omega) (by omega) (by omega) w
  rw [e, T.1, T.2, show 16 * (c / 16) + c % 16 = c by omega] at h
  exact h

theorem conv_cells (w : World) (b o n cap : Nat) (xs : List Int) (hl : xs.length = n) (hc : ∀ j, j < n → w.cell? ⟨b, o + j, none⟩ = some (.int .u8 (xs.getD j 0))) :
    Sem.run Try.prog (convert 22 9 (.slice (some ⟨b, o, none⟩) n cap)) w = .ok (.string (strOfNums xs)) w :=
  run_convert_bytes_arg w 22 5 Try.underlying22 Try.underlying5 b o n cap xs hl hc 9 Try.underlying9
theorem three_cells {w : World} {b o : Nat} {x y z : Int} (h0 : w.cell? ⟨b, o + 0, none⟩ = some (.int .u8 x)) (h1 : w.cell? ⟨b, o + 1, none⟩ = some (.int .u8 y)) (h2 : w.cell? ⟨b, o + 2, none⟩ = some (.int .u8 z)) :
    ∀ j, j < 3 → w.cell? ⟨b, o + j, none⟩ = some (.int .u8 ([x, y, z].getD j 0)) := by
  intro j hj
  match j, hj with
  | 0, _ => exact h0
  | 1, _ => exact h1
  | 2, _ => exact h2
theorem two_cells {w : World} {b o : Nat} {x y : Int} (h0 : w.cell? ⟨b, o + 0, none⟩ = some (.int .u8 x)) (h1 : w.cell? ⟨b, o + 1, none⟩ = some (.int .u8 y)) :
    ∀ j, j < 2 → w.cell? ⟨b, o + j, none⟩ = some (.int .u8 ([x, y].getD j 0)) := by
  intro j hj
  match j, hj with
  | 0, _ => exact h0
  | 1, _ => exact h1

theorem own_nil {w : World} {g N : Nat} {base : Nat} (h : w.ownsRow base 5 1 (.slice (some ⟨g, 0, none⟩) 0 N) 0 []) : Owns w base (.slice (some ⟨g, 0, none⟩) 0 N) [] := h

set_option maxHeartbeats 4000000 in
set_option maxRecDepth 100000 in
theorem readBody (b o N cap : Nat) (l : List Int) (w : World) (h : Rd w (some ⟨b, o, none⟩) N (Pl.escAll l)) (hcap : N ≤ cap) (hcap2 : cap ≤ 9223372036854775807) (hl : l.length ≤ 65536) (hby : ∀ n ∈ l, 0 ≤ n ∧ n ≤ 255) :
    Calls Try.prog 12 #[.slice (some ⟨b, o, none⟩) N cap] w fun e w' => ∃ v, e = .returned (.tuple #[v, .bool true]) ∧ Owns w' w.heap.size v l ∧ Below w.heap.size w w' := by
  obtain ⟨i0, hi, hz0, hz1, hz2⟩ := info_parts info5
  have HBy : Hid (∀ n ∈ l, 0 ≤ n ∧ n ≤ 255) := hby
  clear hby
  have hNlen := h.1
  have hN4 : N ≤ 262144 := by have := (Pl.escAll_len l).2; omega
  have HN : Hid ((Pl.escAll l).length = N) := hNlen
  clear hNlen
  go_enter Try.func12, Try.ntmps12
  go_wp2_with (at_make; refine wpList_make_own _ rfl _ _ 22 rfl w.heap.size 5 i0 (.int .u8 0) 1 Try.underlying22 hi hz0 hz1 .i64 .i64 (N : Int) N rfl rfl rfl (by rw [hz2]; omega) (by unfold maxLen; omega) (Nat.le_refl _) ?_; intro w1 hown1 hgrow1; have b1 : Hid (Below w.heap.size w w1) := (Below.refl _ w).grown hgrow1 (Nat.le_refl _) (fun k hk => by cases hk); have o1 : Hid (Owns w1 w.heap.size (.slice (some ⟨w.heap.size, 0, none⟩) 0 N) []) := hown1; clear hown1 hgrow1)
  go_loopw [4, 5] (fun v i wr => ∃ k p : Nat, k ≤ l.length ∧ Hid (Pl.pos l k = p) ∧ i = .int .i64 p ∧ Owns wr w.heap.size v (l.take k) ∧ Below w.heap.size w wr) (fun _ i _ => N - (intOf i).toNat)
  case atStart => exact ⟨0, 0, Nat.zero_le _, Pl.pos_zero l, rfl, o1.out, b1.out⟩
  case round =>
    obtain ⟨k, p, hk, hp, rfl, hown, hbel⟩ := hrel
    have HO : Hid (Owns wr w.heap.size _ (l.take k)) := hown
    have HB : Hid (Below w.heap.size w wr) := hbel
    have hsz := hbel.size
    have htl : (l.take k).length ≤ 65536 := by simp; omega
    clear hown hbel o1 b1
    by_cases hlt : k < l.length
    · obtain ⟨c, hc⟩ : ∃ c, l.getD k 0 = c := ⟨_, rfl⟩
      have hcr : 0 ≤ c ∧ c ≤ 255 := by
        have := HBy.out (l.getD k 0) (by simp [List.getD, hlt])
        rw [hc] at this; exact this
      have hgetc : Hid (∀ j, j < (Pl.esc c).length → wr.cell? ⟨b, o + (p + j), none⟩ = some (.int .u8 ((Pl.esc c).getD j 0))) := by
        intro j hj
        have h1 := Pl.pos_le l k hlt
        have h2 := Pl.pos_get l k hlt j (by rw [hc]; exact hj)
        rw [hc, hp.out] at h1 h2
        have h3 := h.2.2 _ rfl (p + j) (by have := HN.out; omega)
        rw [add_plain, h2] at h3
        exact cell_later HB.out h3
      have hpl : Hid (p + (Pl.esc c).length ≤ N) := by
        have h1 := Pl.pos_le l k hlt
        rw [hc, hp.out, HN.out] at h1; exact h1
      have hps : Hid (Pl.pos l (k + 1) = p + (Pl.esc c).length) := by
        have h1 := Pl.pos_succ l k hlt
        rw [hc, hp.out] at h1; exact h1
      have hts : Hid (l.take k ++ [c] = l.take (k + 1)) := by
        have h1 := Pl.take_snoc l k hlt
        rw [hc] at h1; exact h1.symm
      have hfive : Hid (∀ j, j < N → ∃ x, wr.cell? ⟨b, o + j, none⟩ = some (.int .u8 x)) := by
        intro j hj
        have h3 := h.2.2 _ rfl j hj
        rw [add_plain] at h3
        exact ⟨_, cell_later HB.out h3⟩
      clear hc h
      by_cases hpln : c ≠ 92 ∧ c ≠ 34 ∧ 32 ≤ c ∧ c ≠ 127
      · have he := Pl.esc_plain c hpln
        have g0 : wr.cell? ⟨b, o + p, none⟩ = some (.int .u8 c) := by have := hgetc.out 0 (by rw [he]; simp); rw [he] at this; exact this
        have hpN : p + 1 ≤ N := by have := hpl.out; rw [he] at this; exact this
        have hpS : Hid (Pl.pos l (k + 1) = p + 1) := by have := hps.out; rw [he] at this; exact this
        obtain ⟨t1, t2, t3, t4⟩ := hpln
        have t1' : (c == 92) = false := by simp [t1]
        have t2' : (c == 34) = false := by simp [t2]
        have t4' : (c == 127) = false := by simp [t4]
        clear he t1 t2 t4
        go_wp2_with (at_builtin; refine app_new wr [c] rfl _ _ rfl w.heap.size _ _ rfl HO.out 1 rfl (by simp; omega) hsz HB.out ?_; intro v2 w2 hown2 hbel2; rw [hts.out] at hown2)
        go_roundw
        case rel => exact ⟨k + 1, p + 1, by omega, hpS.out, by go_num, hown2, hbel2⟩
        case measure => simp [intOf]; omega
      by_cases h92 : c = 92
      · subst h92
        have he : Pl.esc 92 = [92, 92] := rfl
        have g0 : wr.cell? ⟨b, o + p, none⟩ = some (.int .u8 92) := by have := hgetc.out 0 (by rw [he]; simp); rw [he] at this; exact this
        have g1 : wr.cell? ⟨b, o + (p + 1), none⟩ = some (.int .u8 92) := by have := hgetc.out 1 (by rw [he]; simp); rw [he] at this; exact this
        have hpN : p + 2 ≤ N := by have := hpl.out; rw [he] at this; exact this
        have hpS : Hid (Pl.pos l (k + 1) = p + 2) := by have := hps.out; rw [he] at this; exact this
        clear he hgetc hpl hps
        go_wp2_with (at_builtin; refine app_new wr [92] rfl _ _ rfl w.heap.size _ _ rfl HO.out 1 rfl (by simp; omega) hsz HB.out ?_; intro v2 w2 hown2 hbel2; rw [hts.out] at hown2)
        go_roundw
        case rel => exact ⟨k + 1, p + 2, by omega, hpS.out, by go_num, hown2, hbel2⟩
        case measure => simp [intOf]; omega
      by_cases h34 : c = 34
      · subst h34
        have he : Pl.esc 34 = [92, 34] := rfl
        have g0 : wr.cell? ⟨b, o + p, none⟩ = some (.int .u8 92) := by have := hgetc.out 0 (by rw [he]; simp); rw [he] at this; exact this
        have g1 : wr.cell? ⟨b, o + (p + 1), none⟩ = some (.int .u8 34) := by have := hgetc.out 1 (by rw [he]; simp); rw [he] at this; exact this
        have hpN : p + 2 ≤ N := by have := hpl.out; rw [he] at this; exact this
        have hpS : Hid (Pl.pos l (k + 1) = p + 2) := by have := hps.out; rw [he] at this; exact this
        clear he hgetc hpl hps
        go_wp2_with (at_builtin; refine app_new wr [34] rfl _ _ rfl w.heap.size _ _ rfl HO.out 1 rfl (by simp; omega) hsz HB.out ?_; intro v2 w2 hown2 hbel2; rw [hts.out] at hown2)
        go_roundw
        case rel => exact ⟨k + 1, p + 2, by omega, hpS.out, by go_num, hown2, hbel2⟩
        case measure => simp [intOf]; omega
      by_cases h10 : c = 10
      · subst h10
        have he : Pl.esc 10 = [92, 110] := rfl
        have g0 : wr.cell? ⟨b, o + p, none⟩ = some (.int .u8 92) := by have := hgetc.out 0 (by rw [he]; simp); rw [he] at this; exact this
        have g1 : wr.cell? ⟨b, o + (p + 1), none⟩ = some (.int .u8 110) := by have := hgetc.out 1 (by rw [he]; simp); rw [he] at this; exact this
        have hpN : p + 2 ≤ N := by have := hpl.out; rw [he] at this; exact this
        have hpS : Hid (Pl.pos l (k + 1) = p + 2) := by have := hps.out; rw [he] at this; exact this
        clear he hgetc hpl hps
        go_wp2_with (at_builtin; refine app_new wr [10] rfl _ _ rfl w.heap.size _ _ rfl HO.out 1 rfl (by simp; omega) hsz HB.out ?_; intro v2 w2 hown2 hbel2; rw [hts.out] at hown2)
        go_roundw
        case rel => exact ⟨k + 1, p + 2, by omega, hpS.out, by go_num, hown2, hbel2⟩
        case measure => simp [intOf]; omega
      by_cases h9 : c = 9
      · subst h9
        have he : Pl.esc 9 = [92, 116] := rfl
        have g0 : wr.cell? ⟨b, o + p, none⟩ = some (.int .u8 92) := by have := hgetc.out 0 (by rw [he]; simp); rw [he] at this; exact this
        have g1 : wr.cell? ⟨b, o + (p + 1), none⟩ = some (.int .u8 116) := by have := hgetc.out 1 (by rw [he]; simp); rw [he] at this; exact this
        have hpN : p + 2 ≤ N := by have := hpl.out; rw [he] at this; exact this
        have hpS : Hid (Pl.pos l (k + 1) = p + 2) := by have := hps.out; rw [he] at this; exact this
        clear he hgetc hpl hps
        go_wp2_with (at_builtin; refine app_new wr [9] rfl _ _ rfl w.heap.size _ _ rfl HO.out 1 rfl (by simp; omega) hsz HB.out ?_; intro v2 w2 hown2 hbel2; rw [hts.out] at hown2)
        go_roundw
        case rel => exact ⟨k + 1, p + 2, by omega, hpS.out, by go_num, hown2, hbel2⟩
        case measure => simp [intOf]; omega
      by_cases h13 : c = 13
      · subst h13
        have he : Pl.esc 13 = [92, 114] := rfl
        have g0 : wr.cell? ⟨b, o + p, none⟩ = some (.int .u8 92) := by have := hgetc.out 0 (by rw [he]; simp); rw [he] at this; exact this
        have g1 : wr.cell? ⟨b, o + (p + 1), none⟩ = some (.int .u8 114) := by have := hgetc.out 1 (by rw [he]; simp); rw [he] at this; exact this
        have hpN : p + 2 ≤ N := by have := hpl.out; rw [he] at this; exact this
        have hpS : Hid (Pl.pos l (k + 1) = p + 2) := by have := hps.out; rw [he] at this; exact this
        clear he hgetc hpl hps
        go_wp2_with (at_builtin; refine app_new wr [13] rfl _ _ rfl w.heap.size _ _ rfl HO.out 1 rfl (by simp; omega) hsz HB.out ?_; intro v2 w2 hown2 hbel2; rw [hts.out] at hown2)
        go_roundw
        case rel => exact ⟨k + 1, p + 2, by omega, hpS.out, by go_num, hown2, hbel2⟩
        case measure => simp [intOf]; omega
      have he := Pl.esc_hex c ⟨h10, h9, h13⟩ (by omega)
      have hq0 : 0 ≤ c / 16 := by omega
      have hq1 : c / 16 < 16 := by omega
      have hr0 : 0 ≤ c % 16 := by omega
      have hr1 : c % 16 < 16 := by omega
      have hQ := Pl.hexD_range (c / 16) hq0 hq1
      have hR := Pl.hexD_range (c % 16) hr0 hr1
      have g0 : wr.cell? ⟨b, o + p, none⟩ = some (.int .u8 92) := by have := hgetc.out 0 (by rw [he]; simp); rw [he] at this; exact this
      have g1 : wr.cell? ⟨b, o + (p + 1), none⟩ = some (.int .u8 120) := by have := hgetc.out 1 (by rw [he]; simp); rw [he] at this; exact this
      have g2 : wr.cell? ⟨b, o + (p + 2), none⟩ = some (.int .u8 (Pl.hexD (c / 16))) := by have := hgetc.out 2 (by rw [he]; simp); rw [he] at this; exact this
      have g3 : wr.cell? ⟨b, o + (p + 3), none⟩ = some (.int .u8 (Pl.hexD (c % 16))) := by have := hgetc.out 3 (by rw [he]; simp); rw [he] at this; exact this
      have hpN : p + 4 ≤ N := by have := hpl.out; rw [he] at this; exact this
      have hpS : Hid (Pl.pos l (k + 1) = p + 4) := by have := hps.out; rw [he] at this; exact this
      clear he hgetc hpl hps
      have hk2 : Hid (c < 32 ∨ c = 127) := by show _ ∨ _; omega
      have t10 : (c == 10) = false := by simp [h10]
      have t9 : (c == 9) = false := by simp [h9]
      have t13 : (c == 13) = false := by simp [h13]
      clear h10 h9 h13 h92 h34 hpln
      by_cases h5 : p + 5 ≤ N
      · obtain ⟨x, g4⟩ := hfive.out (p + 4) (by omega)
        have hcv : Sem.run Try.prog (convert 22 9 (.slice (some ⟨b, o + (p + 2), none⟩) 3 (cap - (p + 2)))) wr = .ok (.string (strOfNums [Pl.hexD (c / 16), Pl.hexD (c % 16), x])) wr :=
          conv_cells wr b (o + (p + 2)) 3 (cap - (p + 2)) [Pl.hexD (c / 16), Pl.hexD (c % 16), x] rfl (three_cells g2 g3 g4)
        by_cases h32 : c < 32
        · go_wp2_with (first | (go_at_call 18; refine (lower_yes _ (by omega) (by omega) (by omega) _).mono ?_; rintro e w' ⟨rfl, rfl⟩) | (go_at_call 16; refine (zz_two c hcr.1 hcr.2 _ (by simp) _).mono ?_; rintro e w' ⟨rfl, rfl⟩) | (at_builtin; refine app_new _ [c] rfl _ _ rfl w.heap.size _ _ rfl HO.out 1 rfl (by simp; omega) hsz HB.out ?_; intro v2 w2 hown2 hbel2; rw [hts.out] at hown2))
          go_roundw
          case rel => exact ⟨k + 1, p + 4, by omega, hpS.out, by go_num, hown2, hbel2⟩
          case measure => simp [intOf]; omega
        · have t127 : (c == 127) = true := by have := hk2.out; simp; omega
          go_wp2_with (first | (go_at_call 18; refine (lower_yes _ (by omega) (by omega) (by omega) _).mono ?_; rintro e w' ⟨rfl, rfl⟩) | (go_at_call 16; refine (zz_two c hcr.1 hcr.2 _ (by simp) _).mono ?_; rintro e w' ⟨rfl, rfl⟩) | (at_builtin; refine app_new _ [c] rfl _ _ rfl w.heap.size _ _ rfl HO.out 1 rfl (by simp; omega) hsz HB.out ?_; intro v2 w2 hown2 hbel2; rw [hts.out] at hown2))
          go_roundw
          case rel => exact ⟨k + 1, p + 4, by omega, hpS.out, by go_num, hown2, hbel2⟩
          case measure => simp [intOf]; omega
      · have hcv : Sem.run Try.prog (convert 22 9 (.slice (some ⟨b, o + (p + 2), none⟩) (N - (p + 2)) (cap - (p + 2)))) wr = .ok (.string (strOfNums [Pl.hexD (c / 16), Pl.hexD (c % 16)])) wr :=
          conv_cells wr b (o + (p + 2)) (N - (p + 2)) (cap - (p + 2)) [Pl.hexD (c / 16), Pl.hexD (c % 16)] (by simp; omega) (fun j hj => two_cells g2 g3 j (by omega))
        by_cases h32 : c < 32
        · go_wp2_with (first | (go_at_call 18; refine (lower_yes _ (by omega) (by omega) (by omega) _).mono ?_; rintro e w' ⟨rfl, rfl⟩) | (go_at_call 16; refine (zz_two c hcr.1 hcr.2 _ (by simp) _).mono ?_; rintro e w' ⟨rfl, rfl⟩) | (at_builtin; refine app_new _ [c] rfl _ _ rfl w.heap.size _ _ rfl HO.out 1 rfl (by simp; omega) hsz HB.out ?_; intro v2 w2 hown2 hbel2; rw [hts.out] at hown2))
          go_roundw
          case rel => exact ⟨k + 1, p + 4, by omega, hpS.out, by go_num, hown2, hbel2⟩
          case measure => simp [intOf]; omega
        · have t127 : (c == 127) = true := by have := hk2.out; simp; omega
          go_wp2_with (first | (go_at_call 18; refine (lower_yes _ (by omega) (by omega) (by omega) _).mono ?_; rintro e w' ⟨rfl, rfl⟩) | (go_at_call 16; refine (zz_two c hcr.1 hcr.2 _ (by simp) _).mono ?_; rintro e w' ⟨rfl, rfl⟩) | (at_builtin; refine app_new _ [c] rfl _ _ rfl w.heap.size _ _ rfl HO.out 1 rfl (by simp; omega) hsz HB.out ?_; intro v2 w2 hown2 hbel2; rw [hts.out] at hown2))
          go_roundw
          case rel => exact ⟨k + 1, p + 4, by omega, hpS.out, by go_num, hown2, hbel2⟩
          case measure => simp [intOf]; omega
    · have hpe : Hid (N ≤ p) := by have h1 := Pl.pos_end l k (by omega); rw [hp.out, HN.out] at h1; exact Nat.le_of_eq h1.symm
      have hpe2 := hpe.out
      have hF := HO.out
      rw [List.take_of_length_le (by omega)] at hF
      go_wp2
      go_ret2
      exact ⟨_, rfl, hF, HB.out⟩

end Go.Proofs.Qxb6620857a.Wk
