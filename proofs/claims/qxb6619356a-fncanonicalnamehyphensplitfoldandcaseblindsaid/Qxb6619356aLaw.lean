import Derived.Test.Qxb6619356aCopy
import Derived.Deep.DeepCutAuto
import Derived.Deep.RegionWith
namespace Go.Proofs.Qxb6619356a.Wk
open Go.RowKit Go.WideShapes

set_option maxHeartbeats 4000000 in
set_option maxRecDepth 100000 in
theorem law (ao bo : Option Addr) (n c m d : Nat) (xs ys : List Int) (w : World) (ha : Rd w ao n xs) (hb : Rd w bo m ys) (hn : n ≤ 524288) (hm : m ≤ 524288) (hx : Bytes xs) (hy : Bytes ys) :
    Calls Try.prog 3 #[.slice ao n c, .slice bo m d] w fun e w' => e = .returned (.bool true) ∧ Below w.heap.size w w' := by
  have q : ∀ (w : World) (a : Option Addr) (n c : Nat), (binOp .neq 22 (.slice a n c) (.slice none 0 0)).run Try.prog w = .ok (.bool (!a.isNone)) w := fun w a n c => run_neq_slice_nil_any w 22 5 a n c 0 0 Try.underlying22
  obtain ⟨i0, hi, hz0, hz1, hz2⟩ := info_parts info5
  go_enter Try.func3, Try.ntmps3
  go_upto_if 31 with (go_at_call 4; refine (zz_ok _ _ _ _ _ _ (by omega) _).mono ?_; rintro e wn ⟨rfl, rfl⟩)
  go_cut [0] (fun s0 wx => ∃ a' c', s0 = .slice a' n c' ∧ Rd wx a' n xs ∧ Below w.heap.size w wx)
  case first =>
    cases ao with
    | none =>
      go_wp2_with fail
      go_meet
      case rel => exact ⟨_, _, rfl, ha, Below.refl _ _⟩
    | some x =>
      go_wp2_with (at_make; refine wpList_make_full _ rfl _ _ 22 rfl w.heap.size 5 i0 (.int .u8 0) 1 Try.underlying22 hi hz0 hz1 .i64 .i64 (n : Int) (n : Int) n rfl rfl rfl rfl (by rw [hz2]; omega) (by unfold maxLen; omega) (Nat.le_refl _) ?_; intro w1 hown1 hgrow1; have o1 : Hid (Owns w1 w.heap.size (.slice (some ⟨w.heap.size, 0, none⟩) n n) (List.replicate n 0)) := zeros_own hown1; have b1 : Hid (Below w.heap.size w w1) := (Below.refl _ w).grown hgrow1 (Nat.le_refl _) (fun k hk => by cases hk); clear hown1 hgrow1)
      obtain ⟨w2, hrun, r2, b2⟩ := run_copy_full (W := w) w1 w.heap.size n _ o1.out (by simp) (some x) c xs (ha.later b1.out) b1.out (Nat.le_refl _)
      rw [hrun]
      clear hrun o1 b1
      go_wp2_with fail
      go_meet
      case rel => exact ⟨_, _, rfl, r2, b2⟩
  case rest =>
    obtain ⟨a1, c1, rfl, ra, hba⟩ := hcut
    rename World => wA
    have rb : Rd wA bo m ys := hb.later hba
    go_upto_if 40 with fail
    go_cut [1] (fun s1 wx => ∃ b' d', s1 = .slice b' m d' ∧ Rd wx b' m ys ∧ Below wA.heap.size wA wx)
    case first =>
      cases bo with
      | none =>
        go_wp2_with fail
        go_meet
        case rel => exact ⟨_, _, rfl, rb, Below.refl _ _⟩
      | some x =>
        go_wp2_with (at_make; refine wpList_make_full _ rfl _ _ 22 rfl wA.heap.size 5 i0 (.int .u8 0) 1 Try.underlying22 hi hz0 hz1 .i64 .i64 (m : Int) (m : Int) m rfl rfl rfl rfl (by rw [hz2]; omega) (by unfold maxLen; omega) (Nat.le_refl _) ?_; intro w1 hown1 hgrow1; have o1 : Hid (Owns w1 wA.heap.size (.slice (some ⟨wA.heap.size, 0, none⟩) m m) (List.replicate m 0)) := zeros_own hown1; have b1 : Hid (Below wA.heap.size wA w1) := (Below.refl _ wA).grown hgrow1 (Nat.le_refl _) (fun k hk => by cases hk); clear hown1 hgrow1)
        obtain ⟨w2, hrun, r2, b2⟩ := run_copy_full (W := wA) w1 wA.heap.size m _ o1.out (by simp) (some x) d ys (rb.later b1.out) b1.out (Nat.le_refl _)
        rw [hrun]
        clear hrun o1 b1
        go_wp2_with fail
        go_meet
        case rel => exact ⟨_, _, rfl, r2, b2⟩
    case rest =>
      obtain ⟨b1, d1, rfl, rbb, hbb⟩ := hcut
      rename World => W
      have HB : Hid (Below w.heap.size w W) := step hba hbb
      have raa : Rd W a1 n xs := ra.later hbb
      clear hba hbb ra rb ha hb
      have hxl := raa.1
      have hyl := rbb.1
      go_wp2_with (at_make; refine wpList_make_own _ rfl _ _ 22 rfl W.heap.size 5 i0 (.int .u8 0) 1 Try.underlying22 hi hz0 hz1 .i64 .i64 _ (n + 1 + m) rfl rfl (by omega) (by rw [hz2]; omega) (by unfold maxLen; omega) (Nat.le_refl _) ?_; intro w1 hown1 hgrow1; have b1' : Hid (Below W.heap.size W w1) := (Below.refl _ W).grown hgrow1 (Nat.le_refl _) (fun k hk => by cases hk); have o1 : Hid (Owns w1 W.heap.size (.slice (some ⟨W.heap.size, 0, none⟩) 0 (n + 1 + m)) []) := hown1; clear hown1 hgrow1)
      go_loopw [7, 8] (fun v i wr => ∃ k : Nat, k ≤ n ∧ i = .int .i64 k ∧ Owns wr W.heap.size v (xs.take k) ∧ Below W.heap.size W wr) (fun _ i _ => n - (intOf i).toNat)
      case atStart => exact ⟨0, Nat.zero_le _, rfl, o1.out, b1'.out⟩
      case round =>
        obtain ⟨k, hk, rfl, hown, hbel⟩ := hrel
        have HO : Hid (Owns wr W.heap.size _ (xs.take k)) := hown
        have HBr : Hid (Below W.heap.size W wr) := hbel
        have hsz := hbel.size
        have hcl : (xs.take k).length ≤ 2097152 := by simp; omega
        clear hown hbel
        by_cases hlt : k < n
        · obtain ⟨b, o, e1, _, hc1⟩ := raa.at (by omega)
          subst e1
          obtain ⟨c, hc⟩ : ∃ c, xs.getD k 0 = c := ⟨_, rfl⟩
          have g1 : wr.cell? ⟨b, o + k, none⟩ = some (.int .u8 c) := by rw [← hc]; exact cell_later HBr.out (hc1 k hlt)
          have hts : Hid ((xs.take k) ++ [c] = (xs.take (k + 1))) := by
            have h1 := Pl.take_snoc xs k (by have := raa.1; omega)
            rw [hc] at h1
            show _ = _
            rw [h1]
          clear hc hc1
          go_wp2_with (at_builtin; refine app_new wr [c] rfl _ _ rfl W.heap.size _ _ rfl HO.out 1 rfl (by simp at hcl ⊢; omega) hsz HBr.out ?_; intro v2 w2 hown2 hbel2; rw [hts.out] at hown2)
          go_roundw
          case rel => exact ⟨k + 1, by omega, by go_num, hown2, hbel2⟩
          case measure => simp [intOf]; omega
        · have hF := HO.out
          rw [List.take_of_length_le (by omega)] at hF
          have HF : Hid (Owns wr W.heap.size _ xs) := hF
          have HB2 : Hid (Below W.heap.size W wr) := HBr.out
          clear hF HO HBr
          go_wp2_with (at_builtin; refine app_new wr [45] rfl _ _ rfl W.heap.size _ _ rfl HF.out 1 rfl (by simp; omega) hsz HB2.out ?_; intro v2 w2 hown2 hbel2; have o2 : Hid (Owns w2 W.heap.size v2 (xs ++ [45])) := hown2; have b2 : Hid (Below W.heap.size W w2) := hbel2; clear hown2 hbel2)
          clear HF HB2 hcl hsz
          go_loopw [7, 9] (fun v i wr => ∃ k : Nat, k ≤ m ∧ i = .int .i64 k ∧ Owns wr W.heap.size v (xs ++ 45 :: ys.take k) ∧ Below W.heap.size W wr) (fun _ i _ => m - (intOf i).toNat)
          case atStart => exact ⟨0, Nat.zero_le _, rfl, o2.out, b2.out⟩
          case round =>
            obtain ⟨k, hk, rfl, hown, hbel⟩ := hrel
            have HO : Hid (Owns wr W.heap.size _ (xs ++ 45 :: ys.take k)) := hown
            have HBr : Hid (Below W.heap.size W wr) := hbel
            have hsz := hbel.size
            have hcl : (xs ++ 45 :: ys.take k).length ≤ 2097152 := by simp; omega
            clear hown hbel
            by_cases hlt : k < m
            · obtain ⟨b, o, e1, _, hc1⟩ := rbb.at (by omega)
              subst e1
              obtain ⟨c, hc⟩ : ∃ c, ys.getD k 0 = c := ⟨_, rfl⟩
              have g1 : wr.cell? ⟨b, o + k, none⟩ = some (.int .u8 c) := by rw [← hc]; exact cell_later HBr.out (hc1 k hlt)
              have hts : Hid ((xs ++ 45 :: ys.take k) ++ [c] = (xs ++ 45 :: ys.take (k + 1))) := by
                have h1 := Pl.take_snoc ys k (by have := rbb.1; omega)
                rw [hc] at h1
                show _ = _
                rw [h1]; simp
              clear hc hc1
              go_wp2_with (at_builtin; refine app_new wr [c] rfl _ _ rfl W.heap.size _ _ rfl HO.out 1 rfl (by simp at hcl ⊢; omega) hsz HBr.out ?_; intro v2 w2 hown2 hbel2; rw [hts.out] at hown2)
              go_roundw
              case rel => exact ⟨k + 1, by omega, by go_num, hown2, hbel2⟩
              case measure => simp [intOf]; omega
            · have hF := HO.out
              rw [List.take_of_length_le (by omega)] at hF
              obtain ⟨ws, hws⟩ : ∃ ws, xs ++ 45 :: ys = ws := ⟨_, rfl⟩
              have hwl : ws.length = n + 1 + m := by rw [← hws]; simp; omega
              have hwb : Bytes ws := by
                intro z hz
                rw [← hws] at hz
                simp only [List.mem_append, List.mem_cons] at hz
                rcases hz with hz | rfl | hz
                · exact hx z hz
                · omega
                · exact hy z hz
              rw [hws] at hF
              obtain ⟨aw, cw, hv, rw0, _⟩ := owns_slice hF
              rw [hwl] at hv rw0
              subst hv
              have HB3 : Hid (Below w.heap.size w wr) := step HB.out HBr.out
              have ra3 : Rd wr a1 n xs := raa.later HBr.out
              have rb3 : Rd wr b1 m ys := rbb.later HBr.out
              have HWS : Hid (xs ++ 45 :: ys = ws) := hws
              clear hF HO HBr hws raa rbb o1 b1' o2 b2
              go_wp2_with fail
              refine (zzCanonical aw (n + 1 + m) cw ws _ rw0 (by omega) hwb).mono ?_
              rintro e w8 ⟨ac, cc, rfl, rc, B8⟩
              go_wp2_with fail
              refine (zzCanonical a1 n c1 xs _ (ra3.later B8) (by omega) hx).mono ?_
              rintro e w9 ⟨aca, cca, rfl, rca, B9⟩
              go_wp2_with fail
              refine (zzCanonical b1 m d1 ys _ ((rb3.later B8).later B9) (by omega) hy).mono ?_
              rintro e V ⟨acb, ccb, rfl, rcb, B10⟩
              have HB4 : Hid (Below w.heap.size w V) := step (step (step HB3.out B8) B9) B10
              have rw4 : Rd V aw (n + 1 + m) ws := ((rw0.later B8).later B9).later B10
              have rc4 : Rd V ac (n + 1 + m) (Pl.canon true ws) := (rc.later B9).later B10
              have rca4 : Rd V aca n (Pl.canon true xs) := rca.later B10
              clear rw0 rc rca ra3 rb3 B8 B9 B10 HB3
              obtain ⟨ps, hps⟩ : ∃ ps, Pl.canon true xs = ps := ⟨_, rfl⟩
              obtain ⟨qs, hqs⟩ : ∃ qs, Pl.canon true ys = qs := ⟨_, rfl⟩
              obtain ⟨cs, hcs⟩ : ∃ cs, Pl.canon true ws = cs := ⟨_, rfl⟩
              have HSP : Hid (ps ++ 45 :: qs = cs) := by show _ = _; rw [← hps, ← hqs, ← hcs, ← HWS.out, Pl.split_hyphen]
              have HCS : Hid (Pl.canon true ws = cs) := hcs
              have hcb : Bytes cs := by rw [← hcs]; exact Pl.canon_range true ws hwb
              rw [hps] at rca4
              rw [hqs] at rcb
              rw [hcs] at rc4
              clear hps hqs hcs
              have hpl := rca4.1
              have hql := rcb.1
              go_wp2_with fail
              go_loopw [13, 14] (fun v i wr => ∃ k : Nat, k ≤ n ∧ i = .int .i64 k ∧ Owns wr V.heap.size v (ps.take k) ∧ Below V.heap.size V wr) (fun _ i _ => n - (intOf i).toNat)
              case atStart => exact ⟨0, Nat.zero_le _, rfl, World.ownsRow_nil _ _ _ _, Below.refl _ _⟩
              case round =>
                obtain ⟨k, hk, rfl, hown, hbel⟩ := hrel
                have HO : Hid (Owns wr V.heap.size _ (ps.take k)) := hown
                have HBr : Hid (Below V.heap.size V wr) := hbel
                have hsz := hbel.size
                have hcl : (ps.take k).length ≤ 2097152 := by simp; omega
                clear hown hbel
                by_cases hlt : k < n
                · obtain ⟨b, o, e1, _, hc1⟩ := rca4.at (by omega)
                  subst e1
                  obtain ⟨c, hc⟩ : ∃ c, ps.getD k 0 = c := ⟨_, rfl⟩
                  have g1 : wr.cell? ⟨b, o + k, none⟩ = some (.int .u8 c) := by rw [← hc]; exact cell_later HBr.out (hc1 k hlt)
                  have hts : Hid ((ps.take k) ++ [c] = (ps.take (k + 1))) := by
                    have h1 := Pl.take_snoc ps k (by have := rca4.1; omega)
                    rw [hc] at h1
                    show _ = _
                    rw [h1]
                  clear hc hc1
                  go_wp2_with (at_builtin; refine app_new wr [c] rfl _ _ rfl V.heap.size _ _ rfl HO.out 1 rfl (by simp at hcl ⊢; omega) hsz HBr.out ?_; intro v2 w2 hown2 hbel2; rw [hts.out] at hown2)
                  go_roundw
                  case rel => exact ⟨k + 1, by omega, by go_num, hown2, hbel2⟩
                  case measure => simp [intOf]; omega
                · have hF := HO.out
                  rw [List.take_of_length_le (by omega)] at hF
                  have HF : Hid (Owns wr V.heap.size _ ps) := hF
                  have HB2 : Hid (Below V.heap.size V wr) := HBr.out
                  clear hF HO HBr
                  go_wp2_with (at_builtin; refine app_new wr [45] rfl _ _ rfl V.heap.size _ _ rfl HF.out 1 rfl (by simp; omega) hsz HB2.out ?_; intro v2 w2 hown2 hbel2; have o2 : Hid (Owns w2 V.heap.size v2 (ps ++ [45])) := hown2; have b2 : Hid (Below V.heap.size V w2) := hbel2; clear hown2 hbel2)
                  clear HF HB2 hcl hsz
                  go_loopw [13, 15] (fun v i wr => ∃ k : Nat, k ≤ m ∧ i = .int .i64 k ∧ Owns wr V.heap.size v (ps ++ 45 :: qs.take k) ∧ Below V.heap.size V wr) (fun _ i _ => m - (intOf i).toNat)
                  case atStart => exact ⟨0, Nat.zero_le _, rfl, o2.out, b2.out⟩
                  case round =>
                    obtain ⟨k, hk, rfl, hown, hbel⟩ := hrel
                    have HO : Hid (Owns wr V.heap.size _ (ps ++ 45 :: qs.take k)) := hown
                    have HBr : Hid (Below V.heap.size V wr) := hbel
                    have hsz := hbel.size
                    have hcl : (ps ++ 45 :: qs.take k).length ≤ 2097152 := by simp; omega
                    clear hown hbel
                    by_cases hlt : k < m
                    · obtain ⟨b, o, e1, _, hc1⟩ := rcb.at (by omega)
                      subst e1
                      obtain ⟨c, hc⟩ : ∃ c, qs.getD k 0 = c := ⟨_, rfl⟩
                      have g1 : wr.cell? ⟨b, o + k, none⟩ = some (.int .u8 c) := by rw [← hc]; exact cell_later HBr.out (hc1 k hlt)
                      have hts : Hid ((ps ++ 45 :: qs.take k) ++ [c] = (ps ++ 45 :: qs.take (k + 1))) := by
                        have h1 := Pl.take_snoc qs k (by have := rcb.1; omega)
                        rw [hc] at h1
                        show _ = _
                        rw [h1]; simp
                      clear hc hc1
                      go_wp2_with (at_builtin; refine app_new wr [c] rfl _ _ rfl V.heap.size _ _ rfl HO.out 1 rfl (by simp at hcl ⊢; omega) hsz HBr.out ?_; intro v2 w2 hown2 hbel2; rw [hts.out] at hown2)
                      go_roundw
                      case rel => exact ⟨k + 1, by omega, by go_num, hown2, hbel2⟩
                      case measure => simp [intOf]; omega
                    · have hF := HO.out
                      rw [List.take_of_length_le (by omega), HSP.out] at hF
                      obtain ⟨ap, cp, hv, rp, _⟩ := owns_slice hF
                      have hcl2 : cs.length = n + 1 + m := rc4.1
                      rw [hcl2] at hv rp
                      subst hv
                      have HB5 : Hid (Below w.heap.size w wr) := step HB4.out HBr.out
                      have rw5 : Rd wr aw (n + 1 + m) ws := rw4.later HBr.out
                      have rc5 : Rd wr ac (n + 1 + m) cs := rc4.later HBr.out
                      clear hF HO HBr rw4 rc4 rca4 rcb o2 b2 HB4
                      go_wp2_with fail
                      refine (same_yes ac ap _ _ cc cp cs _ rc5 rp (by omega)).mono ?_
                      rintro e X ⟨rfl, B6⟩
                      have HB6 : Hid (Below w.heap.size w X) := step HB5.out B6
                      have rw6 : Rd X aw (n + 1 + m) ws := rw5.later B6
                      have rc6 : Rd X ac (n + 1 + m) cs := rc5.later B6
                      clear rp rw5 rc5 B6 HB5
                      have rcd : Rd X.drew ac (n + 1 + m) cs := rc6.later (Below.refl _ X).drew
                      have rwd : Rd X.drew aw (n + 1 + m) ws := rw6.later (Below.refl _ X).drew
                      have hv1 : ∀ w', Rd w' ac (n + 1 + m) cs → Sem.run Try.prog (convert 22 9 (.slice ac (n + 1 + m) cc)) w' = .ok (.string (strOfNums cs)) w' := fun w' h => conv_rd w' ac (n + 1 + m) cc cs h
                      have hv2 : ∀ w', Rd w' aw (n + 1 + m) ws → Sem.run Try.prog (convert 22 9 (.slice aw (n + 1 + m) cw)) w' = .ok (.string (strOfNums ws)) w' := fun w' h => conv_rd w' aw (n + 1 + m) cw ws h
                      have HFold : Hid ((bs (strOfNums cs)).map Pl.low = bs (strOfNums (ws.map Pl.low))) := by
                        show _ = _
                        rw [bs_nums cs hcb, bs_nums (ws.map Pl.low) (by intro z hz; rw [List.mem_map] at hz; obtain ⟨y, hy', rfl⟩ := hz; exact Pl.low_range y (hwb y hy')), ← HCS.out, Pl.folds]
                      have hcsz : (strOfNums cs).size ≤ 4194304 := by rw [strOfNums_size]; omega
                      have hwsz : (strOfNums ws).size ≤ 4194304 := by rw [strOfNums_size]; omega
                      go_wp2_with fail
                      go_cut [17] (fun s17 wx => s17 = .bool true ∧ Below X.heap.size X wx)
                      case first =>
                        go_region_with (first | (go_at_call 8; refine (lower_ws ws hwb hwsz _).mono ?_; rintro e w8 ⟨rfl, B8⟩; have rc8 : Rd w8 ac (n + 1 + m) cs := rcd.later B8) | (go_at_call 7; refine (zzFold_yes _ _ _ hcsz HFold.out).mono ?_; rintro e w9 ⟨rfl, rfl⟩))
                        all_goals
                          go_wp2_with fail
                          go_meet
                          case rel => exact ⟨rfl, step (Below.refl _ X).drew B8⟩
                      case rest =>
                        obtain ⟨rfl, B9⟩ := hcut
                        rename World => Y
                        have HB9 : Hid (Below w.heap.size w Y) := step HB6.out B9
                        have rw9 : Rd Y aw (n + 1 + m) ws := rw6.later B9
                        have rc9 : Rd Y ac (n + 1 + m) cs := rc6.later B9
                        have hsb : Bytes (ws.map Pl.swp) := by
                          intro z hz
                          rw [List.mem_map] at hz
                          obtain ⟨y, hy', rfl⟩ := hz
                          exact Pl.swp_range y (hwb y hy')
                        have HBlind : Hid (Pl.canon true (ws.map Pl.swp) = cs) := by show _ = _; rw [Pl.blind, HCS.out]
                        have HAgain : Hid (Pl.canon true cs = cs) := by show _ = _; rw [← HCS.out, Pl.again]
                        clear rcd rwd hv1 hv2 HFold rw6 rc6 B9 HB6 hcsz hwsz
                        go_wp2_with fail
                        refine (swap_any aw (n + 1 + m) cw ws _ rw9 (by omega) hwb).mono ?_
                        rintro e w10 ⟨rfl, r10, B10⟩
                        go_wp2_with fail
                        refine (zzCanonical _ (n + 1 + m) (n + 1 + m) (ws.map Pl.swp) _ r10 (by omega) hsb).mono ?_
                        rintro e w11 ⟨a11, c11, rfl, r11, B11⟩
                        rw [HBlind.out] at r11
                        have rc11 : Rd w11 ac (n + 1 + m) cs := (rc9.later B10).later B11
                        have HB11 : Hid (Below w.heap.size w w11) := step (step HB9.out B10) B11
                        clear r10 rw9 rc9 B10 B11 HB9
                        go_wp2_with fail
                        refine (same_yes a11 ac _ _ c11 cc cs _ r11 rc11 (by omega)).mono ?_
                        rintro e w12 ⟨rfl, B12⟩
                        have rc12 : Rd w12 ac (n + 1 + m) cs := rc11.later B12
                        have HB12 : Hid (Below w.heap.size w w12) := step HB11.out B12
                        clear r11 rc11 B12 HB11
                        go_wp2_with fail
                        refine (zzCanonical ac (n + 1 + m) cc cs _ rc12 (by omega) hcb).mono ?_
                        rintro e w13 ⟨a13, c13, rfl, r13, B13⟩
                        rw [HAgain.out] at r13
                        have rc13 : Rd w13 ac (n + 1 + m) cs := rc12.later B13
                        have HB13 : Hid (Below w.heap.size w w13) := step HB12.out B13
                        clear rc12 B13 HB12
                        go_wp2_with fail
                        refine (same_yes a13 ac _ _ c13 cc cs _ r13 rc13 (by omega)).mono ?_
                        rintro e w14 ⟨rfl, B14⟩
                        go_wp2
                        go_ret
                        exact ⟨rfl, step HB13.out B14⟩

end Go.Proofs.Qxb6619356a.Wk
