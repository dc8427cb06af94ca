import Derived.Test.Qxb6619356aFill
namespace Go.Proofs.Qxb6619356a.Wk
open Go.RowKit Go.WideShapes

theorem zz_big (ao bo : Option Addr) (n c m d : Nat) (hn : n ≤ maxLen) (hm : m ≤ maxLen) (h : 1048576 < n + m) (w : World) :
    Calls Try.prog 4 #[.slice ao n c, .slice bo m d] w fun e w' => e = .returned (.bool false) ∧ w = w' := by
  unfold maxLen at hn hm
  by_cases h1 : 1048576 < n
  · go_enter Try.func4, Try.ntmps4
    go_wp2
    go_ret
    exact ⟨rfl, rfl⟩
  by_cases h2 : 1048576 < m
  · go_enter Try.func4, Try.ntmps4
    go_wp2
    go_ret
    exact ⟨rfl, rfl⟩
  · go_enter Try.func4, Try.ntmps4
    go_wp2
    go_ret
    exact ⟨rfl, rfl⟩
theorem zz_ok (ao bo : Option Addr) (n c m d : Nat) (h : n + m ≤ 1048576) (w : World) :
    Calls Try.prog 4 #[.slice ao n c, .slice bo m d] w fun e w' => e = .returned (.bool true) ∧ w = w' := by
  go_enter Try.func4, Try.ntmps4
  go_wp2
  go_ret
  exact ⟨rfl, rfl⟩

/-- 'copy(zzc, a)', zzc a new row as long as a: the run. -/
theorem run_copy_full {W : World} (w0 : World) (g n : Nat) (zs : List Int) (hown : Owns w0 g (.slice (some ⟨g, 0, none⟩) n n) zs) (hz : zs.length = n)
    (ao : Option Addr) (cap : Nat) (xs : List Int) (hrd : Rd w0 ao n xs) (hbel : Below W.heap.size W w0) (hg : W.heap.size ≤ g) :
    ∃ w', Sem.run Try.prog (Builtin.copy_ #[22, 22] 3 #[.slice (some ⟨g, 0, none⟩) n n, .slice ao n cap]) w0 = .ok (.int .i64 n) w' ∧ Rd w' (some ⟨g, 0, none⟩) n xs ∧ Below W.heap.size W w' := by
  subst hz
  have hxl := hrd.1
  have hsz : (Try.prog.info? 5).map (·.size) = some 1 := by kernel_rfl
  rcases hown.2 with ⟨h', _⟩ | ⟨g', cap', cur, h', _, hgg, _, _, hcs, htake⟩
  · simp at h'
  · simp only [Value.slice.injEq, Option.some.injEq, Addr.mk.injEq, and_true, true_and] at h'
    obtain ⟨rfl, rfl⟩ := h'
    by_cases h0 : zs.length = 0
    · have hr := run_copy_none (P := Try.prog) w0 22 22 3 5 (some ⟨g, 0, none⟩) ao zs.length zs.length zs.length cap Try.underlying22 hsz (by simp [h0])
      refine ⟨w0, ?_, ?_, hbel⟩
      · rw [hr, h0]; rfl
      · rw [h0]
        have : xs = [] := List.eq_nil_of_length_eq_zero (by omega)
        subst this
        exact Rd.zero _
    · obtain ⟨b, o', e, _, hc⟩ := hrd.at (by omega)
      subst e
      have hr := run_copy_row (P := Try.prog) w0 22 22 3 5 g 0 zs.length zs.length ⟨b, o', none⟩ zs.length cap cur 5 (xs.map (Value.int .u8)) Try.underlying22 hsz hgg (by simp [hxl])
        (fun j v hj => by
          have hlt : j < xs.length := by
            have := (List.getElem?_eq_some_iff.1 hj).1
            simpa using this
          rw [add_plain, hc j (by omega), ← hj]
          simp [List.getD, hlt]) (by simp [hxl]; omega) (ints_oneCell _ _)
      have e1 : cur.toList.take 0 ++ xs.map (Value.int .u8) ++ cur.toList.drop (0 + (xs.map (Value.int .u8)).length) = xs.map (Value.int .u8) := by
        rw [List.take_zero, List.nil_append, List.drop_of_length_le (by simp [hxl]; omega), List.append_nil]
      rw [e1, List.length_map, hxl] at hr
      refine ⟨_, hr, ?_, below_setRow hbel hg _⟩
      refine Rd.mk' hxl fun j hj => ?_
      rw [Nat.zero_add, cell_of_row _ g j _ 5 (0, 0) (setRow_heap w0 g _ _ 5 _ hgg)]
      simp [List.getD, show j < xs.length by omega]

/-- zzLowerASCII of a string of bytes. -/
theorem lower_ws (ws : List Int) (hb : Bytes ws) (hs : (strOfNums ws).size ≤ 4194304) (w : World) :
    Calls Try.prog 8 #[.string (strOfNums ws)] w fun e w' => e = .returned (.string (strOfNums (ws.map Pl.low))) ∧ Below w.heap.size w w' := by
  have h := lower_any (strOfNums ws) w hs
  rw [bs_nums ws hb] at h
  exact h

end Go.Proofs.Qxb6619356a.Wk
