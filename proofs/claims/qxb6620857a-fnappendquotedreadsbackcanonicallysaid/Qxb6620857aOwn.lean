import Derived.Test.Qxb6620857aDig
import Derived.Deep.AppendLies
import Derived.Deep.RegionLaw
import Derived.Lib.AppendStr
import Derived.Deep.QuietTactic
import Derived.BigQuiet
namespace Go.Proofs.Qxb6620857a.Wk
open Go.RowKit

theorem info5 : (Try.prog.info? 5).map (fun i => (i.zero, i.size, i.bytes)) = some (some (.int .u8 0), 1, 1) := by kernel_rfl

/-- v owns the bytes xs, among the blocks from 'base' on. -/
def Owns (w : World) (base : Nat) (v : Value) (xs : List Int) : Prop := w.ownsRow base 5 1 v xs.length (xs.map (Value.int .u8))

theorem Owns.mono {w : World} {base base' : Nat} {v : Value} {xs : List Int} (h : Owns w base v xs) (hb : base' ≤ base) : Owns w base' v xs := by
  refine ⟨h.1, ?_⟩
  rcases h.2 with hn | ⟨g, cap, cur, hv, hg, r⟩
  · exact .inl hn
  · exact .inr ⟨g, cap, cur, hv, Nat.le_trans hb hg, r⟩
theorem Owns.form {w : World} {base : Nat} {v : Value} {xs : List Int} (h : Owns w base v xs) (hn : 0 < xs.length) :
    ∃ g cap, v = .slice (some ⟨g, 0, none⟩) xs.length cap ∧ base ≤ g ∧ g < w.heap.size ∧ xs.length ≤ cap ∧ cap ≤ maxLen ∧ (∀ j, j < xs.length → w.cell? ⟨g, j, none⟩ = some (.int .u8 (xs.getD j 0))) := by
  obtain ⟨g, cap, rfl, hb, hg⟩ := World.ownsRow.form h hn
  refine ⟨g, cap, rfl, hb, hg, ?_, ?_, fun j hj => ?_⟩
  · rcases h.2 with ⟨h', _⟩ | ⟨g', cap', cur, h', _, _, hc, _⟩
    · simp at h'
    · simp only [Value.slice.injEq, Option.some.injEq, Addr.mk.injEq, and_true, true_and] at h'
      omega
  · rcases h.2 with ⟨h', _⟩ | ⟨g', cap', cur, h', _, _, _, hc, _⟩
    · simp at h'
    · simp only [Value.slice.injEq, Option.some.injEq, Addr.mk.injEq, and_true, true_and] at h'
      omega
  · have := World.ownsRow.cellAt h j (by omega)
    rw [this]
    simp [List.getD, hj]

/-- What stays owned. -/
theorem Owns.kept {w w' : World} {base : Nat} {v : Value} {xs : List Int} (h : Owns w base v xs) {B : Nat} (hb : Below B w w') (hv : ∀ g, v.ownBlock = some g → g < B) : Owns w' base v xs := by
  refine ⟨h.1, ?_⟩
  rcases h.2 with hn | ⟨g, cap, cur, rfl, hg, hh, r⟩
  · exact .inl hn
  · refine .inr ⟨g, cap, cur, rfl, hg, ?_, r⟩
    rw [hb.block g (hv g rfl)]; exact hh
theorem Owns.block {w : World} {base : Nat} {v : Value} {xs : List Int} (h : Owns w base v xs) : ∀ g, v.ownBlock = some g → base ≤ g ∧ g < w.heap.size := World.ownsRow.lt h

section
variable {ops : Array Oper} {rest : List Oper} {o : Oper} {a : Act} {Q : Exit → Act → World → Prop}

/-- 'v = append(v, c1, c2 ..)', v the call's own: the walk goes on with some value that owns more. -/
theorem app_new {W : World} (w0 : World) (cs : List Int) (hgd : o.guard = none) (s x : Operand)
    (ho : o.op = .call { callee := .builtin .append, args := #[s, x], argTypes := #[22, 22] }) (base : Nat) (v : Value) (xs : List Int) (hs : a.eval s = v) (hown : Owns w0 base v xs) (c : Nat)
    (hx : a.eval x = .slice (some ⟨w0.heap.size, 0, none⟩) cs.length c) (hlen : xs.length + cs.length ≤ 140737488355328) (hbase : base ≤ w0.heap.size) (hbel : Below base W w0)
    (h : ∀ v' w', Owns w' base v' (xs ++ cs) → Below base W w' → wpList Try.prog ops Q rest (a.put o.dst v') w') :
    wpList Try.prog ops Q (o :: rest) a (w0.alloc (.cells (cs.map (Value.int .u8)).toArray 5)) := by
  obtain ⟨i0, hi, hz0, hz1, hz2⟩ := info_parts info5
  have hown' : (w0.alloc (.cells (cs.map (Value.int .u8)).toArray 5)).ownsRow base 5 1 v xs.length (xs.map (Value.int .u8)) := World.ownsRow.alloc hown _
  refine wpList_append_own _ hgd s x 22 ho base 5 i0 (.int .u8 0) 1 1 Try.underlying22 hi hz0 hz1 hz2 rfl (by decide) v _ _ hs hown' ⟨w0.heap.size, 0, none⟩ cs.length c (cs.map (Value.int .u8)) hx (by simp)
    (World.news_of_block (heap_alloc_new w0 _)) (ints_oneCell _ _) (by unfold maxLen; omega) (by omega) (by simp; omega) ?_
  intro v' w' h1 h2 _
  refine h v' w' (by unfold Owns; simpa using h1) ?_
  refine (hbel.alloc hbase _).grown h2 (by simp; omega) (fun k hk => ?_)
  exact (World.ownsRow.lt hown k hk).1

/-- The same, of a string's bytes. -/
theorem app_str {W : World} (w0 : World) (b : ByteArray) (cs : List Int) (hcs : bs b = cs) (hgd : o.guard = none) (s x : Operand)
    (ho : o.op = .call { callee := .builtin .append, args := #[s, x], argTypes := #[22, 9] }) (base : Nat) (v : Value) (xs : List Int) (hs : a.eval s = v) (hown : Owns w0 base v xs)
    (hx : a.eval x = .string b) (hlen : xs.length + cs.length ≤ 140737488355328) (hbase : base ≤ w0.heap.size) (hbel : Below base W w0)
    (h : ∀ v' w', Owns w' base v' (xs ++ cs) → Below base W w' → wpList Try.prog ops Q rest (a.put o.dst v') w') :
    wpList Try.prog ops Q (o :: rest) a w0 := by
  obtain ⟨i0, hi, hz0, hz1, hz2⟩ := info_parts info5
  have hl : b.size = cs.length := by rw [← hcs, bs_len]
  have hc : Lib.strCells b = cs.map (Value.int .u8) := by rw [← hcs]; simp [Lib.strCells, bs]
  refine Lib.wpList_append_own_string _ hgd s x 22 9 ho base 5 i0 Try.underlying22 Try.underlying9 hi hz0 hz1 hz2 v _ _ hs hown b hx (by unfold maxLen; omega) (by omega) hbase ?_
  intro v' w' h1 h2 _
  refine h v' w' (by unfold Owns; rw [hc, hl] at h1; simpa using h1) ?_
  exact hbel.grown h2 hbase (fun k hk => (World.ownsRow.lt hown k hk).1)

/-- The first append: onto nil, or onto a slice without room. -/
theorem app_first (w0 : World) (cs : List Int) (hgd : o.guard = none) (s x : Operand)
    (ho : o.op = .call { callee := .builtin .append, args := #[s, x], argTypes := #[22, 22] }) (ao : Option Addr) (n : Nat) (xs : List Int) (hs : a.eval s = .slice ao n n) (hn : xs.length = n) (hnone : ao = none → n = 0)
    (hold : ∀ b, ao = some b → ∀ j, j < n → w0.cell? (b.add j) = some (.int .u8 (xs.getD j 0))) (c : Nat)
    (hx : a.eval x = .slice (some ⟨w0.heap.size, 0, none⟩) cs.length c) (h0 : 0 < cs.length) (hlen : xs.length + cs.length ≤ 140737488355328)
    (h : ∀ v' w', Owns w' w0.heap.size v' (xs ++ cs) → Below w0.heap.size w0 w' → wpList Try.prog ops Q rest (a.put o.dst v') w') :
    wpList Try.prog ops Q (o :: rest) a (w0.alloc (.cells (cs.map (Value.int .u8)).toArray 5)) := by
  obtain ⟨i0, hi, hz0, hz1, hz2⟩ := info_parts info5
  subst hn
  refine wpList_append_grows _ hgd s x 22 ho 5 i0 (.int .u8 0) 1 1 Try.underlying22 hi hz0 hz1 hz2 rfl (by decide) ao _ _ (xs.map (Value.int .u8)) hs (fun e => ⟨hnone e, hnone e⟩) (by simp) ?_ ⟨w0.heap.size, 0, none⟩ cs.length c (cs.map (Value.int .u8)) hx (by simp)
    (World.news_of_block (heap_alloc_new w0 _)) (ints_oneCell _ _) (by omega) (by unfold maxLen; omega) (by omega) ?_
  · intro b hb j u hj
    have hlt : j < xs.length := by
      have := (List.getElem?_eq_some_iff.1 hj).1
      simpa using this
    have hc := hold b hb j hlt
    rw [World.cell?_alloc_lt _ _ _ (World.block_lt_of_cell? _ _ hc)]
    rw [hc, ← hj]; simp [List.getD, hlt]
  · intro v' w' h1 h2
    have h1' : Owns w' (w0.alloc (.cells (cs.map (Value.int .u8)).toArray 5)).heap.size v' (xs ++ cs) := by unfold Owns; simpa using h1
    refine h v' w' (h1'.mono (by simp)) ?_
    exact ((Below.refl _ w0).alloc (Nat.le_refl _) _).grown h2 (by simp) (fun k hk => by cases hk)

/-- An append as one step of a region that draws its order. -/
theorem step_app {E : Prop} {K : Act → World → Prop} {W : World} (wx : World) (B : Nat) (cs : List Int) (hgd : o.guard = none) (s x : Operand)
    (ho : o.op = .call { callee := .builtin .append, args := #[s, x], argTypes := #[22, 22] }) (base : Nat) (v : Value) (xs : List Int) (hs : a.eval s = v) (hown : Owns wx base v xs) (c : Nat)
    (hx : a.eval x = .slice (some ⟨B, 0, none⟩) cs.length c) (hB : wx.heap[B]? = some (.cells (cs.map (Value.int .u8)).toArray 5)) (hlen : xs.length + cs.length ≤ 140737488355328) (hbase : base ≤ wx.heap.size) (hbel : Below base W wx)
    (h : ∀ v' w', Owns w' base v' (xs ++ cs) → Below base W w' → K (a.put o.dst v') w') :
    if Region.wanted o (yielded ops a.tmps) = true then Oper.wp Try.prog o a wx K Q else E := by
  obtain ⟨i0, hi, hz0, hz1, hz2⟩ := info_parts info5
  have hw : Region.wanted o (yielded ops a.tmps) = true := by simp [Region.wanted, hgd]
  rw [if_pos hw]
  refine wp_append_own _ s x 22 ho base 5 i0 (.int .u8 0) 1 1 Try.underlying22 hi hz0 hz1 hz2 rfl (by decide) v _ _ hs hown ⟨B, 0, none⟩ cs.length c (cs.map (Value.int .u8)) hx (by simp)
    (World.news_of_block hB) (ints_oneCell _ _) (by unfold maxLen; omega) (by omega) hbase ?_
  intro v' w' h1 h2 _
  refine h v' w' (by unfold Owns; simpa using h1) ?_
  exact hbel.grown h2 hbase (fun k hk => (World.ownsRow.lt hown k hk).1)
end

end Go.Proofs.Qxb6620857a.Wk
