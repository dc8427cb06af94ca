import Derived.Test.Qxb6619356aRows
import Derived.Test.Qxb6619356aPlain
import Derived.WalkKit
import Derived.ProofKit
import Derived.WalkSpells
import Derived.WalkLawsBesides
import Derived.WalkSmall
import Derived.OpenShut
import Derived.Deep.AppendLies
import Derived.Deep.QuietTactic
import Derived.BigQuiet
import Derived.Laws.BytesArg
import Derived.Laws.CopyOwn
namespace Go.Proofs.Qxb6619356a.Wk
open Go.RowKit Go.WideShapes

/-- A string's bytes as numbers. -/
def bs (s : ByteArray) : List Int := s.data.toList.map fun b => (b.toNat : Int)
theorem bs_len (s : ByteArray) : (bs s).length = s.size := by simp [bs]
theorem bs_get (s : ByteArray) (k : Nat) (h : k < s.size) : (bs s).getD k 0 = (s[k].toNat : Int) := by
  have h' : k < s.data.toList.length := by simpa using h
  simp only [bs, List.getD_eq_getElem?_getD, List.getElem?_map, List.getElem?_eq_getElem h', Option.map_some, Option.getD_some]
  rfl

theorem bs_nums (xs : List Int) (h : ∀ n ∈ xs, 0 ≤ n ∧ n ≤ 255) : bs (strOfNums xs) = xs := by
  simp only [bs, strOfNums, List.map_map]
  conv => rhs; rw [← List.map_id xs]
  refine List.map_congr_left fun n hn => ?_
  have := h n hn
  simp only [Function.comp, id, UInt8.toNat_ofNat']
  omega

theorem info5 : (Try.prog.info? 5).map (fun i => (i.zero, i.size, i.bytes)) = some (some (.int .u8 0), 1, 1) := by kernel_rfl

/-- v owns the bytes xs, among the blocks from 'base' on. -/
def Owns (w : World) (base : Nat) (v : Value) (xs : List Int) : Prop := w.ownsRow base 5 1 v xs.length (xs.map (Value.int .u8))

theorem Owns.mono {w : World} {base base' : Nat} {v : Value} {xs : List Int} (h : Owns w base v xs) (hb : base' ≤ base) : Owns w base' v xs := by
  refine ⟨h.1, ?_⟩
  rcases h.2 with hn | ⟨g, cap, cur, hv, hg, r⟩
  · exact .inl hn
  · exact .inr ⟨g, cap, cur, hv, Nat.le_trans hb hg, r⟩
theorem Owns.form {w : World} {base : Nat} {v : Value} {xs : List Int} (h : Owns w base v xs) (hn : 0 < xs.length) :
    ∃ g cap, v = .slice (some ⟨g, 0, none⟩) xs.length cap ∧ base ≤ g ∧ g < w.heap.size ∧ xs.length ≤ cap ∧ cap ≤ maxLen ∧ (∀ j, j < xs.length → w.cell? ⟨g, j, none⟩ = some (.int .u8 (xs.getD j 0))) := by
  obtain ⟨g, cap, rfl, hb, hg⟩ := World.ownsRow.form h hn
  refine ⟨g, cap, rfl, hb, hg, ?_, ?_, fun j hj => ?_⟩
  · rcases h.2 with ⟨h', _⟩ | ⟨g', cap', cur, h', _, _, hc, _⟩
    · simp at h'
    · simp only [Value.slice.injEq, Option.some.injEq, Addr.mk.injEq, and_true, true_and] at h'
      omega
  · rcases h.2 with ⟨h', _⟩ | ⟨g', cap', cur, h', _, _, _, hc, _⟩
    · simp at h'
    · simp only [Value.slice.injEq, Option.some.injEq, Addr.mk.injEq, and_true, true_and] at h'
      omega
  · have := World.ownsRow.cellAt h j (by omega)
    rw [this]
    simp [List.getD, hj]

/-- What stays owned. -/
theorem Owns.kept {w w' : World} {base : Nat} {v : Value} {xs : List Int} (h : Owns w base v xs) {B : Nat} (hb : Below B w w') (hv : ∀ g, v.ownBlock = some g → g < B) : Owns w' base v xs := by
  refine ⟨h.1, ?_⟩
  rcases h.2 with hn | ⟨g, cap, cur, rfl, hg, hh, r⟩
  · exact .inl hn
  · refine .inr ⟨g, cap, cur, rfl, hg, ?_, r⟩
    rw [hb.block g (hv g rfl)]; exact hh
theorem Owns.block {w : World} {base : Nat} {v : Value} {xs : List Int} (h : Owns w base v xs) : ∀ g, v.ownBlock = some g → base ≤ g ∧ g < w.heap.size := World.ownsRow.lt h

section
variable {ops : Array Oper} {rest : List Oper} {o : Oper} {a : Act} {Q : Exit → Act → World → Prop}

/-- 'v = append(v, c1, c2 ..)', v the call's own: the walk goes on with some value that owns more. -/
theorem app_new {W : World} (w0 : World) (cs : List Int) (hgd : o.guard = none) (s x : Operand)
    (ho : o.op = .call { callee := .builtin .append, args := #[s, x], argTypes := #[22, 22] }) (base : Nat) (v : Value) (xs : List Int) (hs : a.eval s = v) (hown : Owns w0 base v xs) (c : Nat)
    (hx : a.eval x = .slice (some ⟨w0.heap.size, 0, none⟩) cs.length c) (hlen : xs.length + cs.length ≤ 140737488355328) (hbase : base ≤ w0.heap.size) (hbel : Below base W w0)
    (h : ∀ v' w', Owns w' base v' (xs ++ cs) → Below base W w' → wpList Try.prog ops Q rest (a.put o.dst v') w') :
    wpList Try.prog ops Q (o :: rest) a (w0.alloc (.cells (cs.map (Value.int .u8)).toArray 5)) := by
  obtain ⟨i0, hi, hz0, hz1, hz2⟩ := info_parts info5
  have hown' : (w0.alloc (.cells (cs.map (Value.int .u8)).toArray 5)).ownsRow base 5 1 v xs.length (xs.map (Value.int .u8)) := World.ownsRow.alloc hown _
  refine wpList_append_own _ hgd s x 22 ho base 5 i0 (.int .u8 0) 1 1 Try.underlying22 hi hz0 hz1 hz2 rfl (by decide) v _ _ hs hown' ⟨w0.heap.size, 0, none⟩ cs.length c (cs.map (Value.int .u8)) hx (by simp)
    (World.news_of_block (heap_alloc_new w0 _)) (ints_oneCell _ _) (by unfold maxLen; omega) (by omega) (by simp; omega) ?_
  intro v' w' h1 h2 _
  refine h v' w' (by unfold Owns; simpa using h1) ?_
  refine (hbel.alloc hbase _).grown h2 (by simp; omega) (fun k hk => ?_)
  exact (World.ownsRow.lt hown k hk).1

end

/-- The slice (ao, n) reads the bytes xs in w. -/
def Rd (w : World) (ao : Option Addr) (n : Nat) (xs : List Int) : Prop :=
  xs.length = n ∧ (ao = none → n = 0) ∧ ∀ b, ao = some b → ∀ j, j < n → w.cell? (b.add j) = some (.int .u8 (xs.getD j 0))

theorem Rd.later {w w' : World} {ao : Option Addr} {n : Nat} {xs : List Int} (h : Rd w ao n xs) (hb : Below w.heap.size w w') : Rd w' ao n xs :=
  ⟨h.1, h.2.1, fun b hb' j hj => cell_later hb (h.2.2 b hb' j hj)⟩
theorem Rd.len {w : World} {ao : Option Addr} {n : Nat} {xs : List Int} (h : Rd w ao n xs) : xs.length = n := h.1
theorem Rd.nil (w : World) : Rd w none 0 [] := ⟨rfl, fun _ => rfl, fun b hb => by cases hb⟩
/-- Where there is an element the address is plain. -/
theorem Rd.at {w : World} {ao : Option Addr} {n : Nat} {xs : List Int} (h : Rd w ao n xs) (hn : 0 < n) :
    ∃ b o, ao = some ⟨b, o, none⟩ ∧ b < w.heap.size ∧ ∀ j, j < n → w.cell? ⟨b, o + j, none⟩ = some (.int .u8 (xs.getD j 0)) := by
  cases ao with
  | none => have := h.2.1 rfl; omega
  | some x =>
    obtain ⟨b, o, sp⟩ := x
    have h0 := h.2.2 _ rfl 0 hn
    have hsp := World.cell?_spot h0
    have hsp' : sp = none := by simpa [Addr.add] using hsp
    subst hsp'
    have hb := World.block_lt_of_cell? _ _ h0
    rw [add_plain] at hb
    exact ⟨b, o, rfl, hb, fun j hj => by rw [← add_plain]; exact h.2.2 _ rfl j hj⟩
theorem none_absurd {x : Addr} {p : Prop} (e : some x = none) : p := by cases e
theorem Rd.mk' {w : World} {b o n : Nat} {xs : List Int} (hl : xs.length = n) (h : ∀ j, j < n → w.cell? ⟨b, o + j, none⟩ = some (.int .u8 (xs.getD j 0))) : Rd w (some ⟨b, o, none⟩) n xs :=
  And.intro hl (And.intro (fun e => none_absurd e) (fun b' hb j hj => by
    obtain rfl := Option.some.inj hb
    rw [add_plain]; exact h j hj))
theorem Rd.zero {w : World} (ao : Option Addr) : Rd w ao 0 [] := ⟨rfl, fun _ => rfl, fun _ _ j hj => by omega⟩
theorem Owns.rd {w : World} {base g n cap : Nat} {xs : List Int} (h : Owns w base (.slice (some ⟨g, 0, none⟩) n cap) xs) (hn : xs.length = n) : Rd w (some ⟨g, 0, none⟩) n xs := by
  refine Rd.mk' hn fun j hj => ?_
  subst hn
  have := World.ownsRow.cellAt h j (by omega)
  rw [Nat.zero_add, this]
  simp [List.getD, hj]

theorem zeros_own {w : World} {base g n : Nat} (h : w.ownsRow base 5 1 (.slice (some ⟨g, 0, none⟩) n n) n (madeCells (Value.int .u8 0).cells (n * 1)).toList) :
    Owns w base (.slice (some ⟨g, 0, none⟩) n n) (List.replicate n 0) := by
  have e : (madeCells (Value.int .u8 0).cells (n * 1)).toList = (List.replicate n (0 : Int)).map (Value.int .u8) := by
    rw [show (Value.int IntKind.u8 0).cells = #[Value.int .u8 0] from rfl, toList_madeCells_one]; simp
  rw [e] at h
  unfold Owns
  rw [List.length_replicate]
  exact h

theorem Owns.stored {w : World} {base g n cap : Nat} {xs : List Int} (h : Owns w base (.slice (some ⟨g, 0, none⟩) n cap) xs) (hn : xs.length = n) (j : Nat) (c : Int) :
    Owns (w.setCell ⟨g, j, none⟩ (.int .u8 c)) base (.slice (some ⟨g, 0, none⟩) n cap) (xs.set j c) := by
  subst hn
  have := (World.ownsRow.stored h j (.int .u8 c)).1
  unfold Owns
  rw [List.length_set, List.map_set]
  exact this

set_option maxHeartbeats 1000000 in
/-- sameBytes of two slices that read the same. -/
theorem same_yes0 (ao bo : Option Addr) (n c d : Nat) (xs : List Int) (w : World) (ha : Rd w ao n xs) (hb : Rd w bo n xs) (hn : n ≤ 16777216) :
    Calls Try.prog 6 #[.slice ao n c, .slice bo n d] w fun e w' => e = .returned (.bool true) ∧ Below w.heap.size w w' := by
  go_enter Try.func6, Try.ntmps6
  go_wp2
  go_loopw [5] (fun i wr => ∃ k : Nat, k ≤ n ∧ i = .int .i64 k ∧ Below w.heap.size w wr) (fun i _ => n - (intOf i).toNat)
  case atStart => exact ⟨0, Nat.zero_le _, rfl, Below.refl _ _⟩
  case round =>
    obtain ⟨k, hk, rfl, hbel⟩ := hrel
    have HB : Hid (Below w.heap.size w wr) := hbel
    clear hbel
    by_cases hlt : k < n
    · obtain ⟨b1, o1, e1, _, hc1⟩ := ha.at (by omega)
      obtain ⟨b2, o2, e2, _, hc2⟩ := hb.at (by omega)
      subst e1 e2
      obtain ⟨z, hz⟩ : ∃ z, xs.getD k 0 = z := ⟨_, rfl⟩
      have g1 : wr.cell? ⟨b1, o1 + k, none⟩ = some (.int .u8 z) := by rw [← hz]; exact cell_later HB.out (hc1 k hlt)
      have g2 : wr.cell? ⟨b2, o2 + k, none⟩ = some (.int .u8 z) := by rw [← hz]; exact cell_later HB.out (hc2 k hlt)
      have hlt' : (k : Int) < (n : Int) := by omega
      have hk0 : (0 : Int) ≤ (k : Int) := by omega
      clear hz hc1 hc2
      go_wp2
      go_quiet (fail)
      go_wp2
      go_roundw
      case rel => exact ⟨k + 1, by omega, by go_num, below_drewN HB.out _⟩
      case measure => simp [intOf]; omega
    · go_wp2
      go_ret
      exact ⟨rfl, HB.out⟩

theorem same_yes (ao bo : Option Addr) (n m c d : Nat) (xs : List Int) (w : World) (ha : Rd w ao n xs) (hb : Rd w bo m xs) (hn : n ≤ 16777216) :
    Calls Try.prog 6 #[.slice ao n c, .slice bo m d] w fun e w' => e = .returned (.bool true) ∧ Below w.heap.size w w' := by
  obtain rfl : n = m := ha.1.symm.trans hb.1
  exact same_yes0 ao bo n c d xs w ha hb hn

/-- What owns is a slice that reads. -/
theorem owns_slice {w : World} {base : Nat} {v : Value} {xs : List Int} (h : Owns w base v xs) : ∃ ao c, v = .slice ao xs.length c ∧ Rd w ao xs.length xs ∧ (ao = none → c = 0) := by
  rcases h.2 with ⟨rfl, hn⟩ | ⟨g, cap, cur, rfl, _⟩
  · have : xs = [] := List.eq_nil_of_length_eq_zero hn
    subst this
    exact ⟨none, 0, rfl, Rd.nil w, fun _ => rfl⟩
  · exact ⟨_, cap, rfl, Owns.rd h rfl, fun e => none_absurd e⟩
/-- string(b). -/
theorem conv_rd (w : World) (ao : Option Addr) (n cap : Nat) (xs : List Int) (h : Rd w ao n xs) :
    Sem.run Try.prog (convert 22 9 (.slice ao n cap)) w = .ok (.string (strOfNums xs)) w := by
  cases ao with
  | none =>
    obtain rfl := h.2.1 rfl
    have : xs = [] := List.eq_nil_of_length_eq_zero h.1
    subst this
    have := run_convert_bytes_nil (P := Try.prog) w 22 5 Try.underlying22 Try.underlying5 0 cap 9 Try.underlying9
    exact this
  | some x =>
    by_cases hn : 0 < n
    · obtain ⟨b, o, e, _, hc⟩ := h.at hn
      obtain rfl := Option.some.inj e
      exact run_convert_bytes_arg w 22 5 Try.underlying22 Try.underlying5 b o n cap xs h.1 hc 9 Try.underlying9
    · obtain rfl : n = 0 := by omega
      have : xs = [] := List.eq_nil_of_length_eq_zero h.1
      subst this
      rw [run_convert_bytes_string w 22 9 5 (some x) 0 cap Try.underlying22 Try.underlying5 Try.underlying9]
      rw [run_bytesToString w x 0 cap [] (by simp [loadCells, loadCellsFrom])]
      rfl
theorem step {w a b : World} (h : Below w.heap.size w a) (k : Below a.heap.size a b) : Below w.heap.size w b := h.trans (k.mono h.size)

end Go.Proofs.Qxb6619356a.Wk
