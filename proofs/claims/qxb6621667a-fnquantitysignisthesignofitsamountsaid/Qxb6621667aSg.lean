import Derived.Test.Qxb6621667aRows
import Derived.WalkKit
import Derived.ProofKit
import Derived.OpenShut
import Derived.WalkSpells
import Derived.WalkLawsBesides
namespace Go.Proofs.Qxb6621667a.Wk
open Go.RowKit

theorem ret_int {k : IntKind} {a b : Int} (h : a = b) : Ending.returned (.int k a) = .returned (.int k b) := by rw [h]
/-- The Sign of a quantity. -/
def sg (m : Int) (r : Bool) : Int := if m < 0 ∨ (m = 0 ∧ r = true) then -1 else if 0 < m then 1 else 0
theorem sg_neg (m : Int) (r : Bool) (h : m < 0) : sg m r = -1 := by unfold sg; rw [if_pos (.inl h)]
theorem sg_pos (m : Int) (r : Bool) (h : 0 < m) : sg m r = 1 := by unfold sg; rw [if_neg (by omega), if_pos h]
theorem sg_le (m : Int) (r : Bool) : sg m r ≤ 1 := by unfold sg; split; omega; split <;> omega
theorem sg_zero : sg 0 false = 0 := by decide
theorem sg_round : sg 0 true = -1 := by decide

set_option maxHeartbeats 400000 in
theorem quantity_any (s : ByteArray) (m : Int) (r : Bool) (w : World) :
    Calls Try.prog 12 #[.string s, .int .i64 m, .bool r] w fun e w' => e = .returned (.agg #[.string s, .int .i64 m, .bool r]) ∧ Below w.heap.size w w' := by
  go_enter Try.func12, Try.ntmps12
  go_wp2
  exact bodyPost_ret (v := .agg #[.string s, .int .i64 m, .bool r]) (by simp [results, Try.results12, go_sem]) rfl ⟨rfl, (Below.refl _ _).alloc (Nat.le_refl _) _⟩

set_option maxHeartbeats 400000 in
theorem sign_any (s : ByteArray) (m : Int) (r : Bool) (w : World) :
    Calls Try.prog 13 #[.agg #[.string s, .int .i64 m, .bool r]] w fun e w' => e = .returned (.int .i64 (sg m r)) ∧ Below w.heap.size w w' := by
  go_enter Try.func13, Try.ntmps13
  go_wp2
  all_goals go_ret
  all_goals refine ⟨ret_int ?_, (Below.refl _ _).alloc (Nat.le_refl _) _⟩
  all_goals unfold sg
  all_goals simp_all
  all_goals omega

end Go.Proofs.Qxb6621667a.Wk
