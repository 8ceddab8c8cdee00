/- An answer is a row of nineteen cells; a row stored into a new block leaves the old ones; a time of the laws. -/
import Derived.Test.YtgifkanoghmijaaGreatDoorQry
namespace Go.Proofs.YtgifkanoghmijaaGreatDoor
open Go.RowKit

theorem alloc_row_below (w : World) (o : Obj) (cs : Array Value) : Below w.heap.size w ((w.alloc o).setRow w.heap.size cs) := below_setRow ((Below.refl _ _).alloc (Nat.le_refl _) o) (Nat.le_refl _) cs

theorem ans_row {n1 s1 n4 s4 x0 x1 x2 x3 x4 x5 x6 x7 x8 x9 x10 : Int} {a : Value} (h : AnsV n1 s1 n4 s4 x0 x1 x2 x3 x4 x5 x6 x7 x8 x9 x10 a) : ∃ cs : Array Value, a = .agg cs ∧ Hid (cs.size = 19 ∧ cs.all (·.oneCell') = true) := by
  obtain ⟨n2, s2, n3, s3, n5, s5, d, t, -, -, -, rfl⟩ := h
  exact ⟨_, rfl, hidI ⟨rfl, by simp [Value.oneCell']⟩⟩

set_option maxHeartbeats 1000000 in
theorem moment_x (s n : Int) (w : World) : Calls Tryz.prog 6 #[.agg #[.int .i64 s, .int .i64 n]] w fun e w' => e = .returned (.agg #[.int .i64 s, .int .i64 n]) ∧ (w.alloc (.cells #[.int .i64 s, .int .i64 n] 27)).alloc (.cells #[.int .i64 s, .int .i64 n] 30) = w' := by
  go_enter Tryz.func6, Tryz.ntmps6
  go_wp2
  go_returns
  exact ⟨rfl, rfl⟩

end Go.Proofs.YtgifkanoghmijaaGreatDoor
