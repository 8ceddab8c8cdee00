/- What the pieces of FnQuery's walk share. -/
import Derived.Test.YtgifkanoghmijaaGreatDoorOut
import Derived.Deep.DeepCutAuto
import Derived.Deep.RegionHeld2
import Derived.Deep.QuietTactic
import Derived.BigQuiet
namespace Go.Proofs.YtgifkanoghmijaaGreatDoor
open Go.RowKit

/-- What the guards of the law let in. -/
def LetIn (h0 h1 h2 h3 h4 h5 h11 h12 s1 n1 s4 n4 T : Int) : Prop :=
  AnswerP h0 h1 h2 h3 h4 h5 h11 h12 ∧ T ≠ 0 ∧ RecentP s1 n1 ∧ RecentP s4 n4 ∧ CurrentP h11 ∧ CurrentP h12 ∧ (-20 ≤ h4 ∧ h4 ≤ 20) ∧ (-20 ≤ h5 ∧ h5 ≤ 20)

/-- A row stored into a new block. -/
theorem store_new (w : World) (g : Nat) (cs : Array Value) (hg : w.heap[g]? = some (.cells #[.int .i64 0, .int .i64 0, .int .i64 0, .int .i64 0, .int .i64 0, .int .i64 0, .int .i64 0, .int .i64 0, .int .i64 0, .int .i64 0, .int .i64 0, .int .i64 0, .int .u32 0, .int .i64 0, .int .i64 0, .int .i64 0, .int .i64 0, .string ⟨#[]⟩, .bool false] 37 (0, 0))) (hs : cs.size = 19) (h1 : cs.all (·.oneCell') = true) :
    (storeCells ⟨g, 0, none⟩ cs.toList).run Tryz.prog w = .ok () (w.setRow g cs) := by
  have h := run_storeCells_from (P := Tryz.prog) g 37 cs.toList 0 #[.int .i64 0, .int .i64 0, .int .i64 0, .int .i64 0, .int .i64 0, .int .i64 0, .int .i64 0, .int .i64 0, .int .i64 0, .int .i64 0, .int .i64 0, .int .i64 0, .int .u32 0, .int .i64 0, .int .i64 0, .int .i64 0, .int .i64 0, .string ⟨#[]⟩, .bool false] w hg (by simp [hs]) (fun v hv => (Array.all_eq_true_iff_forall_mem.1 h1) v (by simpa using hv))
  simpa [hs] using h

set_option maxHeartbeats 1000000 in
theorem specEra_x (n : Int) (h0 : 0 ≤ n) (h1 : n < 18446744073709551616) (w : World) :
    Calls Tryz.prog 13 #[.int .u64 n, .int .i64 0] w fun e w' => e = .returned (.agg #[.int .i64 (sB n), .int .i64 (nB n)]) ∧ w.alloc (.cells #[.int .i64 (sB n), .int .i64 (nB n)] 30) = w' := by
  have hs : IntKind.u32.wrap n = n % 4294967296 := by simp [IntKind.wrap, IntKind.bits, IntKind.signed]
  have f0 : 0 ≤ fracN (n % 4294967296) := by unfold fracN; omega
  have f1 : fracN (n % 4294967296) < 1000000000 := by unfold fracN; omega
  unfold sB nB
  go_enter Tryz.func13, Tryz.ntmps13
  go_wp2_with (first | (go_at_call 32; (try rw [hs]); refine (fraction_any _ (by omega) (by omega) _).mono ?_; rintro e w9 ⟨rfl, rfl⟩))
  go_returns
  exact ⟨rfl, rfl⟩

/-- The region of a number, out of a function's code. -/
def findRegion (n : Nat) : Code → Option Code
  | .region id ops d => if id = n then some (.region id ops d) else none
  | .seq a b => match findRegion n a with
    | some c => some c
    | none => findRegion n b
  | .cond _ a b => match findRegion n a with
    | some c => some c
    | none => findRegion n b
  | .block _ c => findRegion n c
  | .loop c => findRegion n c
  | .scope c => findRegion n c
  | _ => none
noncomputable def reg (n : Nat) : Code := (Tryz.f3.body.bind (findRegion n)).getD .skip

end Go.Proofs.YtgifkanoghmijaaGreatDoor
