/- The small functions of the laws and of the reference that both laws call. -/
import Derived.Test.YtgifkanoghmijaaGreatDoorSub
import Derived.Test.YtgifkanoghmijaaGreatDoorNum
import Derived.Deep.RegionHeld2
import Derived.Deep.QuietTactic
import Derived.BigQuiet
namespace Go.Proofs.YtgifkanoghmijaaGreatDoor
open Go.RowKit

set_option maxHeartbeats 1000000 in
theorem within1_any (a b x : Int) (g : Nat) (h0 : a ≤ x) (h1 : x ≤ b) (w : World) (hc : w.cell? ⟨g, 0, none⟩ = some (.int .i64 x)) :
    Calls Tryz.prog 36 #[.int .i64 a, .int .i64 b, .slice (some ⟨g, 0, none⟩) 1 1] w fun e w' => e = .returned (.bool true) ∧ w = w' := by
  go_enter Tryz.func36, Tryz.ntmps36
  go_wp2_with fail
  go_rounds 2
  go_ret
  exact ⟨rfl, rfl⟩

set_option maxHeartbeats 1000000 in
theorem works_any (w : World) : Calls Tryz.prog 10 #[] w fun e w' => e = .returned (.bool true) ∧ Below w.heap.size w w' := by
  have hi : ivl 0 = 1000000000 := by decide +kernel
  go_enter Tryz.func10, Tryz.ntmps10
  go_wp2_with (first | (go_at_call 25; go_in) | (go_at_call 36; refine (within1_any (-128) 127 0 w.heap.size (by decide) (by decide) _ (by simp [go_sem])).mono ?_; rintro e w9 ⟨rfl, rfl⟩) | (go_at_call 37; go_in) | (go_at_call 52; refine (toInterval_any 0 (by decide) (by decide) _).mono ?_; rintro e w9 ⟨rfl, rfl⟩))
  go_ret
  exact ⟨rfl, by go_grown⟩

def HV (h0 h1 h2 h3 h4 h5 h6 h7 h8 h9 h10 h11 h12 : Int) : Value := .agg #[.int .i64 h0, .int .i64 h1, .int .i64 h2, .int .i64 h3, .int .i64 h4, .int .i64 h5, .int .u32 h6, .int .u32 h7, .int .u32 h8, .int .u64 h9, .int .u64 h10, .int .u64 h11, .int .u64 h12]

set_option maxRecDepth 100000 in
set_option maxHeartbeats 1000000 in
theorem header_any (h0 h1 h2 h3 h4 h5 h6 h7 h8 h9 h10 h11 h12 : Int) (w : World) : Calls Tryz.prog 5 #[HV h0 h1 h2 h3 h4 h5 h6 h7 h8 h9 h10 h11 h12] w fun e w' => e = .returned (HV h0 h1 h2 h3 h4 h5 h6 h7 h8 h9 h10 h11 h12) ∧ Below w.heap.size w w' := by
  unfold HV
  go_enter Tryz.func5, Tryz.ntmps5
  go_wp2
  go_returns
  exact ⟨rfl, by go_grown⟩

set_option maxHeartbeats 1000000 in
theorem moment_any (s n : Int) (w : World) : Calls Tryz.prog 6 #[.agg #[.int .i64 s, .int .i64 n]] w fun e w' => e = .returned (.agg #[.int .i64 s, .int .i64 n]) ∧ Below w.heap.size w w' := by
  go_enter Tryz.func6, Tryz.ntmps6
  go_wp2
  go_returns
  exact ⟨rfl, by go_grown⟩

/-- A bool that says P where it is true. -/
def Says (P : Prop) (w : World) (e : Ending) (w' : World) : Prop := ∃ b : Bool, e = .returned (.bool b) ∧ Below w.heap.size w w' ∧ (b = true → P)

def ProperP (h0 h1 h2 h3 h4 h5 : Int) : Prop := 0 ≤ h0 ∧ h0 ≤ 3 ∧ (h1 = 3 ∨ h1 = 4) ∧ 0 ≤ h2 ∧ h2 ≤ 7 ∧ 0 ≤ h3 ∧ h3 ≤ 255 ∧ -128 ≤ h4 ∧ h4 ≤ 127 ∧ -128 ≤ h5 ∧ h5 ≤ 127
def RecentP (s n : Int) : Prop := 631152000 < s ∧ s < 1893456000 ∧ 0 ≤ n ∧ n < 1000000000
def AnswerP (h0 h1 h2 h3 h4 h5 h11 h12 : Int) : Prop := ProperP h0 h1 h2 h3 h4 h5 ∧ h2 = 4 ∧ h12 ≠ 0 ∧ h11 ≤ h12
def CurrentP (x : Int) : Prop := 2840140800 < x / 4294967296 ∧ x / 4294967296 < 4102444800

set_option maxRecDepth 100000 in
set_option maxHeartbeats 2000000 in
theorem proper_any (h0 h1 h2 h3 h4 h5 h6 h7 h8 h9 h10 h11 h12 : Int) (w : World) : Calls Tryz.prog 23 #[HV h0 h1 h2 h3 h4 h5 h6 h7 h8 h9 h10 h11 h12] w (Says (ProperP h0 h1 h2 h3 h4 h5) w) := by
  unfold HV
  go_enter Tryz.func23, Tryz.ntmps23
  go_wp2
  all_goals go_ret
  all_goals (refine ⟨_, rfl, by go_grown, fun h => ?_⟩; unfold ProperP; simp at h; try omega)

set_option maxHeartbeats 1000000 in
theorem recent_any (s n : Int) (w : World) : Calls Tryz.prog 8 #[.agg #[.int .i64 s, .int .i64 n]] w (Says (RecentP s n) w) := by
  go_enter Tryz.func8, Tryz.ntmps8
  go_wp2
  all_goals go_ret
  all_goals (refine ⟨_, rfl, by go_grown, fun h => ?_⟩; unfold RecentP; simp at h; try omega)

set_option maxRecDepth 100000 in
set_option maxHeartbeats 2000000 in
theorem answer_any (h0 h1 h2 h3 h4 h5 h6 h7 h8 h9 h10 h11 h12 : Int) (w : World) : Calls Tryz.prog 7 #[HV h0 h1 h2 h3 h4 h5 h6 h7 h8 h9 h10 h11 h12] w (Says (AnswerP h0 h1 h2 h3 h4 h5 h11 h12) w) := by
  have hp := fun w => proper_any h0 h1 h2 h3 h4 h5 h6 h7 h8 h9 h10 h11 h12 w
  unfold HV at hp ⊢
  have HP := hidI hp
  clear hp
  go_enter Tryz.func7, Tryz.ntmps7
  go_wp2_with fail
  refine (HP.out _).mono ?_
  rintro e w1 ⟨b, rfl, hb, hP⟩
  have k2 : w1.cell? ⟨w.heap.size, 2, none⟩ = some (.int .i64 h2) := cell_later hb (by simp [go_sem])
  have k11 : w1.cell? ⟨w.heap.size, 11, none⟩ = some (.int .u64 h11) := cell_later hb (by simp [go_sem])
  have k12 : w1.cell? ⟨w.heap.size, 12, none⟩ = some (.int .u64 h12) := cell_later hb (by simp [go_sem])
  have hB : Below w.heap.size w w1 := keepBelow (by go_grown) hb
  clear hb
  cases b
  · clear hP
    go_wp2_with fail
    go_ret
    exact ⟨_, rfl, hB, fun h => by simp at h⟩
  · have HQ := hidI (hP rfl)
    clear hP
    go_wp2_with fail
    all_goals go_ret
    all_goals (refine ⟨_, rfl, hB, fun h => ?_⟩; have := HQ.out; unfold AnswerP; simp at h; try (refine ⟨this, ?_, ?_, ?_⟩ <;> omega))

set_option maxRecDepth 100000 in
set_option maxHeartbeats 2000000 in
theorem current_any (x : Int) (x0 : 0 ≤ x) (x1 : x < 18446744073709551616) (w : World) : Calls Tryz.prog 9 #[.int .u64 x] w (Says (CurrentP x) w) := by
  go_enter Tryz.func9, Tryz.ntmps9
  go_wp2
  all_goals go_ret
  all_goals (refine ⟨_, rfl, by go_grown, fun h => ?_⟩; unfold CurrentP; simp at h; try omega)

end Go.Proofs.YtgifkanoghmijaaGreatDoor
