/- The number of an error: nothing for none, another number for each error of the package. -/
import Derived.Test.YtgifkanoghmijaaGreatDoorNum
namespace Go.Proofs.YtgifkanoghmijaaGreatDoor
open Go.RowKit

set_option maxHeartbeats 400000 in
theorem dataError_any (s : ByteArray) (w : World) :
    Calls Tryz.prog 46 #[.string s] w fun e w' => e = .returned (.string s) ∧ w = w' := by
  go_enter Tryz.func46, Tryz.ntmps46
  go_wp2
  go_ret
  exact ⟨rfl, rfl⟩

set_option maxHeartbeats 400000 in
theorem code_nil (w : World) :
    Calls Tryz.prog 34 #[.nilIface] w fun e w' => e = .returned (.int .i64 0) ∧ w = w' := by
  go_enter Tryz.func34, Tryz.ntmps34
  go_wp2
  go_ret
  exact ⟨rfl, rfl⟩

/-- Sixteen texts stand in a block. -/
def Texts (g : Nat) (w : World) : Prop := ∀ i, i < 16 → ∃ s : ByteArray, w.cell? ⟨g, i, none⟩ = some (.string s)

set_option maxRecDepth 100000 in
set_option maxHeartbeats 1000000 in
theorem faults_any (w : World) :
    Calls Tryz.prog 45 #[] w fun e w' => ∃ g : Nat, e = .returned (.slice (some ⟨g, 0, none⟩) 16 16) ∧ Below w.heap.size w w' ∧ Texts g w' := by
  go_enter Tryz.func45, Tryz.ntmps45
  go_wp2_with fail
  go_ret
  refine ⟨w.heap.size, rfl, by go_grown, fun i hi => ?_⟩
  rw [World.cell?_alloc_new]
  match i, hi with
  | 0, _ => exact ⟨_, rfl⟩
  | 1, _ => exact ⟨_, rfl⟩
  | 2, _ => exact ⟨_, rfl⟩
  | 3, _ => exact ⟨_, rfl⟩
  | 4, _ => exact ⟨_, rfl⟩
  | 5, _ => exact ⟨_, rfl⟩
  | 6, _ => exact ⟨_, rfl⟩
  | 7, _ => exact ⟨_, rfl⟩
  | 8, _ => exact ⟨_, rfl⟩
  | 9, _ => exact ⟨_, rfl⟩
  | 10, _ => exact ⟨_, rfl⟩
  | 11, _ => exact ⟨_, rfl⟩
  | 12, _ => exact ⟨_, rfl⟩
  | 13, _ => exact ⟨_, rfl⟩
  | 14, _ => exact ⟨_, rfl⟩
  | 15, _ => exact ⟨_, rfl⟩
  | n + 16, h => omega

/-- A number that is not zero. -/
def Faulty (w : World) (e : Ending) (w' : World) : Prop := ∃ n : Int, e = .returned (.int .i64 n) ∧ n ≠ 0 ∧ Below w.heap.size w w'

set_option maxRecDepth 100000 in
set_option maxHeartbeats 1000000 in
theorem code_data (s : ByteArray) (w : World) :
    Calls Tryz.prog 34 #[.iface 100 (.string s)] w (Faulty w) := by
  go_enter Tryz.func34, Tryz.ntmps34
  go_wp2_with (first | (go_at_call 45; refine (faults_any _).mono ?_; rintro e w1 ⟨g, rfl, hb, ht⟩))
  have HT := hidI ht
  clear ht
  go_loop [9] (fun i => ∃ k : Nat, k ≤ 16 ∧ i = .int .i64 k) (fun i => 16 - (intOf i).toNat)
  case atStart => exact ⟨0, by omega, rfl⟩
  case round =>
    obtain ⟨k, hk, rfl⟩ := hrel
    by_cases hlt : k < 16
    · obtain ⟨t, ht⟩ := HT.out k hlt
      go_wp2_with (first | (go_at_call 46; refine (dataError_any _ _).mono ?_; rintro e w9 ⟨rfl, rfl⟩))
      · go_ret
        exact ⟨_, rfl, by omega, by go_grown⟩
      · go_round
        case rel => exact ⟨k + 1, by omega, by go_num⟩
        case measure => simp [intOf]; omega
    · obtain rfl : k = 16 := by omega
      go_wp2_with fail
      go_ret
      exact ⟨_, rfl, by decide, by go_grown⟩

end Go.Proofs.YtgifkanoghmijaaGreatDoor
