/- The contract of kissCode: it returns a text. -/
import Derived.Test.YtgifkanoghmijaaGreatDoorSub
import Derived.Test.YtgifkanoghmijaaGreatDoorNum
namespace Go.Proofs.YtgifkanoghmijaaGreatDoor
open Go.RowKit

/-- A text comes back; old memory is as it was. -/
def SomeText (w : World) (e : Ending) (w' : World) : Prop := ∃ s : ByteArray, e = .returned (.string s) ∧ Below w.heap.size w w'

def prn (c : Int) : Bool := decide (32 ≤ c ∧ c ≤ 126)

set_option maxRecDepth 100000 in
set_option maxHeartbeats 400000 in
theorem printable_any (c : Int) (w : World) :
    Calls Tryz.prog 96 #[.int .u8 c] w fun e w' => e = .returned (.bool (prn c)) ∧ w = w' := by
  by_cases ha : 32 ≤ c
  · by_cases hb : c ≤ 126
    · have hE : Hid (prn c = true) := hidI (decide_eq_true ⟨ha, hb⟩)
      go_enter Tryz.func96, Tryz.ntmps96
      go_wp2
      go_ret
      exact ⟨retB hE.out, rfl⟩
    · have hE : Hid (prn c = false) := hidI (decide_eq_false fun h => hb h.2)
      go_enter Tryz.func96, Tryz.ntmps96
      go_wp2
      go_ret
      exact ⟨retB hE.out, rfl⟩
  · have hE : Hid (prn c = false) := hidI (decide_eq_false fun h => ha h.1)
    go_enter Tryz.func96, Tryz.ntmps96
    go_wp2
    go_ret
    exact ⟨retB hE.out, rfl⟩

theorem idx4 (a b c d : Int) (k : Nat) (hk : k < 4) :
    ∃ x : Int, ∀ w : World, (Instr.index 163 (.agg #[.int .u8 a, .int .u8 b, .int .u8 c, .int .u8 d]) (.int .i64 k)).run Tryz.prog w = .ok (.int .u8 x) w := by
  have : k = 0 ∨ k = 1 ∨ k = 2 ∨ k = 3 := by omega
  rcases this with rfl | rfl | rfl | rfl
  · exact ⟨a, fun w => by kernel_rfl⟩
  · exact ⟨b, fun w => by kernel_rfl⟩
  · exact ⟨c, fun w => by kernel_rfl⟩
  · exact ⟨d, fun w => by kernel_rfl⟩

set_option maxRecDepth 100000 in
set_option maxHeartbeats 800000 in
theorem kissCode_any (n : Int) (h0 : 0 ≤ n) (h1 : n < 4294967296) (w : World) :
    Calls Tryz.prog 76 #[.int .u32 n] w (SomeText w) := by
  have HI := hidI (fun k hk => idx4 (n / 16777216) (n / 65536 % 256) (n / 256 % 256) (n % 256) k hk)
  go_enter Tryz.func76, Tryz.ntmps76
  go_wp2
  go_loop [20] (fun i => ∃ k : Nat, k ≤ 4 ∧ i = .int .i64 k) (fun i => 4 - (intOf i).toNat)
  case atStart => exact ⟨0, by omega, rfl⟩
  case round =>
    obtain ⟨k, hk, rfl⟩ := hrel
    by_cases hlt : k < 4
    · obtain ⟨x, hx⟩ := HI.out k hlt
      go_wp2_with fail
      refine (printable_any x _).mono ?_
      rintro e w1 ⟨rfl, rfl⟩
      clear hx
      by_cases hp : prn x = true
      · rw [hp]
        clear hp
        go_wp2
        go_round
        case rel => exact ⟨k + 1, by omega, by go_num⟩
        case measure => simp [intOf]; omega
      · rw [Bool.not_eq_true] at hp
        rw [hp]
        clear hp
        go_wp2
        go_ret
        exact ⟨_, rfl, by go_grown⟩
    · obtain rfl : k = 4 := by omega
      have hcv := run_convert_bytes_arg (P := Tryz.prog) (w.alloc (.cells #[.int .u8 (n / 16777216), .int .u8 (n / 65536 % 256), .int .u8 (n / 256 % 256), .int .u8 (n % 256)] 163)) 40 5 Tryz.underlying40 Tryz.underlying5 w.heap.size 0 4 4 [n / 16777216, n / 65536 % 256, n / 256 % 256, n % 256] rfl
        (fun i hi => by
          have : i = 0 ∨ i = 1 ∨ i = 2 ∨ i = 3 := by omega
          rcases this with rfl | rfl | rfl | rfl <;> simp [go_sem]) 9 Tryz.underlying9
      go_wp2
      go_ret
      exact ⟨_, rfl, by go_grown⟩
end Go.Proofs.YtgifkanoghmijaaGreatDoor
