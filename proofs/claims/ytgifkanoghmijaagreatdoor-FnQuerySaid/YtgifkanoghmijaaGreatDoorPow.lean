/- The reference's powers of two and its least error. -/
import Derived.Test.YtgifkanoghmijaaGreatDoorRef
namespace Go.Proofs.YtgifkanoghmijaaGreatDoor
open Go.RowKit

def pw (k : Nat) : Int := 1000000000 * 2 ^ k
def dv (k : Nat) : Int := 1000000000 / 2 ^ k
theorem pw_succ (k : Nat) : pw (k + 1) = pw k * 2 := by unfold pw; rw [Int.pow_succ]; omega
theorem dv_succ (k : Nat) : dv (k + 1) = (dv k).tdiv 2 := by
  have h0 : (0 : Int) ≤ 1000000000 / 2 ^ k := Int.ediv_nonneg (by omega) (Int.pow_nonneg (by omega))
  unfold dv
  rw [Int.tdiv_eq_ediv_of_nonneg h0, Int.pow_succ, Int.ediv_ediv_of_nonneg (Int.pow_nonneg (by omega))]
theorem pw_bd : ∀ k, k ≤ 20 → 0 ≤ pw k ∧ pw k ≤ 1048576000000000 := by
  intro k h
  have : ∀ j : Fin 21, 0 ≤ pw j ∧ pw j ≤ 1048576000000000 := by decide +kernel
  exact this ⟨k, by omega⟩
theorem dv_bd : ∀ k, k ≤ 20 → 0 ≤ dv k ∧ dv k ≤ 1000000000 := by
  intro k h
  have : ∀ j : Fin 21, 0 ≤ dv j ∧ dv j ≤ 1000000000 := by decide +kernel
  exact this ⟨k, by omega⟩
theorem ivl_pw : ∀ k : Nat, k ≤ 20 → ivl k = pw k := by
  intro k h
  have : ∀ j : Fin 21, ivl (j.val : Int) = pw j := by decide +kernel
  exact this ⟨k, by omega⟩
theorem ivl_dv : ∀ k : Nat, k ≤ 20 → ivl (-(k : Int)) = dv k := by
  intro k h
  have : ∀ j : Fin 21, ivl (-(j.val : Int)) = dv j := by decide +kernel
  exact this ⟨k, by omega⟩

set_option maxRecDepth 100000 in
set_option maxHeartbeats 1600000 in
theorem power_pos (t : Nat) (h : t ≤ 20) (w : World) : Calls Tryz.prog 14 #[.int .i64 t] w fun e w' => e = .returned (.tuple #[.int .i64 (pw t), .bool true]) ∧ w = w' := by
  have hp0 : pw 0 = 1000000000 := by decide +kernel
  go_enter Tryz.func14, Tryz.ntmps14
  go_wp2_with fail
  go_loop [4, 9] (fun s i => ∃ k : Nat, k ≤ t ∧ i = .int .i64 k ∧ s = .int .i64 (pw k)) (fun s i => t - (intOf i).toNat)
  case atStart => exact ⟨0, by omega, rfl, by rw [hp0]⟩
  case round =>
    obtain ⟨k, hk, rfl, rfl⟩ := hrel
    obtain ⟨b0, b1⟩ := pw_bd k (by omega)
    by_cases hlt : k < t
    · go_wp2_with fail
      go_round
      case rel => exact ⟨k + 1, by omega, by go_num, by rw [pw_succ]⟩
      case measure => simp [intOf]; omega
    · obtain rfl : k = t := by omega
      go_wp2_with fail
      all_goals go_rounds 1
      all_goals go_ret2
      all_goals exact ⟨rfl, rfl⟩

set_option maxRecDepth 100000 in
set_option maxHeartbeats 1600000 in
theorem power_neg (t : Nat) (ht : 0 < t) (h : t ≤ 20) (w : World) : Calls Tryz.prog 14 #[.int .i64 (-(t : Int))] w fun e w' => e = .returned (.tuple #[.int .i64 (dv t), .bool true]) ∧ w = w' := by
  have hp0 : dv 0 = 1000000000 := by decide +kernel
  go_enter Tryz.func14, Tryz.ntmps14
  go_wp2_with fail
  all_goals go_rounds 1
  go_loop [4, 17] (fun s i => ∃ k : Nat, k ≤ t ∧ i = .int .i64 k ∧ s = .int .i64 (dv k)) (fun s i => t - (intOf i).toNat)
  case atStart => exact ⟨0, by omega, rfl, by rw [hp0]⟩
  case round =>
    obtain ⟨k, hk, rfl, rfl⟩ := hrel
    obtain ⟨b0, b1⟩ := dv_bd k (by omega)
    have d0 : 0 ≤ (dv k).tdiv 2 := by rw [Int.tdiv_eq_ediv_of_nonneg b0]; omega
    have d1 : (dv k).tdiv 2 ≤ 1000000000 := by rw [Int.tdiv_eq_ediv_of_nonneg b0]; omega
    by_cases hlt : k < t
    · go_wp2_with fail
      go_round
      case rel => exact ⟨k + 1, by omega, by go_num, by rw [dv_succ]⟩
      case measure => simp [intOf]; omega
    · obtain rfl : k = t := by omega
      go_wp2_with fail
      go_ret2
      exact ⟨rfl, rfl⟩

theorem power_any (t : Int) (h0 : -20 ≤ t) (h1 : t ≤ 20) (w : World) : Calls Tryz.prog 14 #[.int .i64 t] w fun e w' => e = .returned (.tuple #[.int .i64 (ivl t), .bool true]) ∧ w = w' := by
  by_cases h : 0 ≤ t
  · obtain ⟨k, rfl⟩ := Int.eq_ofNat_of_zero_le h
    rw [ivl_pw k (by omega)]
    exact power_pos k (by omega) w
  · obtain ⟨k, hk⟩ := Int.eq_ofNat_of_zero_le (show 0 ≤ -t by omega)
    obtain rfl : t = -(k : Int) := by omega
    rw [ivl_dv k (by omega)]
    exact power_neg k (by omega) (by omega) w

theorem le_mx3 (n a b : Int) (h : n ≤ a ∨ n ≤ b ∨ n ≤ 0) : decide (n ≤ if (if a < b then b else a) < 0 then 0 else if a < b then b else a) = true := by
  simp only [decide_eq_true_eq]
  split <;> split <;> omega

set_option maxRecDepth 100000 in
set_option maxHeartbeats 1600000 in
theorem specMinError_any (n s1 n1 s2 n2 s3 n3 s4 n4 : Int) (m0 : 0 ≤ n) (m1 : n ≤ diff s1 s2 n1 n2 ∨ n ≤ diff s3 s4 n3 n4 ∨ n ≤ 0) (c1 : -2000000000 ≤ s1) (d1 : s1 ≤ 2000000000) (c2 : -2000000000 ≤ s2) (d2 : s2 ≤ 2000000000) (c3 : -2000000000 ≤ s3) (d3 : s3 ≤ 2000000000) (c4 : -2000000000 ≤ s4) (d4 : s4 ≤ 2000000000)
    (a1 : 0 ≤ n1) (b1 : n1 < 1000000000) (a2 : 0 ≤ n2) (b2 : n2 < 1000000000) (a3 : 0 ≤ n3) (b3 : n3 < 1000000000) (a4 : 0 ≤ n4) (b4 : n4 < 1000000000) (w : World) :
    Calls Tryz.prog 18 #[.int .i64 n, TT s1 n1, TT s2 n2, TT s3 n3, TT s4 n4] w fun e w' => e = .returned (.bool true) ∧ Below w.heap.size w w' := by
  unfold TT
  have HM := hidI m1
  clear m1
  go_enter Tryz.func18, Tryz.ntmps18
  go_wp2_with fail
  first | (go_region_held3 (fun w' => Below w.heap.size w w' ∧ w'.cell? ⟨w.heap.size, 0, none⟩ = some (.int .i64 s1) ∧ w'.cell? ⟨w.heap.size, 1, none⟩ = some (.int .i64 n1) ∧ w'.cell? ⟨w.heap.size + 1, 0, none⟩ = some (.int .i64 s2) ∧ w'.cell? ⟨w.heap.size + 1, 1, none⟩ = some (.int .i64 n2) ∧ w'.cell? ⟨w.heap.size + 1 + 1, 0, none⟩ = some (.int .i64 s3) ∧ w'.cell? ⟨w.heap.size + 1 + 1, 1, none⟩ = some (.int .i64 n3) ∧ w'.cell? ⟨w.heap.size + 1 + 1 + 1, 0, none⟩ = some (.int .i64 s4) ∧ w'.cell? ⟨w.heap.size + 1 + 1 + 1, 1, none⟩ = some (.int .i64 n4))
    (first | assumption | (go_split_ands; refine ⟨by assumption, ?_, ?_, ?_, ?_, ?_, ?_, ?_, ?_⟩ <;> assumption) | (refine ⟨by go_grown, ?_, ?_, ?_, ?_, ?_, ?_, ?_, ?_⟩ <;> (simp [go_sem]; done)) | (go_split_ands; refine ⟨keepBelow (by assumption) hb, cell_later hb (by assumption), cell_later hb (by assumption), cell_later hb (by assumption), cell_later hb (by assumption), cell_later hb (by assumption), cell_later hb (by assumption), cell_later hb (by assumption), cell_later hb (by assumption)⟩))
    (first | (go_at_call 21; refine (between_any _ _ _ _ ?_ ?_ ?_ ?_ ?_ ?_ ?_ ?_ _).mono ?_; (focus omega); (focus omega); (focus omega); (focus omega); (focus omega); (focus omega); (focus omega); (focus omega); rintro e w1 ⟨rfl, hb⟩))) | fail "no"
  all_goals rw [le_mx3 n _ _ HM.out]
  all_goals go_wp2
  all_goals
    go_ret
    go_split_ands
    exact ⟨rfl, by assumption⟩

end Go.Proofs.YtgifkanoghmijaaGreatDoor
