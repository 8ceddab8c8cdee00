/- The reference's functions that the law of a query calls. -/
import Derived.Test.YtgifkanoghmijaaGreatDoorSpec
import Derived.Test.YtgifkanoghmijaaGreatDoorNtp
import Derived.Deep.RegionHeld3
namespace Go.Proofs.YtgifkanoghmijaaGreatDoor
open Go.RowKit

/-- The nanoseconds of a fraction of 32 bits, rounded down. -/
def fracN (n : Int) : Int := n * 1000000000 / 4294967296
/-- The nanoseconds of a number of 32 bits, rounded down. -/
def shortN (n : Int) : Int := n / 65536 * 1000000000 + fracN (n % 65536 * 65536)

/-- A time by value. -/
def TT (s n : Int) : Value := .agg #[.int .i64 s, .int .i64 n]

set_option maxHeartbeats 400000 in
theorem fraction_any (n : Int) (h0 : 0 ≤ n) (h1 : n < 4294967296) (w : World) :
    Calls Tryz.prog 32 #[.int .u32 n] w fun e w' => e = .returned (.int .i64 (fracN n)) ∧ w = w' := by
  go_enter Tryz.func32, Tryz.ntmps32
  go_wp2
  go_ret
  exact ⟨retI (by unfold fracN; omega), rfl⟩

set_option maxHeartbeats 1000000 in
theorem specShort_any (n : Int) (h0 : 0 ≤ n) (h1 : n < 4294967296) (w : World) :
    Calls Tryz.prog 20 #[.int .u32 n] w fun e w' => e = .returned (.int .i64 (shortN n)) ∧ w = w' := by
  have hs : IntKind.u32.wrap (n * 65536) = n % 65536 * 65536 := by simp [IntKind.wrap, IntKind.bits, IntKind.signed]; omega
  have f0 : 0 ≤ fracN (n % 65536 * 65536) := by unfold fracN; omega
  have f1 : fracN (n % 65536 * 65536) < 1000000000 := by unfold fracN; omega
  go_enter Tryz.func20, Tryz.ntmps20
  go_wp2_with (first | (go_at_call 32; (try rw [hs]); refine (fraction_any _ (by omega) (by omega) _).mono ?_; rintro e w9 ⟨rfl, rfl⟩))
  go_ret
  exact ⟨retI (by unfold shortN; omega), rfl⟩

set_option maxHeartbeats 1000000 in
theorem specEra_any (n : Int) (h0 : 0 ≤ n) (h1 : n < 18446744073709551616) (w : World) :
    Calls Tryz.prog 13 #[.int .u64 n, .int .i64 0] w fun e w' => e = .returned (.agg #[.int .i64 (n / 4294967296 - 2208988800), .int .i64 (fracN (n % 4294967296))]) ∧ Below w.heap.size w w' := by
  have hs : IntKind.u32.wrap n = n % 4294967296 := by simp [IntKind.wrap, IntKind.bits, IntKind.signed]
  have f0 : 0 ≤ fracN (n % 4294967296) := by unfold fracN; omega
  have f1 : fracN (n % 4294967296) < 1000000000 := by unfold fracN; omega
  go_enter Tryz.func13, Tryz.ntmps13
  go_wp2_with (first | (go_at_call 32; (try rw [hs]); refine (fraction_any _ (by omega) (by omega) _).mono ?_; rintro e w9 ⟨rfl, rfl⟩))
  go_returns
  exact ⟨rfl, by go_grown⟩

set_option maxHeartbeats 1000000 in
theorem between_any (s1 n1 s2 n2 : Int) (c1 : -4200000000 ≤ s1) (d1 : s1 ≤ 4200000000) (c2 : -4200000000 ≤ s2) (d2 : s2 ≤ 4200000000) (a1 : 0 ≤ n1) (b1 : n1 < 1000000000) (a2 : 0 ≤ n2) (b2 : n2 < 1000000000) (w : World) :
    Calls Tryz.prog 21 #[.agg #[.int .i64 s1, .int .i64 n1], .agg #[.int .i64 s2, .int .i64 n2]] w fun e w' => e = .returned (.int .i64 (diff s2 s1 n2 n1)) ∧ Below w.heap.size w w' := by
  go_enter Tryz.func21, Tryz.ntmps21
  go_wp2
  go_ret
  exact ⟨retI (by unfold diff; omega), by go_grown⟩

set_option maxHeartbeats 400000 in
theorem near_any (a b : Int) (h0 : -1 ≤ a - b) (h1 : a - b ≤ 1) (w : World) :
    Calls Tryz.prog 19 #[.int .i64 a, .int .i64 b] w fun e w' => e = .returned (.bool true) ∧ w = w' := by
  go_enter Tryz.func19, Tryz.ntmps19
  go_wp2
  all_goals go_ret
  all_goals exact ⟨retB (by first | (simp; done) | (simp; omega)), rfl⟩

set_option maxHeartbeats 400000 in
theorem within_any (a b : Int) (h0 : -4 ≤ a - b) (h1 : a - b ≤ 4) (w : World) :
    Calls Tryz.prog 15 #[.int .i64 a, .int .i64 b] w fun e w' => e = .returned (.bool true) ∧ w = w' := by
  go_enter Tryz.func15, Tryz.ntmps15
  go_wp2
  all_goals go_ret
  all_goals exact ⟨retB (by first | (simp; done) | (simp; omega)), rfl⟩

set_option maxRecDepth 100000 in
set_option maxHeartbeats 1600000 in
theorem specOffset_any (s1 n1 s2 n2 s3 n3 s4 n4 : Int) (c1 : -2000000000 ≤ s1) (d1 : s1 ≤ 2000000000) (c2 : -2000000000 ≤ s2) (d2 : s2 ≤ 2000000000) (c3 : -2000000000 ≤ s3) (d3 : s3 ≤ 2000000000) (c4 : -2000000000 ≤ s4) (d4 : s4 ≤ 2000000000)
    (a1 : 0 ≤ n1) (b1 : n1 < 1000000000) (a2 : 0 ≤ n2) (b2 : n2 < 1000000000) (a3 : 0 ≤ n3) (b3 : n3 < 1000000000) (a4 : 0 ≤ n4) (b4 : n4 < 1000000000) (w : World) :
    Calls Tryz.prog 16 #[TT s1 n1, TT s2 n2, TT s3 n3, TT s4 n4] w fun e w' => e = .returned (.int .i64 (half (diff s2 s1 n2 n1 + diff s3 s4 n3 n4))) ∧ Below w.heap.size w w' := by
  unfold TT
  go_enter Tryz.func16, Tryz.ntmps16
  go_wp2_with fail
  go_region_held3 (fun w' => Below w.heap.size w w' ∧ w'.cell? ⟨w.heap.size, 0, none⟩ = some (.int .i64 s1) ∧ w'.cell? ⟨w.heap.size, 1, none⟩ = some (.int .i64 n1) ∧ w'.cell? ⟨w.heap.size + 1, 0, none⟩ = some (.int .i64 s2) ∧ w'.cell? ⟨w.heap.size + 1, 1, none⟩ = some (.int .i64 n2) ∧ w'.cell? ⟨w.heap.size + 1 + 1, 0, none⟩ = some (.int .i64 s3) ∧ w'.cell? ⟨w.heap.size + 1 + 1, 1, none⟩ = some (.int .i64 n3) ∧ w'.cell? ⟨w.heap.size + 1 + 1 + 1, 0, none⟩ = some (.int .i64 s4) ∧ w'.cell? ⟨w.heap.size + 1 + 1 + 1, 1, none⟩ = some (.int .i64 n4))
    (first | assumption | (go_split_ands; refine ⟨by assumption, ?_, ?_, ?_, ?_, ?_, ?_, ?_, ?_⟩ <;> assumption) | (refine ⟨by go_grown, ?_, ?_, ?_, ?_, ?_, ?_, ?_, ?_⟩ <;> (simp [go_sem]; done)) | (go_split_ands; refine ⟨keepBelow (by assumption) hb, cell_later hb (by assumption), cell_later hb (by assumption), cell_later hb (by assumption), cell_later hb (by assumption), cell_later hb (by assumption), cell_later hb (by assumption), cell_later hb (by assumption), cell_later hb (by assumption)⟩))
    (first | (go_at_call 21; refine (between_any _ _ _ _ ?_ ?_ ?_ ?_ ?_ ?_ ?_ ?_ _).mono ?_; (focus omega); (focus omega); (focus omega); (focus omega); (focus omega); (focus omega); (focus omega); (focus omega); rintro e w1 ⟨rfl, hb⟩))
  all_goals
    go_wp2
    go_ret
    go_split_ands
    exact ⟨retI (half_wrap _ (by unfold diff; omega) (by unfold diff; omega)), by assumption⟩

set_option maxRecDepth 100000 in
set_option maxHeartbeats 1600000 in
theorem specRTT_any (s1 n1 s2 n2 s3 n3 s4 n4 : Int) (c1 : -2000000000 ≤ s1) (d1 : s1 ≤ 2000000000) (c2 : -2000000000 ≤ s2) (d2 : s2 ≤ 2000000000) (c3 : -2000000000 ≤ s3) (d3 : s3 ≤ 2000000000) (c4 : -2000000000 ≤ s4) (d4 : s4 ≤ 2000000000)
    (a1 : 0 ≤ n1) (b1 : n1 < 1000000000) (a2 : 0 ≤ n2) (b2 : n2 < 1000000000) (a3 : 0 ≤ n3) (b3 : n3 < 1000000000) (a4 : 0 ≤ n4) (b4 : n4 < 1000000000) (w : World) :
    Calls Tryz.prog 17 #[TT s1 n1, TT s2 n2, TT s3 n3, TT s4 n4] w fun e w' => e = .returned (.int .i64 (mx0 (diff s4 s1 n4 n1 - diff s3 s2 n3 n2))) ∧ Below w.heap.size w w' := by
  unfold TT
  have hE := hidI (IntWalk.i64_in (diff s4 s1 n4 n1 - diff s3 s2 n3 n2) (by unfold diff; omega))
  go_enter Tryz.func17, Tryz.ntmps17
  go_wp2_with fail
  go_region_held3 (fun w' => Below w.heap.size w w' ∧ w'.cell? ⟨w.heap.size, 0, none⟩ = some (.int .i64 s1) ∧ w'.cell? ⟨w.heap.size, 1, none⟩ = some (.int .i64 n1) ∧ w'.cell? ⟨w.heap.size + 1, 0, none⟩ = some (.int .i64 s2) ∧ w'.cell? ⟨w.heap.size + 1, 1, none⟩ = some (.int .i64 n2) ∧ w'.cell? ⟨w.heap.size + 1 + 1, 0, none⟩ = some (.int .i64 s3) ∧ w'.cell? ⟨w.heap.size + 1 + 1, 1, none⟩ = some (.int .i64 n3) ∧ w'.cell? ⟨w.heap.size + 1 + 1 + 1, 0, none⟩ = some (.int .i64 s4) ∧ w'.cell? ⟨w.heap.size + 1 + 1 + 1, 1, none⟩ = some (.int .i64 n4))
    (first | assumption | (go_split_ands; refine ⟨by assumption, ?_, ?_, ?_, ?_, ?_, ?_, ?_, ?_⟩ <;> assumption) | (refine ⟨by go_grown, ?_, ?_, ?_, ?_, ?_, ?_, ?_, ?_⟩ <;> (simp [go_sem]; done)) | (go_split_ands; refine ⟨keepBelow (by assumption) hb, cell_later hb (by assumption), cell_later hb (by assumption), cell_later hb (by assumption), cell_later hb (by assumption), cell_later hb (by assumption), cell_later hb (by assumption), cell_later hb (by assumption), cell_later hb (by assumption)⟩))
    (first | (go_at_call 21; refine (between_any _ _ _ _ ?_ ?_ ?_ ?_ ?_ ?_ ?_ ?_ _).mono ?_; (focus omega); (focus omega); (focus omega); (focus omega); (focus omega); (focus omega); (focus omega); (focus omega); rintro e w1 ⟨rfl, hb⟩))
  all_goals go_wp2
  all_goals
    go_ret
    go_split_ands
    exact ⟨retI (by have := hE.out; unfold mx0; split <;> omega), by assumption⟩

end Go.Proofs.YtgifkanoghmijaaGreatDoor
