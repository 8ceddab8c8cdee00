/- Contracts of the package ntp's functions on times. -/
import Derived.Test.YtgifkanoghmijaaGreatDoorSub
import Derived.Test.YtgifkanoghmijaaGreatDoorNum
namespace Go.Proofs.YtgifkanoghmijaaGreatDoor
open Go.RowKit

set_option maxRecDepth 100000 in
set_option maxHeartbeats 400000 in
theorem era1_any (w : World) :
    Calls Tryz.prog 94 #[] w fun e w' => e = .returned (.agg #[.int .u64 0, .int .i64 64221575296, .pointer none]) ∧ Below w.heap.size w w' := by
  go_enter Tryz.func94, Tryz.ntmps94
  go_wp2_with fail
  refine (era0_any _).mono ?_
  rintro e w1 ⟨rfl, hb⟩
  go_wp2_with fail
  refine (add_any _ _ _ ?_ ?_ ?_ ?_ ?_ ?_ _).mono ?_
  · decide
  · decide
  · decide
  · decide
  · decide
  · decide
  rintro e w2 ⟨n, s, f0, f1, f2, rfl, hb2⟩
  obtain rfl : n = 0 := by omega
  obtain rfl : s = 64221575296 := by omega
  have hb3 := hb.trans (hb2.mono hb.size)
  clear f0 f1 f2 hb2
  obtain ⟨hc, hf⟩ := bcell hb3
  have hz := hb3.size
  have hb4 : Below w.heap.size w w2 := keepBelow (by go_grown) hb3
  go_wp2
  exact bodyPost_ret (v := .agg #[.int .u64 0, .int .i64 64221575296, .pointer none]) (by simp [results, Tryz.results94, go_sem, hc]) rfl ⟨rfl, by go_grown⟩

/-- The time, in nanoseconds since the year 1, of a number of 64 bits. -/
def timeN (n : Int) : Int := 59926608000000000000 + eraN n * 4294967296000000000 + durN n

theorem durN_bd (n : Int) (h0 : 0 ≤ n) (h1 : n < 18446744073709551616) : 0 ≤ durN n ∧ durN n ≤ 4294967296000000000 := by
  unfold durN; omega

set_option maxRecDepth 100000 in
set_option maxHeartbeats 400000 in
theorem timeV4_any (n : Int) (h0 : 0 ≤ n) (h1 : n < 18446744073709551616) (w : World) :
    Calls Tryz.prog 67 #[.int .u64 n] w (RetTime (timeN n) w) := by
  obtain ⟨g0, g1⟩ := durN_bd n h0 h1
  by_cases hE : eraN n = 1
  · have hT : Hid (timeN n = 64221575296 * 1000000000 + 0 + durN n) := hidI (by unfold timeN; rw [hE]; omega)
    go_enter Tryz.func67, Tryz.ntmps67
    go_wp2_with fail
    refine (inferEra_any n _).mono ?_
    rintro e w1 ⟨rfl, rfl⟩
    rw [hE]
    clear hE
    go_wp2_with fail
    refine (era1_any _).mono ?_
    rintro e w1 ⟨rfl, hb⟩
    go_wp2_with fail
    refine (dur_any n h0 h1 _).mono ?_
    rintro e w1 ⟨rfl, rfl⟩
    go_wp2_with fail
    refine (add_any _ _ _ ?_ ?_ ?_ ?_ ?_ ?_ _).mono ?_
    · decide
    · decide
    · decide
    · decide
    · omega
    · omega
    rintro e w2 ⟨m, s, f0, f1, f2, rfl, hb2⟩
    have hb3 := hb.trans (hb2.mono hb.size)
    have hF : Hid (s * 1000000000 + m = timeN n) := hidI (f2.trans hT.out.symm)
    clear f2 hb2
    obtain ⟨hc, hf⟩ := bcell hb3
    have hz := hb3.size
    have hb4 : Below w.heap.size w w2 := keepBelow (by go_grown) hb3
    go_wp2
    exact bodyPost_ret (v := .agg #[.int .u64 m, .int .i64 s, .pointer none]) (by simp [results, Tryz.results67, go_sem, hc]) rfl ⟨_, _, f0, f1, hF.out, rfl, by go_grown⟩
  · have hE0 : eraN n = 0 := by unfold eraN at hE ⊢; split at hE <;> simp_all
    clear hE
    have hT : Hid (timeN n = 59926608000 * 1000000000 + 0 + durN n) := hidI (by unfold timeN; rw [hE0]; omega)
    go_enter Tryz.func67, Tryz.ntmps67
    go_wp2_with fail
    refine (inferEra_any n _).mono ?_
    rintro e w1 ⟨rfl, rfl⟩
    rw [hE0]
    clear hE0
    go_wp2_with fail
    refine (era0_any _).mono ?_
    rintro e w1 ⟨rfl, hb⟩
    go_wp2_with fail
    refine (dur_any n h0 h1 _).mono ?_
    rintro e w1 ⟨rfl, rfl⟩
    go_wp2_with fail
    refine (add_any _ _ _ ?_ ?_ ?_ ?_ ?_ ?_ _).mono ?_
    · decide
    · decide
    · decide
    · decide
    · omega
    · omega
    rintro e w2 ⟨m, s, f0, f1, f2, rfl, hb2⟩
    have hb3 := hb.trans (hb2.mono hb.size)
    have hF : Hid (s * 1000000000 + m = timeN n) := hidI (f2.trans hT.out.symm)
    clear f2 hb2
    obtain ⟨hc, hf⟩ := bcell hb3
    have hz := hb3.size
    have hb4 : Below w.heap.size w w2 := keepBelow (by go_grown) hb3
    go_wp2
    exact bodyPost_ret (v := .agg #[.int .u64 m, .int .i64 s, .pointer none]) (by simp [results, Tryz.results67, go_sem, hc]) rfl ⟨_, _, f0, f1, hF.out, rfl, by go_grown⟩

/-- Half of a sum, toward nothing. -/
def half (x : Int) : Int := x.tdiv 2
def diff (s u n m : Int) : Int := (s - u) * 1000000000 + (n - m)

theorem half_pos (x : Int) (h : 0 ≤ x) : 2 * half x ≤ x ∧ x ≤ 2 * half x + 1 := by
  unfold half; rw [Int.tdiv_eq_ediv_of_nonneg h]; omega
theorem half_neg (x : Int) (h : x ≤ 0) : x ≤ 2 * half x ∧ 2 * half x ≤ x + 1 := by
  have := half_pos (-x) (by omega)
  unfold half at this ⊢
  rw [Int.neg_tdiv] at this
  omega
theorem half_bd (x : Int) (h0 : -9000000000000000000 ≤ x) (h1 : x ≤ 9000000000000000000) : -4500000000000000000 ≤ half x ∧ half x ≤ 4500000000000000000 := by
  by_cases h : 0 ≤ x
  · have := half_pos x h; omega
  · have := half_neg x (by omega); omega
theorem half_wrap (x : Int) (h0 : -9000000000000000000 ≤ x) (h1 : x ≤ 9000000000000000000) : IntKind.i64.wrap ((IntKind.i64.wrap x).tdiv 2) = half x := by
  obtain ⟨a, b⟩ := half_bd x h0 h1
  rw [IntWalk.i64_in x (by omega)]
  exact IntWalk.i64_in (half x) (by omega)

set_option maxRecDepth 100000 in
set_option maxHeartbeats 1600000 in
theorem offset_any (n1 s1 n2 s2 n3 s3 n4 s4 : Int) (a1 : 0 ≤ n1) (b1 : n1 < 1000000000) (a2 : 0 ≤ n2) (b2 : n2 < 1000000000) (a3 : 0 ≤ n3) (b3 : n3 < 1000000000) (a4 : 0 ≤ n4) (b4 : n4 < 1000000000)
    (c1 : 62000000000 ≤ s1) (d1 : s1 ≤ 65000000000) (c2 : 62000000000 ≤ s2) (d2 : s2 ≤ 65000000000) (c3 : 62000000000 ≤ s3) (d3 : s3 ≤ 65000000000) (c4 : 62000000000 ≤ s4) (d4 : s4 ≤ 65000000000) (w : World) :
    Calls Tryz.prog 68 #[.agg #[.int .u64 n1, .int .i64 s1, .pointer none], .agg #[.int .u64 n2, .int .i64 s2, .pointer none], .agg #[.int .u64 n3, .int .i64 s3, .pointer none], .agg #[.int .u64 n4, .int .i64 s4, .pointer none]] w fun e w' =>
      e = .returned (.int .i64 (half (diff s2 s1 n2 n1 + diff s3 s4 n3 n4))) ∧ Below w.heap.size w w' := by
  go_enter Tryz.func68, Tryz.ntmps68
  go_wp2
  go_region_held3 (fun w' => Below w.heap.size w w' ∧ w'.cell? ⟨w.heap.size, 0, none⟩ = some (.int .u64 n1) ∧ w'.cell? ⟨w.heap.size, 1, none⟩ = some (.int .i64 s1) ∧ w'.cell? ⟨w.heap.size, 2, none⟩ = some (.pointer none) ∧ w'.cell? ⟨w.heap.size + 1, 0, none⟩ = some (.int .u64 n2) ∧ w'.cell? ⟨w.heap.size + 1, 1, none⟩ = some (.int .i64 s2) ∧ w'.cell? ⟨w.heap.size + 1, 2, none⟩ = some (.pointer none) ∧ w'.cell? ⟨w.heap.size + 1 + 1, 0, none⟩ = some (.int .u64 n3) ∧ w'.cell? ⟨w.heap.size + 1 + 1, 1, none⟩ = some (.int .i64 s3) ∧ w'.cell? ⟨w.heap.size + 1 + 1, 2, none⟩ = some (.pointer none) ∧ w'.cell? ⟨w.heap.size + 1 + 1 + 1, 0, none⟩ = some (.int .u64 n4) ∧ w'.cell? ⟨w.heap.size + 1 + 1 + 1, 1, none⟩ = some (.int .i64 s4) ∧ w'.cell? ⟨w.heap.size + 1 + 1 + 1, 2, none⟩ = some (.pointer none))
    (first | assumption | (go_split_ands; refine ⟨by assumption, ?_, ?_, ?_, ?_, ?_, ?_, ?_, ?_, ?_, ?_, ?_, ?_⟩ <;> assumption) | (refine ⟨by go_grown, ?_, ?_, ?_, ?_, ?_, ?_, ?_, ?_, ?_, ?_, ?_, ?_⟩ <;> (simp [go_sem]; done)) | (go_split_ands; refine ⟨keepBelow (by assumption) hb, cell_later hb (by assumption), cell_later hb (by assumption), cell_later hb (by assumption), cell_later hb (by assumption), cell_later hb (by assumption), cell_later hb (by assumption), cell_later hb (by assumption), cell_later hb (by assumption), cell_later hb (by assumption), cell_later hb (by assumption), cell_later hb (by assumption), cell_later hb (by assumption)⟩))
    (first | (go_at_call 50; refine (sub_any _ _ _ _ ?_ ?_ ?_ ?_ ?_ ?_ ?_ ?_ ?_ ?_ _).mono ?_; (focus omega); (focus omega); (focus omega); (focus omega); (focus omega); (focus omega); (focus omega); (focus omega); (focus omega); (focus omega); rintro e w1 ⟨rfl, hb⟩))
  all_goals
    go_wp2
    go_returns
    go_split_ands
    exact ⟨retI (half_wrap _ (by omega) (by omega)), by assumption⟩

/-- The greater of a number and nothing. -/
def mx0 (x : Int) : Int := if x < 0 then 0 else x
theorem mx_wrap (x : Int) (h0 : -9000000000000000000 ≤ x) (h1 : x ≤ 9000000000000000000) : (if IntKind.i64.wrap x < 0 then 0 else IntKind.i64.wrap x) = mx0 x := by
  rw [IntWalk.i64_in x (by omega)]; rfl
theorem mx_bd (x : Int) (h1 : x ≤ 9000000000000000000) : 0 ≤ mx0 x ∧ mx0 x ≤ 9000000000000000000 := by
  unfold mx0; split <;> omega

set_option maxRecDepth 100000 in
set_option maxHeartbeats 1600000 in
theorem rtt_any (n1 s1 n2 s2 n3 s3 n4 s4 : Int) (a1 : 0 ≤ n1) (b1 : n1 < 1000000000) (a2 : 0 ≤ n2) (b2 : n2 < 1000000000) (a3 : 0 ≤ n3) (b3 : n3 < 1000000000) (a4 : 0 ≤ n4) (b4 : n4 < 1000000000)
    (c1 : 62000000000 ≤ s1) (d1 : s1 ≤ 65000000000) (c2 : 62000000000 ≤ s2) (d2 : s2 ≤ 65000000000) (c3 : 62000000000 ≤ s3) (d3 : s3 ≤ 65000000000) (c4 : 62000000000 ≤ s4) (d4 : s4 ≤ 65000000000) (w : World) :
    Calls Tryz.prog 69 #[.agg #[.int .u64 n1, .int .i64 s1, .pointer none], .agg #[.int .u64 n2, .int .i64 s2, .pointer none], .agg #[.int .u64 n3, .int .i64 s3, .pointer none], .agg #[.int .u64 n4, .int .i64 s4, .pointer none]] w fun e w' =>
      e = .returned (.int .i64 (mx0 (diff s4 s1 n4 n1 - diff s3 s2 n3 n2))) ∧ Below w.heap.size w w' := by
  go_enter Tryz.func69, Tryz.ntmps69
  go_wp2
  go_region_held3 (fun w' => Below w.heap.size w w' ∧ w'.cell? ⟨w.heap.size, 0, none⟩ = some (.int .u64 n1) ∧ w'.cell? ⟨w.heap.size, 1, none⟩ = some (.int .i64 s1) ∧ w'.cell? ⟨w.heap.size, 2, none⟩ = some (.pointer none) ∧ w'.cell? ⟨w.heap.size + 1, 0, none⟩ = some (.int .u64 n2) ∧ w'.cell? ⟨w.heap.size + 1, 1, none⟩ = some (.int .i64 s2) ∧ w'.cell? ⟨w.heap.size + 1, 2, none⟩ = some (.pointer none) ∧ w'.cell? ⟨w.heap.size + 1 + 1, 0, none⟩ = some (.int .u64 n3) ∧ w'.cell? ⟨w.heap.size + 1 + 1, 1, none⟩ = some (.int .i64 s3) ∧ w'.cell? ⟨w.heap.size + 1 + 1, 2, none⟩ = some (.pointer none) ∧ w'.cell? ⟨w.heap.size + 1 + 1 + 1, 0, none⟩ = some (.int .u64 n4) ∧ w'.cell? ⟨w.heap.size + 1 + 1 + 1, 1, none⟩ = some (.int .i64 s4) ∧ w'.cell? ⟨w.heap.size + 1 + 1 + 1, 2, none⟩ = some (.pointer none))
    (first | assumption | (go_split_ands; refine ⟨by assumption, ?_, ?_, ?_, ?_, ?_, ?_, ?_, ?_, ?_, ?_, ?_, ?_⟩ <;> assumption) | (refine ⟨by go_grown, ?_, ?_, ?_, ?_, ?_, ?_, ?_, ?_, ?_, ?_, ?_, ?_⟩ <;> (simp [go_sem]; done)) | (go_split_ands; refine ⟨keepBelow (by assumption) hb, cell_later hb (by assumption), cell_later hb (by assumption), cell_later hb (by assumption), cell_later hb (by assumption), cell_later hb (by assumption), cell_later hb (by assumption), cell_later hb (by assumption), cell_later hb (by assumption), cell_later hb (by assumption), cell_later hb (by assumption), cell_later hb (by assumption), cell_later hb (by assumption)⟩))
    (first | (go_at_call 50; refine (sub_any _ _ _ _ ?_ ?_ ?_ ?_ ?_ ?_ ?_ ?_ ?_ ?_ _).mono ?_; (focus omega); (focus omega); (focus omega); (focus omega); (focus omega); (focus omega); (focus omega); (focus omega); (focus omega); (focus omega); rintro e w1 ⟨rfl, hb⟩))
  all_goals
    rw [mx_wrap _ (by omega) (by omega)]
    go_wp2
    go_returns
    go_split_ands
    exact ⟨rfl, by assumption⟩

/-- The least error, of an offset and a delay. -/
def minE (o r : Int) : Int := if r / 2 < (if o < 0 then -o else o) then (if o < 0 then -o else o) - r / 2 else 0

set_option maxRecDepth 100000 in
set_option maxHeartbeats 1600000 in
theorem minError_core (o r : Int) (o0 : -4500000000000000000 ≤ o) (o1 : o ≤ 4500000000000000000) (r0 : 0 ≤ r) (r1 : r ≤ 9000000000000000000) (n1 s1 n2 s2 n3 s3 n4 s4 : Int)
    (ho : Hid (∀ W : World, Calls Tryz.prog 68 #[.agg #[.int .u64 n1, .int .i64 s1, .pointer none], .agg #[.int .u64 n2, .int .i64 s2, .pointer none], .agg #[.int .u64 n3, .int .i64 s3, .pointer none], .agg #[.int .u64 n4, .int .i64 s4, .pointer none]] W fun e w' => e = .returned (.int .i64 o) ∧ Below W.heap.size W w'))
    (hr : Hid (∀ W : World, Calls Tryz.prog 69 #[.agg #[.int .u64 n1, .int .i64 s1, .pointer none], .agg #[.int .u64 n2, .int .i64 s2, .pointer none], .agg #[.int .u64 n3, .int .i64 s3, .pointer none], .agg #[.int .u64 n4, .int .i64 s4, .pointer none]] W fun e w' => e = .returned (.int .i64 r) ∧ Below W.heap.size W w')) (w : World) :
    Calls Tryz.prog 74 #[.agg #[.int .u64 n1, .int .i64 s1, .pointer none], .agg #[.int .u64 n2, .int .i64 s2, .pointer none], .agg #[.int .u64 n3, .int .i64 s3, .pointer none], .agg #[.int .u64 n4, .int .i64 s4, .pointer none]] w fun e w' => e = .returned (.int .i64 (minE o r)) ∧ Below w.heap.size w w' := by
  have k0 : 0 ≤ r / 2 := by omega
  have k1 : r / 2 ≤ 4500000000000000000 := by omega
  by_cases hn : o < 0
  · by_cases hg : r / 2 < -o
    · have hE : Hid (minE o r = -o - r / 2) := hidI (by unfold minE; rw [if_pos hn, if_pos hg])
      go_enter Tryz.func74, Tryz.ntmps74
      go_wp2_with fail
      refine (ho.out _).mono ?_
      rintro e w1 ⟨rfl, hb⟩
      obtain ⟨hc, hf⟩ := bcell hb
      go_wp2_with fail
      refine (hr.out _).mono ?_
      rintro e w2 ⟨rfl, hb2⟩
      have hb3 : Below w.heap.size w w2 := keepBelow (keepBelow (by go_grown) hb) hb2
      clear hc hf
      go_wp2
      go_returns
      exact ⟨retI hE.out.symm, hb3⟩
    · have hE : Hid (minE o r = 0) := hidI (by unfold minE; rw [if_pos hn, if_neg hg])
      go_enter Tryz.func74, Tryz.ntmps74
      go_wp2_with fail
      refine (ho.out _).mono ?_
      rintro e w1 ⟨rfl, hb⟩
      obtain ⟨hc, hf⟩ := bcell hb
      go_wp2_with fail
      refine (hr.out _).mono ?_
      rintro e w2 ⟨rfl, hb2⟩
      have hb3 : Below w.heap.size w w2 := keepBelow (keepBelow (by go_grown) hb) hb2
      clear hc hf
      go_wp2
      go_returns
      exact ⟨retI hE.out.symm, hb3⟩
  · by_cases hg : r / 2 < o
    · have hE : Hid (minE o r = o - r / 2) := hidI (by unfold minE; rw [if_neg hn, if_pos hg])
      go_enter Tryz.func74, Tryz.ntmps74
      go_wp2_with fail
      refine (ho.out _).mono ?_
      rintro e w1 ⟨rfl, hb⟩
      obtain ⟨hc, hf⟩ := bcell hb
      go_wp2_with fail
      refine (hr.out _).mono ?_
      rintro e w2 ⟨rfl, hb2⟩
      have hb3 : Below w.heap.size w w2 := keepBelow (keepBelow (by go_grown) hb) hb2
      clear hc hf
      go_wp2
      go_returns
      exact ⟨retI hE.out.symm, hb3⟩
    · have hE : Hid (minE o r = 0) := hidI (by unfold minE; rw [if_neg hn, if_neg hg])
      go_enter Tryz.func74, Tryz.ntmps74
      go_wp2_with fail
      refine (ho.out _).mono ?_
      rintro e w1 ⟨rfl, hb⟩
      obtain ⟨hc, hf⟩ := bcell hb
      go_wp2_with fail
      refine (hr.out _).mono ?_
      rintro e w2 ⟨rfl, hb2⟩
      have hb3 : Below w.heap.size w w2 := keepBelow (keepBelow (by go_grown) hb) hb2
      clear hc hf
      go_wp2
      go_returns
      exact ⟨retI hE.out.symm, hb3⟩

set_option maxHeartbeats 400000 in
theorem minError_any (n1 s1 n2 s2 n3 s3 n4 s4 : Int) (a1 : 0 ≤ n1) (b1 : n1 < 1000000000) (a2 : 0 ≤ n2) (b2 : n2 < 1000000000) (a3 : 0 ≤ n3) (b3 : n3 < 1000000000) (a4 : 0 ≤ n4) (b4 : n4 < 1000000000)
    (c1 : 62000000000 ≤ s1) (d1 : s1 ≤ 65000000000) (c2 : 62000000000 ≤ s2) (d2 : s2 ≤ 65000000000) (c3 : 62000000000 ≤ s3) (d3 : s3 ≤ 65000000000) (c4 : 62000000000 ≤ s4) (d4 : s4 ≤ 65000000000) (w : World) :
    Calls Tryz.prog 74 #[.agg #[.int .u64 n1, .int .i64 s1, .pointer none], .agg #[.int .u64 n2, .int .i64 s2, .pointer none], .agg #[.int .u64 n3, .int .i64 s3, .pointer none], .agg #[.int .u64 n4, .int .i64 s4, .pointer none]] w fun e w' =>
      e = .returned (.int .i64 (minE (half (diff s2 s1 n2 n1 + diff s3 s4 n3 n4)) (mx0 (diff s4 s1 n4 n1 - diff s3 s2 n3 n2)))) ∧ Below w.heap.size w w' := by
  obtain ⟨p, q⟩ := half_bd (diff s2 s1 n2 n1 + diff s3 s4 n3 n4) (by unfold diff; omega) (by unfold diff; omega)
  obtain ⟨p', q'⟩ := mx_bd (diff s4 s1 n4 n1 - diff s3 s2 n3 n2) (by unfold diff; omega)
  exact minError_core _ _ p q p' q' n1 s1 n2 s2 n3 s3 n4 s4 (hidI fun W => offset_any n1 s1 n2 s2 n3 s3 n4 s4 a1 b1 a2 b2 a3 b3 a4 b4 c1 d1 c2 d2 c3 d3 c4 d4 W)
    (hidI fun W => rtt_any n1 s1 n2 s2 n3 s3 n4 s4 a1 b1 a2 b2 a3 b3 a4 b4 c1 d1 c2 d2 c3 d3 c4 d4 W) w

end Go.Proofs.YtgifkanoghmijaaGreatDoor
