/- plain, IsKissOfDeath. -/
import Derived.Test.YtgifkanoghmijaaGreatDoorQuery
import Derived.Test.YtgifkanoghmijaaGreatDoorHeld
import Derived.Test.YtgifkanoghmijaaGreatDoorTryc
import Derived.Deep.RegionHeld2
namespace Go.Proofs.YtgifkanoghmijaaGreatDoor
open Go.RowKit

theorem build_time (s n : Int) (w : World) :
    (heldBuild 27 #[(0, .int .i64 s), (1, .int .i64 n)]).run Tryz.prog w = .ok (.agg #[.int .i64 s, .int .i64 n]) w :=
  run_build w _ _ _ (by kernel_rfl)

attribute [local go_sem ↓] execOp_held
attribute [local go_sem] build_time

set_option maxHeartbeats 1000000 in
theorem unix_any (n s : Int) (h0 : 0 ≤ n) (h1 : n < 1000000000) (h2 : 0 ≤ s) (h3 : s ≤ 100000000000) (w : World) :
    Calls Tryz.prog 43 #[.agg #[.int .u64 n, .int .i64 s, .pointer none]] w fun e w' => e = .returned (.int .i64 (s - 62135596800)) ∧ Below w.heap.size w w' := by
  have q1 := and30 n h0 (by omega)
  have q2 : n % 1073741824 = n := by omega
  have q3 := andTop n h0 (by omega)
  go_enter Tryz.func43, Tryz.ntmps43
  go_wp2
  go_ret
  refine ⟨?_, by go_grown⟩
  apply retI
  omega

set_option maxHeartbeats 1000000 in
theorem nanos_any (n s : Int) (h0 : 0 ≤ n) (h1 : n < 1000000000) (w : World) :
    Calls Tryz.prog 44 #[.agg #[.int .u64 n, .int .i64 s, .pointer none]] w fun e w' => e = .returned (.int .i64 n) ∧ Below w.heap.size w w' := by
  have q1 := and30 n h0 (by omega)
  have q2 : n % 1073741824 = n := by omega
  have q3 := andTop n h0 (by omega)
  go_enter Tryz.func44, Tryz.ntmps44
  go_wp2
  go_ret
  refine ⟨?_, by go_grown⟩
  apply retI
  omega

set_option maxHeartbeats 1000000 in
theorem kod_any (R : Nat) (v x : Int) (w : World) (k15 : w.cell? ⟨R, 15, none⟩ = some (.int .i64 v)) (k16 : w.cell? ⟨R, 16, none⟩ = some (.int .u8 x)) :
    Calls Tryz.prog 30 #[.pointer (some ⟨R, 0, none⟩)] w fun e w' => e = .returned (.bool (decide (v < 5) && (x == 0))) ∧ w = w' := by
  go_enter Tryz.func30, Tryz.ntmps30
  by_cases h : v < 5
  · have hd : (decide (v < 5) && (x == 0)) = (x == 0) := by simp [h]
    go_wp2
    go_ret
    rw [hd]
    exact ⟨rfl, rfl⟩
  · have hd : (decide (v < 5) && (x == 0)) = false := by simp [h]
    go_wp2
    go_ret
    exact ⟨rfl, rfl⟩

theorem some_later {W w9 : World} {b o : Nat} (hb : Below W.heap.size W w9) (h : ∃ v, W.cell? ⟨b, o, none⟩ = some v) : ∃ v, w9.cell? ⟨b, o, none⟩ = some v := by
  obtain ⟨v, h⟩ := h
  exact ⟨v, cell_later hb h⟩
theorem froz_later {W w9 : World} {b o : Nat} (hb : Below W.heap.size W w9) (h : ∃ v, W.cell? ⟨b, o, none⟩ = some v) (hz : W.frozen? ⟨b, o, none⟩ = false) : w9.frozen? ⟨b, o, none⟩ = false := by
  obtain ⟨v, h⟩ := h
  exact (hb.frozen (World.block_lt_of_cell? _ _ h)).trans hz
theorem some_set {w : World} {a b : Addr} {u : Value} (h : ∃ v, w.cell? b = some v) : ∃ v, (w.setCell a u).cell? b = some v := by
  obtain ⟨v, h⟩ := h
  by_cases e : a = b
  · subst e; exact ⟨u, World.cell?_setCell_same _ _ _ h⟩
  · exact ⟨v, (World.cell?_setCell_other _ _ _ _ e).trans h⟩

set_option maxHeartbeats 1000000 in
theorem plain_any (n s : Int) (h0 : 0 ≤ n) (h1 : n < 1000000000) (h2 : 0 ≤ s) (h3 : s ≤ 100000000000) (w : World) :
    Calls Tryz.prog 29 #[.agg #[.int .u64 n, .int .i64 s, .pointer none]] w fun e w' => e = .returned (.agg #[.int .i64 (s - 62135596800), .int .i64 n]) ∧ Below w.heap.size w w' := by
  go_enter Tryz.func29, Tryz.ntmps29
  go_wp2_with fail
  have hne : w.heap.size ≠ w.heap.size + 1 := by omega
  have kA0 : ((w.alloc (.cells #[.int .u64 n, .int .i64 s, .pointer none] 61)).alloc (.cells #[.int .i64 0, .int .i64 0] 27)).drew.cell? ⟨w.heap.size + 1, 0, none⟩ = some (.int .i64 0) := by simp [go_sem]
  have kA1 : ((w.alloc (.cells #[.int .u64 n, .int .i64 s, .pointer none] 61)).alloc (.cells #[.int .i64 0, .int .i64 0] 27)).drew.cell? ⟨w.heap.size + 1, 1, none⟩ = some (.int .i64 0) := by simp [go_sem]
  have fA : ∀ k, ((w.alloc (.cells #[.int .u64 n, .int .i64 s, .pointer none] 61)).alloc (.cells #[.int .i64 0, .int .i64 0] 27)).drew.frozen? ⟨w.heap.size + 1, k, none⟩ = false := fun k => by simp [go_sem]
  have hz : w.heap.size < w.heap.size + 1 := by omega
  go_region_held2? (fun w' => Below w.heap.size w w' ∧ w.heap.size + 2 ≤ w'.heap.size ∧ w'.cell? ⟨w.heap.size, 0, none⟩ = some (.int .u64 n) ∧ w'.cell? ⟨w.heap.size, 1, none⟩ = some (.int .i64 s) ∧ w'.cell? ⟨w.heap.size, 2, none⟩ = some (.pointer none))
    (first | assumption | (refine ⟨by go_grown, by simp [World.size_alloc], ?_, ?_, ?_⟩ <;> (simp [go_sem]; done)) | (go_split_ands; exact ⟨keepBelow (by assumption) hb, Nat.le_trans (by assumption) hb.size, cell_later hb (by assumption), cell_later hb (by assumption), cell_later hb (by assumption)⟩) | (go_split_ands; refine ⟨(Below.setCell (by assumption) (by simp) _).setCell (by simp) _, ?_, ?_, ?_, ?_⟩ <;> (simp [go_sem, *]; done)))
    (first | (go_at_call 43; refine (unix_any n s h0 h1 h2 h3 _).mono ?_; rintro e w9 ⟨rfl, hb⟩; have lA := World.block_lt_of_cell? _ _ kA0; have fA := fun k => (hb.frozen (p := ⟨w.heap.size + 1, k, none⟩) lA).trans (fA k); have kA0 := cell_later hb kA0; have kA1 := cell_later hb kA1) | (go_at_call 44; refine (nanos_any n s h0 h1 _).mono ?_; rintro e w9 ⟨rfl, hb⟩; have lA := World.block_lt_of_cell? _ _ kA0; have fA := fun k => (hb.frozen (p := ⟨w.heap.size + 1, k, none⟩) lA).trans (fA k); have kA0 := cell_later hb kA0; have kA1 := cell_later hb kA1))
  go_wp2_with fail
  go_split_ands
  exact bodyPost_ret (v := .agg #[.int .i64 (s - 62135596800), .int .i64 n]) (by simp [results, Tryz.results29, go_sem, kA0, kA1]) rfl ⟨rfl, by assumption⟩

end Go.Proofs.YtgifkanoghmijaaGreatDoor
