/- Contracts of Equal, Before, Sub of the package time. -/
import Derived.Test.YtgifkanoghmijaaGreatDoorAdd
import Derived.Deep.RegionHeld3
namespace Go.Proofs.YtgifkanoghmijaaGreatDoor
open Go.RowKit

def eqT (n s m u : Int) : Bool := decide (s = u ∧ n = m)
def ltT (n s m u : Int) : Bool := decide (s < u ∨ s = u ∧ n < m)
theorem keepBelow {w W w1 : World} (h : Below w.heap.size w W) (hb : Below W.heap.size W w1) : Below w.heap.size w w1 := h.trans (hb.mono h.size)
theorem retB {a b : Bool} (h : a = b) : Ending.returned (.bool b) = Ending.returned (.bool a) := by rw [h]

set_option maxRecDepth 100000 in
set_option maxHeartbeats 400000 in
theorem equal_any (n s m u : Int) (h0 : 0 ≤ n) (h1 : n < 1000000000) (h2 : 0 ≤ m) (h3 : m < 1000000000) (w : World) :
    Calls Tryz.prog 47 #[.agg #[.int .u64 n, .int .i64 s, .pointer none], .agg #[.int .u64 m, .int .i64 u, .pointer none]] w fun e w' => e = .returned (.bool (eqT n s m u)) ∧ Below w.heap.size w w' := by
  have q1 := and30 n h0 (by omega)
  have q2 : n % 1073741824 = n := by omega
  have q3 := and30 m h2 (by omega)
  have q4 : m % 1073741824 = m := by omega
  have q5 := andTop n h0 (by omega)
  have q6 := andTop m h2 (by omega)
  have q7 : bits .and .u64 (bits .and .u64 n m) 9223372036854775808 = 0 := andAnd n m h0 (by omega) h2 (by omega)
  by_cases hs : s = u
  · have hs' : (s == u) = true := by simpa using hs
    have hH : Hid (s = u) := hidden hs
    clear hs
    by_cases hn : n = m
    · have hn' : (n == m) = true := by simpa using hn
      have hN : Hid (n = m) := hidden hn
      clear hn
      go_enter Tryz.func47, Tryz.ntmps47
      go_wp2
      go_returns
      exact ⟨retB (decide_eq_true ⟨hH.out, hN.out⟩), by go_grown⟩
    · have hn' : (n == m) = false := by simpa using hn
      have hN : Hid (¬ n = m) := hidden hn
      clear hn
      go_enter Tryz.func47, Tryz.ntmps47
      go_wp2
      go_returns
      exact ⟨retB (decide_eq_false (fun h => hN.out h.2)), by go_grown⟩
  · have hs' : (s == u) = false := by simpa using hs
    have hH : Hid (¬ s = u) := hidden hs
    clear hs
    go_enter Tryz.func47, Tryz.ntmps47
    go_wp2
    go_returns
    exact ⟨retB (decide_eq_false (fun h => hH.out h.1)), by go_grown⟩

set_option maxRecDepth 100000 in
set_option maxHeartbeats 400000 in
theorem before_any (n s m u : Int) (h0 : 0 ≤ n) (h1 : n < 1000000000) (h2 : 0 ≤ m) (h3 : m < 1000000000) (w : World) :
    Calls Tryz.prog 51 #[.agg #[.int .u64 n, .int .i64 s, .pointer none], .agg #[.int .u64 m, .int .i64 u, .pointer none]] w fun e w' => e = .returned (.bool (ltT n s m u)) ∧ Below w.heap.size w w' := by
  have q1 := and30 n h0 (by omega)
  have q2 : n % 1073741824 = n := by omega
  have q3 := and30 m h2 (by omega)
  have q4 : m % 1073741824 = m := by omega
  have q5 := andTop n h0 (by omega)
  have q6 := andTop m h2 (by omega)
  have q7 : bits .and .u64 (bits .and .u64 n m) 9223372036854775808 = 0 := andAnd n m h0 (by omega) h2 (by omega)
  by_cases hl : s < u
  · go_enter Tryz.func51, Tryz.ntmps51
    go_wp2
    go_returns
    exact ⟨retB (decide_eq_true (Or.inl hl)), by go_grown⟩
  by_cases hs : s = u
  · have hs' : (s == u) = true := by simpa using hs
    have hH : Hid (s = u) := hidden hs
    clear hs
    by_cases hn : n < m
    · go_enter Tryz.func51, Tryz.ntmps51
      go_wp2
      go_returns
      exact ⟨retB (decide_eq_true (Or.inr ⟨hH.out, hn⟩)), by go_grown⟩
    · have hd : Hid (ltT n s m u = false) := hidden (decide_eq_false (by omega))
      go_enter Tryz.func51, Tryz.ntmps51
      go_wp2
      go_returns
      exact ⟨retB (hd.out), by go_grown⟩
  · have hs' : (s == u) = false := by simpa using hs
    have hd : Hid (ltT n s m u = false) := hidden (decide_eq_false (by omega))
    clear hs
    go_enter Tryz.func51, Tryz.ntmps51
    go_wp2
    go_returns
    exact ⟨retB (hd.out), by go_grown⟩

set_option maxRecDepth 100000 in
set_option maxHeartbeats 800000 in
theorem sub_any (n s m u : Int) (h0 : 0 ≤ n) (h1 : n < 1000000000) (h2 : 0 ≤ m) (h3 : m < 1000000000) (_s0 : -70000000000 ≤ s) (_s1 : s ≤ 70000000000) (u0 : -70000000000 ≤ u) (u1 : u ≤ 70000000000)
    (d0 : -9000000000 ≤ s - u) (d1 : s - u ≤ 9000000000) (w : World) :
    Calls Tryz.prog 50 #[.agg #[.int .u64 n, .int .i64 s, .pointer none], .agg #[.int .u64 m, .int .i64 u, .pointer none]] w fun e w' => e = .returned (.int .i64 ((s - u) * 1000000000 + (n - m))) ∧ Below w.heap.size w w' := by
  have q1 := and30 n h0 (by omega)
  have q2 : n % 1073741824 = n := by omega
  have q3 := and30 m h2 (by omega)
  have q4 : m % 1073741824 = m := by omega
  have q5 := andTop n h0 (by omega)
  have q6 := andTop m h2 (by omega)
  have q7 : bits .and .u64 (bits .and .u64 n m) 9223372036854775808 = 0 := andAnd n m h0 (by omega) h2 (by omega)
  go_enter Tryz.func50, Tryz.ntmps50
  go_wp2_with (first | (go_at_call 59; go_in) | (go_at_call 58; go_in))
  go_region_held3 (fun w' => Below w.heap.size w w' ∧ w'.cell? ⟨w.heap.size, 0, none⟩ = some (.int .u64 n) ∧ w'.cell? ⟨w.heap.size, 1, none⟩ = some (.int .i64 s) ∧ w'.cell? ⟨w.heap.size, 2, none⟩ = some (.pointer none) ∧ w'.cell? ⟨w.heap.size + 1, 0, none⟩ = some (.int .u64 m) ∧ w'.cell? ⟨w.heap.size + 1, 1, none⟩ = some (.int .i64 u) ∧ w'.cell? ⟨w.heap.size + 1, 2, none⟩ = some (.pointer none))
    (first | (refine ⟨by go_grown, ?_, ?_, ?_, ?_, ?_, ?_⟩ <;> (simp [go_sem]; done)) | (go_split_ands; refine ⟨keepBelow (by assumption) hb, cell_later hb (by assumption), cell_later hb (by assumption), cell_later hb (by assumption), cell_later hb (by assumption), cell_later hb (by assumption), cell_later hb (by assumption)⟩))
    (first | (go_at_call 63; refine (add_any m u _ h2 h3 ?_ ?_ ?_ ?_ _).mono ?_; (focus omega); (focus omega); (focus omega); (focus omega); rintro e w1 ⟨n', s', f0, f1, f2, rfl, hb⟩)
           | (go_at_call 47; refine (equal_any _ _ n s ?_ ?_ h0 h1 _).mono ?_; (focus assumption); (focus assumption); rintro e w1 ⟨rfl, hb⟩))
  have he : eqT n' s' n s = true := decide_eq_true (by omega)
  rw [he]
  clear he f2
  go_wp2
  go_returns
  go_split_ands
  exact ⟨rfl, by assumption⟩

end Go.Proofs.YtgifkanoghmijaaGreatDoor
