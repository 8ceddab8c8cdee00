/- Contracts of Add, Equal, Before, Sub of the package time. -/
import Derived.Test.YtgifkanoghmijaaGreatDoorTime
namespace Go.Proofs.YtgifkanoghmijaaGreatDoor
open Go.RowKit

set_option maxRecDepth 100000 in
set_option maxHeartbeats 400000 in
theorem addSec_any (b o : Nat) (n s d : Int) (h0 : 0 ≤ n) (h1 : n < 1000000000) (h2 : -100000000000 ≤ s) (h3 : s ≤ 100000000000) (d0 : -100000000000 ≤ d) (d1 : d ≤ 100000000000) (w : World)
    (hc : w.cell? ⟨b, o, none⟩ = some (.int .u64 n)) (hs : w.cell? ⟨b, o + 1, none⟩ = some (.int .i64 s)) (hf : w.frozen? ⟨b, o + 1, none⟩ = false) :
    Calls Tryz.prog 83 #[.pointer (some ⟨b, o, none⟩), .int .i64 d] w fun e w' => e = .returned (.tuple #[]) ∧ w.setCell ⟨b, o + 1, none⟩ (.int .i64 (s + d)) = w' := by
  have q3 := andTop n h0 (by omega)
  by_cases hd : 0 < d
  · have k1 : s < s + d := by omega
    go_enter Tryz.func83, Tryz.ntmps83
    go_wp2
    go_returns
    exact ⟨rfl, rfl⟩
  · have k1 : ¬ s < s + d := by omega
    go_enter Tryz.func83, Tryz.ntmps83
    go_wp2
    go_returns
    exact ⟨rfl, rfl⟩

theorem hidden {p : Prop} (h : p) : Hid p := h

set_option maxRecDepth 100000 in
set_option maxHeartbeats 400000 in
theorem add_core (n s d q r : Int) (h0 : 0 ≤ n) (h1 : n < 1000000000) (h2 : -90000000000 ≤ s) (h3 : s ≤ 90000000000) (_d0 : -9223372036854775808 ≤ d) (_d1 : d ≤ 9223372036854775807)
    (eq : d.tdiv 1000000000 = q) (er : d.tmod 1000000000 = r) (b0 : -9223372037 ≤ q) (b1 : q ≤ 9223372037) (r0 : -1000000000 < r) (r1 : r < 1000000000) (hd : q * 1000000000 + r = d) (w : World) :
    Calls Tryz.prog 63 #[.agg #[.int .u64 n, .int .i64 s, .pointer none], .int .i64 d] w (RetTime (s * 1000000000 + n + d) w) := by
  have q4 := andnot30 n h0 (by omega)
  by_cases hx : 1000000000 ≤ n + r
  · have hy : n + r < 2000000000 := by omega
    have q6 := or0 (n + r - 1000000000) (by omega) (by omega)
    have q7 := andTop (n + r - 1000000000) (by omega) (by omega)
    have hT : Hid ((s + (q + 1)) * 1000000000 + (n + r - 1000000000) = s * 1000000000 + n + d) := hidden (by omega)
    have hN : Hid (0 ≤ n + r - 1000000000 ∧ n + r - 1000000000 < 1000000000) := hidden (by omega)
    clear hd
    go_enter Tryz.func63, Tryz.ntmps63
    go_wp2_with fail
    refine (nsec_any _ _ n h0 h1 _ ?_).mono ?_
    · simp [go_sem]
    rintro e w1 ⟨rfl, rfl⟩
    go_wp2_with fail
    refine (addSec_any _ _ (n + r - 1000000000) s _ ?_ ?_ ?_ ?_ ?_ ?_ _ ?_ ?_ ?_).mono ?_
    · exact hN.out.1
    · exact hN.out.2
    · omega
    · omega
    · omega
    · omega
    · simp [go_sem]
    · simp [go_sem]
    · simp [go_sem]
    rintro e w1 ⟨rfl, rfl⟩
    go_wp2
    go_returns
    exact ⟨_, _, hN.out.1, hN.out.2, hT.out, rfl, by go_grown⟩
  by_cases hz : n + r < 0
  · have hy : -1000000000 < n + r := by omega
    have q6 := or0 (n + r + 1000000000) (by omega) (by omega)
    have q7 := andTop (n + r + 1000000000) (by omega) (by omega)
    have hT : Hid ((s + (q - 1)) * 1000000000 + (n + r + 1000000000) = s * 1000000000 + n + d) := hidden (by omega)
    have hN : Hid (0 ≤ n + r + 1000000000 ∧ n + r + 1000000000 < 1000000000) := hidden (by omega)
    clear hd
    go_enter Tryz.func63, Tryz.ntmps63
    go_wp2_with fail
    refine (nsec_any _ _ n h0 h1 _ ?_).mono ?_
    · simp [go_sem]
    rintro e w1 ⟨rfl, rfl⟩
    go_wp2_with fail
    refine (addSec_any _ _ (n + r + 1000000000) s _ ?_ ?_ ?_ ?_ ?_ ?_ _ ?_ ?_ ?_).mono ?_
    · exact hN.out.1
    · exact hN.out.2
    · omega
    · omega
    · omega
    · omega
    · simp [go_sem]
    · simp [go_sem]
    · simp [go_sem]
    rintro e w1 ⟨rfl, rfl⟩
    go_wp2
    go_returns
    exact ⟨_, _, hN.out.1, hN.out.2, hT.out, rfl, by go_grown⟩
  · have hx' : n + r < 1000000000 := by omega
    have hz' : 0 ≤ n + r := by omega
    clear hx hz
    have q6 := or0 (n + r) (by omega) (by omega)
    have q7 := andTop (n + r) (by omega) (by omega)
    have hT : Hid ((s + q) * 1000000000 + (n + r) = s * 1000000000 + n + d) := hidden (by omega)
    have hN : Hid (0 ≤ n + r ∧ n + r < 1000000000) := hidden (by omega)
    clear hd
    go_enter Tryz.func63, Tryz.ntmps63
    go_wp2_with fail
    refine (nsec_any _ _ n h0 h1 _ ?_).mono ?_
    · simp [go_sem]
    rintro e w1 ⟨rfl, rfl⟩
    go_wp2_with fail
    refine (addSec_any _ _ (n + r) s _ ?_ ?_ ?_ ?_ ?_ ?_ _ ?_ ?_ ?_).mono ?_
    · exact hN.out.1
    · exact hN.out.2
    · omega
    · omega
    · omega
    · omega
    · simp [go_sem]
    · simp [go_sem]
    · simp [go_sem]
    rintro e w1 ⟨rfl, rfl⟩
    go_wp2
    go_returns
    exact ⟨_, _, hN.out.1, hN.out.2, hT.out, rfl, by go_grown⟩

set_option maxHeartbeats 400000 in
theorem add_any (n s d : Int) (h0 : 0 ≤ n) (h1 : n < 1000000000) (h2 : -90000000000 ≤ s) (h3 : s ≤ 90000000000) (d0 : -9223372036854775808 ≤ d) (d1 : d ≤ 9223372036854775807) (w : World) :
    Calls Tryz.prog 63 #[.agg #[.int .u64 n, .int .i64 s, .pointer none], .int .i64 d] w (RetTime (s * 1000000000 + n + d) w) := by
  have e1 := Int.mul_tdiv_add_tmod d 1000000000
  have e2 := Int.tmod_lt_of_pos d (b := 1000000000) (by decide)
  have e3 : -1000000000 < d.tmod 1000000000 := by
    have := Int.tmod_lt_of_pos (-d) (b := 1000000000) (by decide)
    rw [Int.neg_tmod] at this
    omega
  exact add_core n s d _ _ h0 h1 h2 h3 d0 d1 rfl rfl (by omega) (by omega) e3 e2 (by omega) w

end Go.Proofs.YtgifkanoghmijaaGreatDoor
