/- Contracts of the package time's functions, as they are called here: a time is its nanoseconds within the second, its seconds and no place. -/
import Derived.Test.YtgifkanoghmijaaGreatDoorProg
import Derived.Test.YtgifkanoghmijaaGreatDoorPlain
import Derived.WalkKit
import Derived.WalkSpells
import Derived.WalkLawsBesides
import Derived.Handy
namespace Go.Proofs.YtgifkanoghmijaaGreatDoor
open Go.RowKit

/-- A time of T nanoseconds since the year 1 comes back; old memory is as it was. -/
def RetTime (T : Int) (w : World) (e : Ending) (w' : World) : Prop :=
  ∃ n s : Int, 0 ≤ n ∧ n < 1000000000 ∧ s * 1000000000 + n = T ∧ e = .returned (.agg #[.int .u64 n, .int .i64 s, .pointer none]) ∧ Below w.heap.size w w'

theorem bcell {W w1 : World} (hb : Below W.heap.size W w1) : (∀ b o, b < W.heap.size → w1.cell? ⟨b, o, none⟩ = W.cell? ⟨b, o, none⟩) ∧ (∀ b o, b < W.heap.size → w1.frozen? ⟨b, o, none⟩ = W.frozen? ⟨b, o, none⟩) :=
  ⟨fun b o h => hb.cell (p := ⟨b, o, none⟩) h, fun b o h => hb.frozen (p := ⟨b, o, none⟩) h⟩

set_option maxHeartbeats 400000 in
theorem nsec_any (b o : Nat) (n : Int) (h0 : 0 ≤ n) (h1 : n < 1000000000) (w : World) (hc : w.cell? ⟨b, o, none⟩ = some (.int .u64 n)) :
    Calls Tryz.prog 58 #[.pointer (some ⟨b, o, none⟩)] w fun e w' => e = .returned (.int .i32 n) ∧ w = w' := by
  have q1 := and30 n h0 (by omega)
  have q2 : n % 1073741824 = n := by omega
  go_enter Tryz.func58, Tryz.ntmps58
  go_wp2
  go_ret
  exact ⟨rfl, rfl⟩

set_option maxHeartbeats 400000 in
theorem sec_any (b o : Nat) (n s : Int) (h0 : 0 ≤ n) (h1 : n < 1000000000) (w : World) (hc : w.cell? ⟨b, o, none⟩ = some (.int .u64 n)) (hs : w.cell? ⟨b, o + 1, none⟩ = some (.int .i64 s)) :
    Calls Tryz.prog 59 #[.pointer (some ⟨b, o, none⟩)] w fun e w' => e = .returned (.int .i64 s) ∧ w = w' := by
  have q1 := andTop n h0 (by omega)
  go_enter Tryz.func59, Tryz.ntmps59
  go_wp2
  go_ret
  exact ⟨rfl, rfl⟩

set_option maxRecDepth 100000 in
set_option maxHeartbeats 400000 in
theorem given_any (s n : Int) (h0 : 0 ≤ n) (h1 : n < 1000000000) (h2 : -2208988800 ≤ s) (h3 : s < 4000000000) (w : World) :
    Calls Tryz.prog 41 #[.agg #[.int .i64 s, .int .i64 n]] w fun e w' => e = .returned (.agg #[.int .u64 n, .int .i64 (s + 62135596800), .pointer none]) ∧ Below w.heap.size w w' := by
  have q1 := and30 n h0 (by omega)
  have q2 : n % 1073741824 = n := by omega
  have q3 := andTop n h0 (by omega)
  go_enter Tryz.func41, Tryz.ntmps41
  go_wp2
  go_returns
  refine ⟨rfl, ?_⟩
  go_grown

set_option maxRecDepth 100000 in
set_option maxHeartbeats 400000 in
theorem lookup_any (b : Nat) (x : Int) (w : World) (h2 : w.cell? ⟨b, 2, none⟩ = some (.slice none 0 0)) :
    Calls Tryz.prog 82 #[.pointer (some ⟨b, 0, none⟩), .int .i64 x] w fun e w' => e = .returned (.tuple #[.string ⟨#[85, 84, 67]⟩, .int .i64 0, .int .i64 (-9223372036854775808), .int .i64 9223372036854775807, .bool false]) ∧ w = w' := by
  go_enter Tryz.func82, Tryz.ntmps82
  go_wp2
  refine bodyPost_ret (v := .tuple #[.string ⟨#[85, 84, 67]⟩, .int .i64 0, .int .i64 (-9223372036854775808), .int .i64 9223372036854775807, .bool false]) (by simp [results, Tryz.results82, go_sem]) rfl ⟨rfl, rfl⟩

set_option maxRecDepth 100000 in
set_option maxHeartbeats 400000 in
theorem era0_any (w : World) :
    Calls Tryz.prog 48 #[] w fun e w' => e = .returned (.agg #[.int .u64 0, .int .i64 59926608000, .pointer none]) ∧ Below w.heap.size w w' := by
  go_enter Tryz.func48, Tryz.ntmps48
  go_wp2_with (first | (go_at_call 82; refine (lookup_any _ _ _ ?h2).mono ?_; (case h2 => (simp [go_sem])); rintro e w1 ⟨rfl, rfl⟩) | go_in)
  go_returns
  refine ⟨rfl, ?_⟩
  go_grown

end Go.Proofs.YtgifkanoghmijaaGreatDoor
