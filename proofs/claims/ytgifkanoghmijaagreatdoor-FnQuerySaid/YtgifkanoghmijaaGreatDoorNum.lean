/- Contracts of the package ntp's functions that only reckon with numbers. -/
import Derived.Test.YtgifkanoghmijaaGreatDoorProg
import Derived.Test.YtgifkanoghmijaaGreatDoorPlain
import Derived.WalkKit
import Derived.WalkSpells
import Derived.WalkLawsBesides
import Derived.Handy
namespace Go.Proofs.YtgifkanoghmijaaGreatDoor
open Go.RowKit

theorem hidI {p : Prop} (h : p) : Hid p := h
theorem retI {k : IntKind} {a b : Int} (h : a = b) : Ending.returned (.int k a) = .returned (.int k b) := by rw [h]

/-- The nanoseconds of a number of 64 bits, rounded half up. -/
def durN (n : Int) : Int := n / 4294967296 * 1000000000 + (n % 4294967296 * 1000000000 + 2147483648) / 4294967296
/-- The nanoseconds of a number of 32 bits, rounded half up. -/
def durS (n : Int) : Int := n / 65536 * 1000000000 + (n % 65536 * 1000000000 + 32768) / 65536
/-- The era that is taken for a number. -/
def eraN (n : Int) : Int := if n < 9487534653230284800 then 1 else 0

set_option maxHeartbeats 400000 in
theorem inferEra_any (n : Int) (w : World) :
    Calls Tryz.prog 71 #[.int .u64 n] w fun e w' => e = .returned (.int .u8 (eraN n)) ∧ w = w' := by
  by_cases h : n < 9487534653230284800
  · have hE : Hid (eraN n = 1) := if_pos h
    go_enter Tryz.func71, Tryz.ntmps71
    go_wp2
    go_ret
    exact ⟨retI hE.out.symm, rfl⟩
  · have hE : Hid (eraN n = 0) := if_neg h
    go_enter Tryz.func71, Tryz.ntmps71
    go_wp2
    go_ret
    exact ⟨retI hE.out.symm, rfl⟩

set_option maxHeartbeats 400000 in
theorem dur_any (n : Int) (h0 : 0 ≤ n) (h1 : n < 18446744073709551616) (w : World) :
    Calls Tryz.prog 95 #[.int .u64 n] w fun e w' => e = .returned (.int .i64 (durN n)) ∧ w = w' := by
  have f0 : 0 ≤ n % 4294967296 := by omega
  have f1 : n % 4294967296 < 4294967296 := by omega
  have g0 : 0 ≤ n / 4294967296 := by omega
  have g1 : n / 4294967296 < 4294967296 := by omega
  have q1 := and32 n h0 h1
  have q2 := and32 (n % 4294967296 * 1000000000) (by omega) (by omega)
  go_enter Tryz.func95, Tryz.ntmps95
  go_wp2
  go_ret
  exact ⟨retI (by unfold durN; omega), rfl⟩

set_option maxHeartbeats 400000 in
theorem short_any (n : Int) (h0 : 0 ≤ n) (h1 : n < 4294967296) (w : World) :
    Calls Tryz.prog 72 #[.int .u32 n] w fun e w' => e = .returned (.int .i64 (durS n)) ∧ w = w' := by
  have f0 : 0 ≤ n % 65536 := by omega
  have f1 : n % 65536 < 65536 := by omega
  have g0 : 0 ≤ n / 65536 := by omega
  have g1 : n / 65536 < 65536 := by omega
  have q1 := and16u32 n h0 h1
  have q2 := and16 (n % 65536 * 1000000000) (by omega) (by omega)
  go_enter Tryz.func72, Tryz.ntmps72
  go_wp2
  go_ret
  exact ⟨retI (by unfold durS; omega), rfl⟩

set_option maxHeartbeats 400000 in
theorem rootDistance_any (a b c : Int) (w : World) :
    Calls Tryz.prog 75 #[.int .i64 a, .int .i64 b, .int .i64 c] w fun e w' => (∃ d : Int, e = .returned (.int .i64 d)) ∧ w = w' := by
  go_enter Tryz.func75, Tryz.ntmps75
  go_wp2
  go_ret
  exact ⟨⟨_, rfl⟩, rfl⟩

/-- The nanoseconds of a power of two of seconds. -/
def ivl (t : Int) : Int := if 0 < t then wrap64 (1000000000 * 2 ^ min t.toNat 64) else 1000000000 / 2 ^ min (-t).toNat 64

set_option maxHeartbeats 400000 in
theorem toInterval_any (t : Int) (h0 : -127 ≤ t) (h1 : t ≤ 127) (w : World) :
    Calls Tryz.prog 52 #[.int .i8 t] w fun e w' => e = .returned (.int .i64 (ivl t)) ∧ w = w' := by
  by_cases hp : 0 < t
  · have hE : Hid (ivl t = wrap64 (1000000000 * 2 ^ min t.toNat 64)) := if_pos hp
    have hs : Op.shift .shl .i64 1000000000 .i64 t = pure (.int .i64 (IntKind.i64.wrap (1000000000 * 2 ^ min t.toNat 64))) := by
      unfold Op.shift; rw [if_neg (by omega)]; rfl
    go_enter Tryz.func52, Tryz.ntmps52
    go_wp2
    go_ret
    exact ⟨retI hE.out.symm, rfl⟩
  by_cases hn : t < 0
  · have hE : Hid (ivl t = 1000000000 / 2 ^ min (-t).toNat 64) := if_neg hp
    go_enter Tryz.func52, Tryz.ntmps52
    go_wp2
    go_ret
    exact ⟨retI hE.out.symm, rfl⟩
  · obtain rfl : t = 0 := by omega
    have hE : Hid (ivl 0 = 1000000000) := hidI rfl
    go_enter Tryz.func52, Tryz.ntmps52
    go_wp2
    go_ret
    exact ⟨retI hE.out.symm, rfl⟩

set_option maxHeartbeats 400000 in
theorem toInterval_dies (w : World) :
    Calls Tryz.prog 52 #[.int .i8 (-128)] w fun e w' => ∃ u v, e = .panicked [{ v := .iface u v, recovered := false }] ∧ w = w' := by
  have h1 : IntKind.i8.wrap 128 = -128 := by decide
  have h2 : Op.shift .shr .i64 1000000000 .i64 (-128) = runtimePanic (.error "negative shift amount") := rfl
  go_enter Tryz.func52, Tryz.ntmps52
  go_wp2
  exact ⟨rfl, _, _, rfl, rfl⟩
end Go.Proofs.YtgifkanoghmijaaGreatDoor
