/- The contract of ZZQuery. -/
import Derived.Test.YtgifkanoghmijaaGreatDoorQuery
namespace Go.Proofs.YtgifkanoghmijaaGreatDoor
open Go.RowKit

/-- What holds of an answer's numbers and of the client's times. -/
structure Ok (f : Nat → Int) (n1 s1 n4 s4 x0 x1 x2 x3 x4 x5 x6 x7 x8 x9 x10 : Int) : Prop where
  e0 : be f 0 1 = x0
  e1 : be f 1 1 = x1
  e2 : IntKind.i8.wrap (be f 2 1) = x2
  e3 : IntKind.i8.wrap (be f 3 1) = x3
  e4 : be f 4 4 = x4
  e5 : be f 8 4 = x5
  e6 : be f 12 4 = x6
  e7 : be f 16 8 = x7
  e8 : be f 24 8 = x8
  e9 : be f 32 8 = x9
  e10 : be f 40 8 = x10
  hf : ∀ i, i < 48 → 0 ≤ f i ∧ f i < 256
  b0 : 0 ≤ x0
  b0' : x0 < 256
  m2 : x0 % 8 = 4
  t0 : x10 ≠ 0
  t1 : x9 ≤ x10
  b1 : 0 ≤ x1
  b1' : x1 < 256
  b2 : -128 ≤ x2
  b2' : x2 ≤ 127
  b3 : -128 ≤ x3
  b3' : x3 ≤ 127
  b4 : 0 ≤ x4
  b4' : x4 < 4294967296
  b5 : 0 ≤ x5
  b5' : x5 < 4294967296
  b6 : 0 ≤ x6
  b6' : x6 < 4294967296
  b7 : 0 ≤ x7
  b7' : x7 < 18446744073709551616
  b9 : 0 ≤ x9
  b9' : x9 < 18446744073709551616
  b10 : 0 ≤ x10
  b10' : x10 < 18446744073709551616
  y9 : 62000000000000000000 ≤ timeN x9
  y9' : timeN x9 ≤ 65000000000000000000
  y10 : 62000000000000000000 ≤ timeN x10
  y10' : timeN x10 ≤ 65000000000000000000
  a1 : 0 ≤ n1
  a1' : n1 < 1000000000
  a4 : 0 ≤ n4
  a4' : n4 < 1000000000
  d1 : 62000000000 ≤ s1
  d1' : s1 ≤ 64500000000
  d4 : 62000000000 ≤ s4
  d4' : s4 ≤ 64500000000

theorem queried_later {n1 s1 n4 s4 x0 x1 x2 x3 x4 x5 x6 x7 x8 x9 x10 : Int} {w W w' : World} {e : Ending} (hB : Below w.heap.size w W) (h : Queried n1 s1 n4 s4 x0 x1 x2 x3 x4 x5 x6 x7 x8 x9 x10 W e w') : Queried n1 s1 n4 s4 x0 x1 x2 x3 x4 x5 x6 x7 x8 x9 x10 w e w' := by
  have hz := hB.size
  rcases h with ⟨h2, h3, R, he, hb, hR, hl, hr⟩ | ⟨hx, u, v, he, hb⟩
  · exact Or.inl ⟨h2, h3, R, he, keepBelow hB hb, by omega, hl, hr⟩
  · exact Or.inr ⟨hx, u, v, he, keepBelow hB hb⟩

set_option maxRecDepth 100000 in
set_option maxHeartbeats 1000000 in
theorem zz_any (f : Nat → Int) (n1 s1 n4 s4 x0 x1 x2 x3 x4 x5 x6 x7 x8 x9 x10 : Int) (K : Hid (Ok f n1 s1 n4 s4 x0 x1 x2 x3 x4 x5 x6 x7 x8 x9 x10)) (g c P : Nat) (w : World) (hm : Hid (c + 48 ≤ maxLen))
    (hb : ∀ i, i < 48 → w.cell? ⟨g, i, none⟩ = some (.int .u8 (f i))) (kP1 : w.cell? ⟨P, 1, none⟩ = some (.int .i64 0)) (kP4 : w.cell? ⟨P, 4, none⟩ = some (.bool false)) :
    Calls Tryz.prog 39 #[.slice (some ⟨g, 0, none⟩) 48 (c + 48), .int .u64 x8, .agg #[.int .u64 n1, .int .i64 s1, .pointer none], .agg #[.int .u64 n4, .int .i64 s4, .pointer none], .pointer (some ⟨P, 0, none⟩)] w
      (Queried n1 s1 n4 s4 x0 x1 x2 x3 x4 x5 x6 x7 x8 x9 x10 w) := by
  have HB := hidI hb
  clear hb
  have lP := World.block_lt_of_cell? _ _ kP1
  go_enter Tryz.func39, Tryz.ntmps39
  go_wp2_with fail
  obtain ⟨e0, e1, e2, e3, e4, e5, e6, e7, e8, e9, e10, hf, b0, b0', m2, t0, t1, b1, b1', b2, b2', b3, b3', b4, b4', b5, b5', b6, b6', b7, b7', b9, b9', b10, b10', y9, y9', y10, y10', a1, a1', a4, a4', d1, d1', d4, d4'⟩ := K.out
  refine (queryV4_any f g c P n1 s1 n4 s4 x0 x1 x2 x3 x4 x5 x6 x7 x8 x9 x10 (hidI e0) (hidI e1) (hidI e2) (hidI e3) (hidI e4) (hidI e5) (hidI e6) (hidI e7) (hidI e8) (hidI e9) (hidI e10) hm.out b0 b0' m2 t0 t1 b1 b1' b2 b2' b3 b3' b4 b4' b5 b5' b6 b6' b7 b7' b9 b9' b10 b10' y9 y9' y10 y10' a1 a1' a4 a4' d1 d1' d4 d4' _ (fun i hi => cell_later (w := w) (by go_grown) (HB.out i hi)) hf (cell_later (w := w) (by go_grown) kP1) (cell_later (w := w) (by go_grown) kP4)).mono ?_
  clear e0 e1 e2 e3 e4 e5 e6 e7 e8 e9 e10 hf b0 b0' m2 t0 t1 b1 b1' b2 b2' b3 b3' b4 b4' b5 b5' b6 b6' b7 b7' b9 b9' b10 b10' y9 y9' y10 y10' a1 a1' a4 a4' d1 d1' d4 d4'
  intro e w1 h
  have h' := queried_later (w := w) (by go_grown) h
  clear h
  rcases h' with ⟨h2, h3, R, rfl, hB, hR, hl, hr⟩ | ⟨hx, u, v, rfl, hB⟩
  · have HR := hidI hr
    clear hr
    go_wp2_with fail
    go_ret2
    exact Or.inl ⟨h2, h3, R, rfl, hB, hR, hl, HR.out⟩
  · exact ⟨rfl, Or.inr ⟨hx, u, v, rfl, hB⟩⟩

end Go.Proofs.YtgifkanoghmijaaGreatDoor
