/- The Response literal of queryV4, built of its parts. -/
import Derived.Test.YtgifkanoghmijaaGreatDoorParse
import Derived.Test.YtgifkanoghmijaaGreatDoorHeld
import Derived.Laws.Tables
namespace Go.Proofs.YtgifkanoghmijaaGreatDoor
open Go.RowKit

theorem build_stamps (n1 s1 n2 s2 n3 s3 n4 s4 : Int) (w : World) :
    (heldBuild 63 #[(0, .agg #[.int .u64 n1, .int .i64 s1, .pointer none]), (1, .agg #[.int .u64 n2, .int .i64 s2, .pointer none]), (2, .agg #[.int .u64 n3, .int .i64 s3, .pointer none]), (3, .agg #[.int .u64 n4, .int .i64 s4, .pointer none])]).run Tryz.prog w
      = .ok (.agg #[.int .u64 n1, .int .i64 s1, .pointer none, .int .u64 n2, .int .i64 s2, .pointer none, .int .u64 n3, .int .i64 s3, .pointer none, .int .u64 n4, .int .i64 s4, .pointer none]) w :=
  run_build w _ _ _ (by kernel_rfl)

theorem build_resp (o d n1 s1 n2 s2 n3 s3 n4 s4 p v st er id n5 s5 rd rp le me po : Int) (w : World) :
    (heldBuild 75 #[(0, .int .i64 o), (1, .int .i64 d), (2, .agg #[.int .u64 n1, .int .i64 s1, .pointer none, .int .u64 n2, .int .i64 s2, .pointer none, .int .u64 n3, .int .i64 s3, .pointer none, .int .u64 n4, .int .i64 s4, .pointer none]),
        (3, .int .i64 p), (4, .int .i64 v), (5, .int .u8 st), (8, .int .u8 er), (6, .int .u8 0), (9, .int .u32 id), (11, .agg #[.int .u64 n5, .int .i64 s5, .pointer none]), (16, .int .i64 rd), (17, .int .i64 rp), (19, .int .u8 le), (20, .int .i64 me), (22, .int .i64 po), (23, .int .u32 0), (25, .agg #[.int .u64 n3, .int .i64 s3, .pointer none])]).run Tryz.prog w
      = .ok (.agg #[.int .i64 o, .int .i64 d, .int .u64 n1, .int .i64 s1, .pointer none, .int .u64 n2, .int .i64 s2, .pointer none, .int .u64 n3, .int .i64 s3, .pointer none, .int .u64 n4, .int .i64 s4, .pointer none,
          .int .i64 p, .int .i64 v, .int .u8 st, .int .u8 0, .slice none 0 0, .int .u8 er, .int .u32 id, .slice none 0 0, .int .u64 n5, .int .i64 s5, .pointer none, .int .i64 0, .int .u32 0, .int .i64 0, .int .u16 0, .int .i64 0, .int .u16 0, .slice none 0 0,
          .int .i64 rd, .int .i64 rp, .int .i64 0, .int .u8 le, .int .i64 me, .string ByteArray.empty, .int .i64 po, .int .u32 0, .int .u64 0, .int .u64 n3, .int .i64 s3, .pointer none, .nilIface]) w :=
  run_build w _ _ _ (by kernel_rfl)

theorem mid_end {o d n1 s1 n2 s2 n3 s3 n4 s4 p v st er id n5 s5 rd rp le me po : Int} {t : TypeId} {R : Nat} {w w' : World} (hR : R = w.heap.size)
    (hw : w' = w.alloc (.cells #[.int .i64 o, .int .i64 d, .int .u64 n1, .int .i64 s1, .pointer none, .int .u64 n2, .int .i64 s2, .pointer none, .int .u64 n3, .int .i64 s3, .pointer none, .int .u64 n4, .int .i64 s4, .pointer none, .int .i64 p, .int .i64 v, .int .u8 st, .int .u8 0, .slice none 0 0, .int .u8 er, .int .u32 id, .slice none 0 0, .int .u64 n5, .int .i64 s5, .pointer none, .int .i64 0, .int .u32 0, .int .i64 0, .int .u16 0, .int .i64 0, .int .u16 0, .slice none 0 0, .int .i64 rd, .int .i64 rp, .int .i64 0, .int .u8 le, .int .i64 me, .string ByteArray.empty, .int .i64 po, .int .u32 0, .int .u64 0, .int .u64 n3, .int .i64 s3, .pointer none, .nilIface] t)) :
    w'.cell? ⟨R, 0, none⟩ = some (.int .i64 o) ∧ w'.cell? ⟨R, 1, none⟩ = some (.int .i64 d) ∧ w'.cell? ⟨R, 2, none⟩ = some (.int .u64 n1) ∧ w'.cell? ⟨R, 3, none⟩ = some (.int .i64 s1) ∧ w'.cell? ⟨R, 4, none⟩ = some (.pointer none) ∧ w'.cell? ⟨R, 5, none⟩ = some (.int .u64 n2) ∧ w'.cell? ⟨R, 6, none⟩ = some (.int .i64 s2) ∧ w'.cell? ⟨R, 7, none⟩ = some (.pointer none) ∧ w'.cell? ⟨R, 8, none⟩ = some (.int .u64 n3) ∧ w'.cell? ⟨R, 9, none⟩ = some (.int .i64 s3) ∧ w'.cell? ⟨R, 10, none⟩ = some (.pointer none) ∧ w'.cell? ⟨R, 11, none⟩ = some (.int .u64 n4) ∧ w'.cell? ⟨R, 12, none⟩ = some (.int .i64 s4) ∧ w'.cell? ⟨R, 13, none⟩ = some (.pointer none) ∧ w'.cell? ⟨R, 14, none⟩ = some (.int .i64 p) ∧ w'.cell? ⟨R, 15, none⟩ = some (.int .i64 v) ∧ w'.cell? ⟨R, 16, none⟩ = some (.int .u8 st) ∧ w'.cell? ⟨R, 17, none⟩ = some (.int .u8 0) ∧ w'.cell? ⟨R, 18, none⟩ = some (.slice none 0 0) ∧ w'.cell? ⟨R, 19, none⟩ = some (.int .u8 er) ∧ w'.cell? ⟨R, 20, none⟩ = some (.int .u32 id) ∧ w'.cell? ⟨R, 21, none⟩ = some (.slice none 0 0) ∧ w'.cell? ⟨R, 22, none⟩ = some (.int .u64 n5) ∧ w'.cell? ⟨R, 23, none⟩ = some (.int .i64 s5) ∧ w'.cell? ⟨R, 24, none⟩ = some (.pointer none) ∧ w'.cell? ⟨R, 32, none⟩ = some (.int .i64 rd) ∧ w'.cell? ⟨R, 33, none⟩ = some (.int .i64 rp) ∧ w'.cell? ⟨R, 34, none⟩ = some (.int .i64 0) ∧ w'.cell? ⟨R, 35, none⟩ = some (.int .u8 le) ∧ w'.cell? ⟨R, 36, none⟩ = some (.int .i64 me) ∧ w'.cell? ⟨R, 37, none⟩ = some (.string ByteArray.empty) ∧ w'.cell? ⟨R, 38, none⟩ = some (.int .i64 po) ∧ w'.cell? ⟨R, 39, none⟩ = some (.int .u32 0) ∧ w'.cell? ⟨R, 40, none⟩ = some (.int .u64 0) ∧ w'.cell? ⟨R, 41, none⟩ = some (.int .u64 n3) ∧ w'.cell? ⟨R, 42, none⟩ = some (.int .i64 s3) ∧ w'.cell? ⟨R, 43, none⟩ = some (.pointer none) ∧ w'.cell? ⟨R, 44, none⟩ = some (.nilIface) := by
  subst hR
  subst hw
  refine ⟨?_, ?_, ?_, ?_, ?_, ?_, ?_, ?_, ?_, ?_, ?_, ?_, ?_, ?_, ?_, ?_, ?_, ?_, ?_, ?_, ?_, ?_, ?_, ?_, ?_, ?_, ?_, ?_, ?_, ?_, ?_, ?_, ?_, ?_, ?_, ?_, ?_, ?_⟩ <;> exact World.cell?_alloc_new _ _ _ _

end Go.Proofs.YtgifkanoghmijaaGreatDoor
