/- The contract of parseV4Response: the eleven fields of an answer's header. -/
import Derived.Test.YtgifkanoghmijaaGreatDoorRead
import Derived.Deep.QuietTactic
import Derived.BigQuiet
import Derived.Test.YtgifkanoghmijaaGreatDoorSub
namespace Go.Proofs.YtgifkanoghmijaaGreatDoor
open Go.RowKit

/-- A message comes back in new memory, with these eleven numbers. -/
def Parsed (x0 x1 x2 x3 x4 x5 x6 x7 x8 x9 x10 : Int) (w : World) (e : Ending) (w' : World) : Prop :=
  ∃ M : Nat, e = .returned (.tuple #[.pointer (some ⟨M, 0, none⟩), .nilIface]) ∧ Below w.heap.size w w' ∧ w.heap.size ≤ M ∧ M < w'.heap.size ∧ w'.cell? ⟨M, 0, none⟩ = some (.int .u8 x0) ∧ w'.cell? ⟨M, 1, none⟩ = some (.int .u8 x1) ∧ w'.cell? ⟨M, 2, none⟩ = some (.int .i8 x2) ∧ w'.cell? ⟨M, 3, none⟩ = some (.int .i8 x3) ∧ w'.cell? ⟨M, 4, none⟩ = some (.int .u32 x4) ∧ w'.cell? ⟨M, 5, none⟩ = some (.int .u32 x5) ∧ w'.cell? ⟨M, 6, none⟩ = some (.int .u32 x6) ∧ w'.cell? ⟨M, 7, none⟩ = some (.int .u64 x7) ∧ w'.cell? ⟨M, 8, none⟩ = some (.int .u64 x8) ∧ w'.cell? ⟨M, 9, none⟩ = some (.int .u64 x9) ∧ w'.cell? ⟨M, 10, none⟩ = some (.int .u64 x10)

theorem cut_more {g o len cap n d l c : Nat} (h0 : o + n = d) (h1 : n + l = len) (h2 : n + c = cap) (h3 : 0 < c) : cutV g o len cap n = .slice (some ⟨g, d, none⟩) l c := by
  unfold cutV
  rw [if_neg (by omega), show len - n = l from by omega, show cap - n = c from by omega, h0]

set_option maxRecDepth 100000 in
set_option maxHeartbeats 1600000 in
theorem parse_any (f : Nat → Int) (g c : Nat) (x0 x1 x2 x3 x4 x5 x6 x7 x8 x9 x10 : Int) (e0 : Hid (be f 0 1 = x0)) (e1 : Hid (be f 1 1 = x1)) (e2 : Hid (IntKind.i8.wrap (be f 2 1) = x2)) (e3 : Hid (IntKind.i8.wrap (be f 3 1) = x3)) (e4 : Hid (be f 4 4 = x4)) (e5 : Hid (be f 8 4 = x5)) (e6 : Hid (be f 12 4 = x6)) (e7 : Hid (be f 16 8 = x7)) (e8 : Hid (be f 24 8 = x8)) (e9 : Hid (be f 32 8 = x9)) (e10 : Hid (be f 40 8 = x10))
    (hm : c + 48 ≤ maxLen) (m0 : 0 ≤ x0) (m1 : x0 < 256) (m2 : x0 % 8 = 4) (t0 : x10 ≠ 0) (t1 : x9 ≤ x10) (w : World)
    (hb : ∀ i, i < 48 → w.cell? ⟨g, i, none⟩ = some (.int .u8 (f i))) (hf : ∀ i, i < 48 → 0 ≤ f i ∧ f i < 256) :
    Calls Tryz.prog 66 #[.slice (some ⟨g, 0, none⟩) 48 (c + 48)] w (Parsed x0 x1 x2 x3 x4 x5 x6 x7 x8 x9 x10 w) := by
  have hg : g < w.heap.size := World.block_lt_of_cell? w _ (hb 0 (by decide))
  clear hg
  have HB := hidI hb
  have HF := hidI hf
  have q1 : (x0 % 8 != 4) = false := by rw [m2]; rfl
  have q2 : (x10 == 0) = false := by simpa using t0
  clear hb hf m2 t0
  go_enter Tryz.func66, Tryz.ntmps66
  go_wp2_with (first | (go_at_call 91; go_in))
  refine (readBE_u8 f (w.heap.size + 1) g 0 48 (c + 48) w.heap.size 0 _ x0 e0 (by decide) (by omega) (by omega) _ (by omega) (by simp [go_sem]) (by simp [go_sem]) (by simp [go_sem]; rfl) (by simp [go_sem]) ?_ ?_).mono ?_
  · intro i hi
    exact cell_later (w := w) (by go_grown) (HB.out (0 + i) (by omega))
  · intro i hi; exact HF.out _ (by omega)
  rintro e w1 ⟨rfl, rfl⟩
  rw [cut_more (d := 1) (l := 47) (c := c + 47) (by decide) (by decide) (by omega) (by omega)]
  unfold readW
  go_wp2_with (first | (go_at_call 91; go_in))
  refine (readBE_u8 f (w.heap.size + 1) g 1 47 (c + 47) w.heap.size 1 _ x1 e1 (by decide) (by omega) (by omega) _ (by omega) (by simp [go_sem]) (by simp [go_sem]) (by simp [go_sem]; rfl) (by simp [go_sem]) ?_ ?_).mono ?_
  · intro i hi
    exact cell_later (w := w) (by go_grown) (HB.out (1 + i) (by omega))
  · intro i hi; exact HF.out _ (by omega)
  rintro e w1 ⟨rfl, rfl⟩
  rw [cut_more (d := 2) (l := 46) (c := c + 46) (by decide) (by decide) (by omega) (by omega)]
  unfold readW
  go_wp2_with (first | (go_at_call 91; go_in))
  refine (readBE_i8 f (w.heap.size + 1) g 2 46 (c + 46) w.heap.size 2 _ x2 e2 (by decide) (by omega) (by omega) _ (by omega) (by simp [go_sem]) (by simp [go_sem]) (by simp [go_sem]; rfl) (by simp [go_sem]) ?_ ?_).mono ?_
  · intro i hi
    exact cell_later (w := w) (by go_grown) (HB.out (2 + i) (by omega))
  · intro i hi; exact HF.out _ (by omega)
  rintro e w1 ⟨rfl, rfl⟩
  rw [cut_more (d := 3) (l := 45) (c := c + 45) (by decide) (by decide) (by omega) (by omega)]
  unfold readW
  go_wp2_with (first | (go_at_call 91; go_in))
  refine (readBE_i8 f (w.heap.size + 1) g 3 45 (c + 45) w.heap.size 3 _ x3 e3 (by decide) (by omega) (by omega) _ (by omega) (by simp [go_sem]) (by simp [go_sem]) (by simp [go_sem]; rfl) (by simp [go_sem]) ?_ ?_).mono ?_
  · intro i hi
    exact cell_later (w := w) (by go_grown) (HB.out (3 + i) (by omega))
  · intro i hi; exact HF.out _ (by omega)
  rintro e w1 ⟨rfl, rfl⟩
  rw [cut_more (d := 4) (l := 44) (c := c + 44) (by decide) (by decide) (by omega) (by omega)]
  unfold readW
  go_wp2_with (first | (go_at_call 91; go_in))
  refine (readBE_short f (w.heap.size + 1) g 4 44 (c + 44) w.heap.size 4 _ x4 e4 (by decide) (by omega) (by omega) _ (by omega) (by simp [go_sem]) (by simp [go_sem]) (by simp [go_sem]; rfl) (by simp [go_sem]) ?_ ?_).mono ?_
  · intro i hi
    exact cell_later (w := w) (by go_grown) (HB.out (4 + i) (by omega))
  · intro i hi; exact HF.out _ (by omega)
  rintro e w1 ⟨rfl, rfl⟩
  rw [cut_more (d := 8) (l := 40) (c := c + 40) (by decide) (by decide) (by omega) (by omega)]
  unfold readW
  go_wp2_with (first | (go_at_call 91; go_in))
  refine (readBE_short f (w.heap.size + 1) g 8 40 (c + 40) w.heap.size 5 _ x5 e5 (by decide) (by omega) (by omega) _ (by omega) (by simp [go_sem]) (by simp [go_sem]) (by simp [go_sem]; rfl) (by simp [go_sem]) ?_ ?_).mono ?_
  · intro i hi
    exact cell_later (w := w) (by go_grown) (HB.out (8 + i) (by omega))
  · intro i hi; exact HF.out _ (by omega)
  rintro e w1 ⟨rfl, rfl⟩
  rw [cut_more (d := 12) (l := 36) (c := c + 36) (by decide) (by decide) (by omega) (by omega)]
  unfold readW
  go_wp2_with (first | (go_at_call 91; go_in))
  refine (readBE_u32 f (w.heap.size + 1) g 12 36 (c + 36) w.heap.size 6 _ x6 e6 (by decide) (by omega) (by omega) _ (by omega) (by simp [go_sem]) (by simp [go_sem]) (by simp [go_sem]; rfl) (by simp [go_sem]) ?_ ?_).mono ?_
  · intro i hi
    exact cell_later (w := w) (by go_grown) (HB.out (12 + i) (by omega))
  · intro i hi; exact HF.out _ (by omega)
  rintro e w1 ⟨rfl, rfl⟩
  rw [cut_more (d := 16) (l := 32) (c := c + 32) (by decide) (by decide) (by omega) (by omega)]
  unfold readW
  go_wp2_with (first | (go_at_call 91; go_in))
  refine (readBE_stamp f (w.heap.size + 1) g 16 32 (c + 32) w.heap.size 7 _ x7 e7 (by decide) (by omega) (by omega) _ (by omega) (by simp [go_sem]) (by simp [go_sem]) (by simp [go_sem]; rfl) (by simp [go_sem]) ?_ ?_).mono ?_
  · intro i hi
    exact cell_later (w := w) (by go_grown) (HB.out (16 + i) (by omega))
  · intro i hi; exact HF.out _ (by omega)
  rintro e w1 ⟨rfl, rfl⟩
  rw [cut_more (d := 24) (l := 24) (c := c + 24) (by decide) (by decide) (by omega) (by omega)]
  unfold readW
  go_wp2_with (first | (go_at_call 91; go_in))
  refine (readBE_stamp f (w.heap.size + 1) g 24 24 (c + 24) w.heap.size 8 _ x8 e8 (by decide) (by omega) (by omega) _ (by omega) (by simp [go_sem]) (by simp [go_sem]) (by simp [go_sem]; rfl) (by simp [go_sem]) ?_ ?_).mono ?_
  · intro i hi
    exact cell_later (w := w) (by go_grown) (HB.out (24 + i) (by omega))
  · intro i hi; exact HF.out _ (by omega)
  rintro e w1 ⟨rfl, rfl⟩
  rw [cut_more (d := 32) (l := 16) (c := c + 16) (by decide) (by decide) (by omega) (by omega)]
  unfold readW
  go_wp2_with (first | (go_at_call 91; go_in))
  refine (readBE_stamp f (w.heap.size + 1) g 32 16 (c + 16) w.heap.size 9 _ x9 e9 (by decide) (by omega) (by omega) _ (by omega) (by simp [go_sem]) (by simp [go_sem]) (by simp [go_sem]; rfl) (by simp [go_sem]) ?_ ?_).mono ?_
  · intro i hi
    exact cell_later (w := w) (by go_grown) (HB.out (32 + i) (by omega))
  · intro i hi; exact HF.out _ (by omega)
  rintro e w1 ⟨rfl, rfl⟩
  rw [cut_more (d := 40) (l := 8) (c := c + 8) (by decide) (by decide) (by omega) (by omega)]
  unfold readW
  go_wp2_with (first | (go_at_call 91; go_in))
  refine (readBE_stamp f (w.heap.size + 1) g 40 8 (c + 8) w.heap.size 10 _ x10 e10 (by decide) (by omega) (by omega) _ (by omega) (by simp [go_sem]) (by simp [go_sem]) (by simp [go_sem]; rfl) (by simp [go_sem]) ?_ ?_).mono ?_
  · intro i hi
    exact cell_later (w := w) (by go_grown) (HB.out (40 + i) (by omega))
  · intro i hi; exact HF.out _ (by omega)
  rintro e w1 ⟨rfl, rfl⟩
  unfold readW
  generalize cutV g 40 8 (c + 8) 8 = cv at *
  clear HB HF e0 e1 e2 e3 e4 e5 e6 e7 e8 e9 e10
  go_wp2
  go_quiet (fail)
  go_wp2
  go_ret2
  refine ⟨_, rfl, below_drewN (by go_grown) _, Nat.le_refl _, by simp; omega, ?_, ?_, ?_, ?_, ?_, ?_, ?_, ?_, ?_, ?_, ?_⟩ <;> simp [go_sem]

end Go.Proofs.YtgifkanoghmijaaGreatDoor
