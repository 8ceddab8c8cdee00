/- What asked makes of an answer's bytes: the numbers of it in new memory, or an error's number where it panics. -/
import Derived.Test.YtgifkanoghmijaaGreatDoorZz
import Derived.Test.YtgifkanoghmijaaGreatDoorClone
import Derived.Test.YtgifkanoghmijaaGreatDoorCode
import Derived.Test.YtgifkanoghmijaaGreatDoorTryc
namespace Go.Proofs.YtgifkanoghmijaaGreatDoor
open Go.RowKit
attribute [local go_sem ↓] execOp_held

theorem build_opts (v : Int) (w : World) :
    (heldBuild 95 #[(0, .int .i64 v)]).run Tryz.prog w = .ok (.agg #[.int .i64 v, .int .i64 0, .string ByteArray.empty, .int .u32 0, .bool false]) w :=
  run_build w _ _ _ (by kernel_rfl)
attribute [local go_sem] build_opts

theorem RespAt.same {n1 s1 n4 s4 x0 x1 x2 x3 x4 x5 x6 x7 x8 x9 x10 : Int} {R : Nat} {w w' : World} (h : ∀ i, w'.cell? ⟨R, i, none⟩ = w.cell? ⟨R, i, none⟩) (hr : RespAt n1 s1 n4 s4 x0 x1 x2 x3 x4 x5 x6 x7 x8 x9 x10 R w) : RespAt n1 s1 n4 s4 x0 x1 x2 x3 x4 x5 x6 x7 x8 x9 x10 R w' := by
  unfold RespAt at hr ⊢
  simp only [h]
  exact hr

/-- The closure has done its work: the answer's numbers lie at R. -/
def Done (n1 s1 n4 s4 x0 x1 x2 x3 x4 x5 x6 x7 x8 x9 x10 : Int) (r n : Nat) (w w' : World) : Prop :=
  ∃ (R : Nat) (w2 : World), x2 ≠ -128 ∧ x3 ≠ -128 ∧ Below w.heap.size w w2 ∧ w.heap.size ≤ R ∧ R < w2.heap.size ∧ RespAt n1 s1 n4 s4 x0 x1 x2 x3 x4 x5 x6 x7 x8 x9 x10 R w2 ∧ w' = (w2.setCell ⟨n, 0, none⟩ (.int .i64 0)).setCell ⟨r, 0, none⟩ (.pointer (some ⟨R, 0, none⟩))
/-- The closure has panicked. -/
def Died (x2 x3 : Int) (w w' : World) : Prop := (x2 = -128 ∨ x3 = -128) ∧ Below w.heap.size w w'

set_option maxRecDepth 100000 in
set_option maxHeartbeats 4000000 in
theorem asked1_any (f : Nat → Int) (n1 s1 n4 s4 v x0 x1 x2 x3 x4 x5 x6 x7 x8 x9 x10 : Int) (K : Hid (Ok f n1 (s1 + 62135596800) n4 (s4 + 62135596800) x0 x1 x2 x3 x4 x5 x6 x7 x8 x9 x10)) (g cap b0 b1 b2 b3 b4 n r : Nat) (w : World)
    (a1 : 0 ≤ n1) (a1' : n1 < 1000000000) (a4 : 0 ≤ n4) (a4' : n4 < 1000000000) (c1 : -2208988800 ≤ s1) (c1' : s1 < 4000000000) (c4 : -2208988800 ≤ s4) (c4' : s4 < 4000000000)
    (hb : ∀ i, i < 48 → w.cell? ⟨g, i, none⟩ = some (.int .u8 (f i)))
    (k0 : w.cell? ⟨b0, 0, none⟩ = some (.slice (some ⟨g, 0, none⟩) 48 cap)) (k1 : w.cell? ⟨b1, 0, none⟩ = some (.int .u64 x8)) (k20 : w.cell? ⟨b2, 0, none⟩ = some (.int .i64 s1)) (k21 : w.cell? ⟨b2, 1, none⟩ = some (.int .i64 n1))
    (k30 : w.cell? ⟨b3, 0, none⟩ = some (.int .i64 s4)) (k31 : w.cell? ⟨b3, 1, none⟩ = some (.int .i64 n4)) (k4 : w.cell? ⟨b4, 0, none⟩ = some (.int .i64 v)) (k5 : w.cell? ⟨n, 0, none⟩ = some (.int .i64 (-1))) (k6 : w.cell? ⟨r, 0, none⟩ = some (.pointer none))
    (f5 : w.frozen? ⟨n, 0, none⟩ = false) (f6 : w.frozen? ⟨r, 0, none⟩ = false) (hnr : n ≠ r) :
    Calls Tryz.prog 38 #[.pointer (some ⟨b0, 0, none⟩), .pointer (some ⟨b1, 0, none⟩), .pointer (some ⟨b2, 0, none⟩), .pointer (some ⟨b3, 0, none⟩), .pointer (some ⟨b4, 0, none⟩), .pointer (some ⟨n, 0, none⟩), .pointer (some ⟨r, 0, none⟩)] w
      (Tried (Done n1 (s1 + 62135596800) n4 (s4 + 62135596800) x0 x1 x2 x3 x4 x5 x6 x7 x8 x9 x10 r n w) (Died x2 x3 w)) := by
  have HB := hidI hb
  clear hb
  have l0 := World.block_lt_of_cell? _ _ k0
  have l1 := World.block_lt_of_cell? _ _ k1
  have l2 := World.block_lt_of_cell? _ _ k20
  have l3 := World.block_lt_of_cell? _ _ k30
  have l4 := World.block_lt_of_cell? _ _ k4
  have l5 := World.block_lt_of_cell? _ _ k5
  have l6 := World.block_lt_of_cell? _ _ k6
  go_enter Tryz.func38, Tryz.ntmps38
  go_upto_region 1 with fail
  go_cut [8, 9] (fun s8 s9 wx => s9 = .nilIface ∧ ∃ R : Nat, s8 = .pointer (some ⟨R, 0, none⟩) ∧ x2 ≠ -128 ∧ x3 ≠ -128 ∧ Below w.heap.size w wx ∧ w.heap.size ≤ R ∧ R < wx.heap.size ∧ Hid (RespAt n1 (s1 + 62135596800) n4 (s4 + 62135596800) x0 x1 x2 x3 x4 x5 x6 x7 x8 x9 x10 R wx))
  case first =>
    go_region_held2? (fun w' => Below w.heap.size w w' ∧ w'.cell? ⟨b0, 0, none⟩ = some (.slice (some ⟨g, 0, none⟩) 48 cap) ∧ w'.cell? ⟨b1, 0, none⟩ = some (.int .u64 x8) ∧ w'.cell? ⟨b2, 0, none⟩ = some (.int .i64 s1) ∧ w'.cell? ⟨b2, 1, none⟩ = some (.int .i64 n1) ∧ w'.cell? ⟨b3, 0, none⟩ = some (.int .i64 s4) ∧ w'.cell? ⟨b3, 1, none⟩ = some (.int .i64 n4) ∧ w'.cell? ⟨b4, 0, none⟩ = some (.int .i64 v))
      (first | assumption | (refine ⟨by go_grown, ?_, ?_, ?_, ?_, ?_, ?_, ?_⟩ <;> (simp [go_sem, *]; done)) | (exact ⟨hb, cell_later hb k0, cell_later hb k1, cell_later hb k20, cell_later hb k21, cell_later hb k30, cell_later hb k31, cell_later hb k4⟩) | (go_split_ands; exact ⟨keepBelow (by assumption) hb, cell_later hb (by assumption), cell_later hb (by assumption), cell_later hb (by assumption), cell_later hb (by assumption), cell_later hb (by assumption), cell_later hb (by assumption), cell_later hb (by assumption)⟩) | (go_split_ands; exact ⟨keepAlloc (by assumption) _, cellAlloc (by assumption) _, cellAlloc (by assumption) _, cellAlloc (by assumption) _, cellAlloc (by assumption) _, cellAlloc (by assumption) _, cellAlloc (by assumption) _, cellAlloc (by assumption) _⟩))
      (first | (go_at_call 40; refine (clone48 g cap f _ (fun i hi => cell_later (w := w) (by go_split_ands; assumption) (HB.out i hi))).mono ?_; rintro e w9 ⟨g9, c9, rfl, hm9, hb, hg9, HC'⟩; have HC := hidI HC'; clear HC'; (try have KP1 := cell_later hb KP1); (try have KP4 := cell_later hb KP4); (try have KP1 := cell_later hb ((World.cell?_alloc_new _ _ _ 1).trans rfl)); (try have KP4 := cell_later hb ((World.cell?_alloc_new _ _ _ 4).trans rfl))) | (go_at_call 41; (first | (refine (given_any s1 n1 a1 a1' c1 c1' _).mono ?_) | (refine (given_any s4 n4 a4 a4' c4 c4' _).mono ?_)); rintro e w9 ⟨rfl, hb⟩; (try have HC := hidI (fun i hi => cell_later hb (HC.out i hi))); (try have HC := hidI (fun i hi => cell_later hb (cellAlloc (HC.out i hi) _))); (try have KP1 := cell_later hb KP1); (try have KP4 := cell_later hb KP4); (try have KP1 := cell_later hb ((World.cell?_alloc_new _ _ _ 1).trans rfl)); (try have KP4 := cell_later hb ((World.cell?_alloc_new _ _ _ 4).trans rfl))) | (go_at_call 39; refine (zz_any f n1 (s1 + 62135596800) n4 (s4 + 62135596800) x0 x1 x2 x3 x4 x5 x6 x7 x8 x9 x10 K g9 c9 _ _ (hidI hm9) (by first | exact HC.out | exact fun i hi => cellAlloc (HC.out i hi) _) (by first | exact KP1 | exact (World.cell?_alloc_new _ _ _ 1).trans rfl) (by first | exact KP4 | exact (World.cell?_alloc_new _ _ _ 4).trans rfl)).mono ?_; intro e w10 h; have h' := queried_later (w := w) (by go_split_ands; assumption) h; clear h; rcases h' with ⟨h2, h3, R, rfl, hb, hR, hl, hr⟩ | ⟨hx, u, v, rfl, hb⟩; rotate_left; (focus (exact ⟨rfl, Or.inr ⟨⟨u, v, rfl⟩, hx, hb⟩⟩)); have HR := hidI hr; clear hr))
    all_goals (go_wp2_with fail; go_meet; exact ⟨rfl, R, rfl, h2, h3, hb, hR, hl, HR⟩)
  case rest =>
    obtain ⟨rfl, R, rfl, hx2, hx3, hB, hR, lR, HR⟩ := hcut
    replace k5 := cell_later hB k5
    replace k6 := cell_later hB k6
    replace f5 : wc.frozen? ⟨n, 0, none⟩ = false := (hB.frozen l5).trans f5
    replace f6 : wc.frozen? ⟨r, 0, none⟩ = false := (hB.frozen l6).trans f6
    go_wp2_with (first | (go_at_call 34; refine (code_nil _).mono ?_; rintro e w9 ⟨rfl, rfl⟩))
    go_ret
    exact Or.inl ⟨rfl, R, wc, hx2, hx3, hB, hR, lR, HR.out, rfl⟩

end Go.Proofs.YtgifkanoghmijaaGreatDoor
