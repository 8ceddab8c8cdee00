/- What a query makes of an answer to another number than was sent: no answer, and an error's number. -/
import Derived.Test.YtgifkanoghmijaaGreatDoorAsk
import Derived.Test.YtgifkanoghmijaaGreatDoorAsked
import Derived.Test.YtgifkanoghmijaaGreatDoorQry
import Derived.Laws.CopyOwn
import Derived.Laws.Tables
import Derived.Great.BuildSlice
namespace Go.Proofs.YtgifkanoghmijaaGreatDoor
open Go.RowKit
attribute [local go_sem ↓] execOp_held
attribute [local go_sem] build_opts

/-- No answer, and an error. -/
def Faulted (w : World) (e : Ending) (w' : World) : Prop := ∃ s : ByteArray, e = .returned (.tuple #[.pointer none, .iface 100 (.string s)]) ∧ Below w.heap.size w w'

set_option maxRecDepth 100000 in
set_option maxHeartbeats 1000000 in
theorem queryV4_other (f : Nat → Int) (n1 s1 n4 s4 x0 x1 x2 x3 x4 x5 x6 x7 x8 x9 x10 T : Int) (K : Hid (Ok f n1 s1 n4 s4 x0 x1 x2 x3 x4 x5 x6 x7 x8 x9 x10)) (g c P : Nat) (w : World) (hm : Hid (c + 48 ≤ maxLen)) (hT : Hid (x8 ≠ T))
    (hb : ∀ i, i < 48 → w.cell? ⟨g, i, none⟩ = some (.int .u8 (f i))) :
    Calls Tryz.prog 54 #[.slice (some ⟨g, 0, none⟩) 48 (c + 48), .int .u64 T, .agg #[.int .u64 n1, .int .i64 s1, .pointer none], .agg #[.int .u64 n4, .int .i64 s4, .pointer none], .slice none 0 0, .pointer (some ⟨P, 0, none⟩)] w (Faulted w) := by
  have HB := hidI hb
  clear hb
  go_enter Tryz.func54, Tryz.ntmps54
  go_wp2_with fail
  obtain ⟨e0, e1, e2, e3, e4, e5, e6, e7, e8, e9, e10, hf, b0, b0', m2, t0, t1, b1, b1', b2, b2', b3, b3', b4, b4', b5, b5', b6, b6', b7, b7', b9, b9', b10, b10', y9, y9', y10, y10', a1, a1', a4, a4', d1, d1', d4, d4'⟩ := K.out
  refine (parse_any f g c x0 x1 x2 x3 x4 x5 x6 x7 x8 x9 x10 (hidI e0) (hidI e1) (hidI e2) (hidI e3) (hidI e4) (hidI e5) (hidI e6) (hidI e7) (hidI e8) (hidI e9) (hidI e10) hm.out b0 b0' m2 t0 t1 _ (fun i hi => cell_later (w := w) (by go_grown) (HB.out i hi)) hf).mono ?_
  clear e0 e1 e2 e3 e4 e5 e6 e7 e8 e9 e10 hf b0 b0' m2 t0 t1 b1 b1' b2 b2' b3 b3' b4 b4' b5 b5' b6 b6' b7 b7' b9 b9' b10 b10' y9 y9' y10 y10' a1 a1' a4 a4' d1 d1' d4 d4'
  rintro e w1 ⟨M, rfl, hb, hM, lM, kM0, kM1, kM2, kM3, kM4, kM5, kM6, kM7, kM8, kM9, kM10⟩
  have hB : Below w.heap.size w w1 := keepBelow (by go_grown) hb
  have hne := hT.out
  clear hb hM
  go_wp2_with fail
  go_ret2
  exact ⟨_, rfl, hB⟩

theorem faulted_later {w W w' : World} {e : Ending} (hB : Below w.heap.size w W) (h : Faulted W e w') : Faulted w e w' := by
  obtain ⟨s, he, hb⟩ := h
  exact ⟨s, he, keepBelow hB hb⟩

set_option maxRecDepth 100000 in
set_option maxHeartbeats 1000000 in
theorem zz_other (f : Nat → Int) (n1 s1 n4 s4 x0 x1 x2 x3 x4 x5 x6 x7 x8 x9 x10 T : Int) (K : Hid (Ok f n1 s1 n4 s4 x0 x1 x2 x3 x4 x5 x6 x7 x8 x9 x10)) (g c P : Nat) (w : World) (hm : Hid (c + 48 ≤ maxLen)) (hT : Hid (x8 ≠ T))
    (hb : ∀ i, i < 48 → w.cell? ⟨g, i, none⟩ = some (.int .u8 (f i))) (kP1 : w.cell? ⟨P, 1, none⟩ = some (.int .i64 0)) (_kP4 : w.cell? ⟨P, 4, none⟩ = some (.bool false)) :
    Calls Tryz.prog 39 #[.slice (some ⟨g, 0, none⟩) 48 (c + 48), .int .u64 T, .agg #[.int .u64 n1, .int .i64 s1, .pointer none], .agg #[.int .u64 n4, .int .i64 s4, .pointer none], .pointer (some ⟨P, 0, none⟩)] w (Faulted w) := by
  have HB := hidI hb
  clear hb
  have lP := World.block_lt_of_cell? _ _ kP1
  go_enter Tryz.func39, Tryz.ntmps39
  go_wp2_with fail
  refine (queryV4_other f n1 s1 n4 s4 x0 x1 x2 x3 x4 x5 x6 x7 x8 x9 x10 T K g c P _ hm hT (fun i hi => cell_later (w := w) (by go_grown) (HB.out i hi))).mono ?_
  intro e w1 h
  obtain ⟨s, rfl, hB⟩ := faulted_later (w := w) (by go_grown) h
  clear h
  go_wp2_with fail
  go_ret2
  exact ⟨s, rfl, hB⟩

/-- The closure has laid an error's number. -/
def Bad (n : Nat) (w w' : World) : Prop := ∃ (m : Int) (w2 : World), m ≠ 0 ∧ Below w.heap.size w w2 ∧ w' = w2.setCell ⟨n, 0, none⟩ (.int .i64 m)

set_option maxRecDepth 100000 in
set_option maxHeartbeats 4000000 in
theorem asked1_other (f : Nat → Int) (n1 s1 n4 s4 v x0 x1 x2 x3 x4 x5 x6 x7 x8 x9 x10 T : Int) (K : Hid (Ok f n1 (s1 + 62135596800) n4 (s4 + 62135596800) x0 x1 x2 x3 x4 x5 x6 x7 x8 x9 x10)) (g cap b0 b1 b2 b3 b4 n r : Nat) (w : World) (hT : Hid (x8 ≠ T))
    (a1 : 0 ≤ n1) (a1' : n1 < 1000000000) (a4 : 0 ≤ n4) (a4' : n4 < 1000000000) (c1 : -2208988800 ≤ s1) (c1' : s1 < 4000000000) (c4 : -2208988800 ≤ s4) (c4' : s4 < 4000000000)
    (hb : ∀ i, i < 48 → w.cell? ⟨g, i, none⟩ = some (.int .u8 (f i)))
    (k0 : w.cell? ⟨b0, 0, none⟩ = some (.slice (some ⟨g, 0, none⟩) 48 cap)) (k1 : w.cell? ⟨b1, 0, none⟩ = some (.int .u64 T)) (k20 : w.cell? ⟨b2, 0, none⟩ = some (.int .i64 s1)) (k21 : w.cell? ⟨b2, 1, none⟩ = some (.int .i64 n1))
    (k30 : w.cell? ⟨b3, 0, none⟩ = some (.int .i64 s4)) (k31 : w.cell? ⟨b3, 1, none⟩ = some (.int .i64 n4)) (k4 : w.cell? ⟨b4, 0, none⟩ = some (.int .i64 v)) (k5 : w.cell? ⟨n, 0, none⟩ = some (.int .i64 (-1))) (k6 : w.cell? ⟨r, 0, none⟩ = some (.pointer none))
    (f5 : w.frozen? ⟨n, 0, none⟩ = false) (_f6 : w.frozen? ⟨r, 0, none⟩ = false) (_hnr : n ≠ r) :
    Calls Tryz.prog 38 #[.pointer (some ⟨b0, 0, none⟩), .pointer (some ⟨b1, 0, none⟩), .pointer (some ⟨b2, 0, none⟩), .pointer (some ⟨b3, 0, none⟩), .pointer (some ⟨b4, 0, none⟩), .pointer (some ⟨n, 0, none⟩), .pointer (some ⟨r, 0, none⟩)] w
      (Tried (Bad n w) (fun _ => False)) := by
  have HB := hidI hb
  clear hb
  have l0 := World.block_lt_of_cell? _ _ k0
  have l1 := World.block_lt_of_cell? _ _ k1
  have l2 := World.block_lt_of_cell? _ _ k20
  have l3 := World.block_lt_of_cell? _ _ k30
  have l4 := World.block_lt_of_cell? _ _ k4
  have l5 := World.block_lt_of_cell? _ _ k5
  have l6 := World.block_lt_of_cell? _ _ k6
  go_enter Tryz.func38, Tryz.ntmps38
  go_upto_region 1 with fail
  go_cut [8, 9] (fun s8 s9 wx => ∃ s : ByteArray, s8 = .pointer none ∧ s9 = .iface 100 (.string s) ∧ Below w.heap.size w wx)
  case first =>
    go_region_held2? (fun w' => Below w.heap.size w w' ∧ w'.cell? ⟨b0, 0, none⟩ = some (.slice (some ⟨g, 0, none⟩) 48 cap) ∧ w'.cell? ⟨b1, 0, none⟩ = some (.int .u64 T) ∧ w'.cell? ⟨b2, 0, none⟩ = some (.int .i64 s1) ∧ w'.cell? ⟨b2, 1, none⟩ = some (.int .i64 n1) ∧ w'.cell? ⟨b3, 0, none⟩ = some (.int .i64 s4) ∧ w'.cell? ⟨b3, 1, none⟩ = some (.int .i64 n4) ∧ w'.cell? ⟨b4, 0, none⟩ = some (.int .i64 v))
      (first | assumption | (refine ⟨by go_grown, ?_, ?_, ?_, ?_, ?_, ?_, ?_⟩ <;> (simp [go_sem, *]; done)) | (exact ⟨hb, cell_later hb k0, cell_later hb k1, cell_later hb k20, cell_later hb k21, cell_later hb k30, cell_later hb k31, cell_later hb k4⟩) | (go_split_ands; exact ⟨keepBelow (by assumption) hb, cell_later hb (by assumption), cell_later hb (by assumption), cell_later hb (by assumption), cell_later hb (by assumption), cell_later hb (by assumption), cell_later hb (by assumption), cell_later hb (by assumption)⟩) | (go_split_ands; exact ⟨keepAlloc (by assumption) _, cellAlloc (by assumption) _, cellAlloc (by assumption) _, cellAlloc (by assumption) _, cellAlloc (by assumption) _, cellAlloc (by assumption) _, cellAlloc (by assumption) _, cellAlloc (by assumption) _⟩))
      (first | (go_at_call 40; refine (clone48 g cap f _ (fun i hi => cell_later (w := w) (by go_split_ands; assumption) (HB.out i hi))).mono ?_; rintro e w9 ⟨g9, c9, rfl, hm9, hb, hg9, HC'⟩; have HC := hidI HC'; clear HC'; (try have KP1 := cell_later hb KP1); (try have KP4 := cell_later hb KP4); (try have KP1 := cell_later hb ((World.cell?_alloc_new _ _ _ 1).trans rfl)); (try have KP4 := cell_later hb ((World.cell?_alloc_new _ _ _ 4).trans rfl))) | (go_at_call 41; (first | (refine (given_any s1 n1 a1 a1' c1 c1' _).mono ?_) | (refine (given_any s4 n4 a4 a4' c4 c4' _).mono ?_)); rintro e w9 ⟨rfl, hb⟩; (try have HC := hidI (fun i hi => cell_later hb (HC.out i hi))); (try have HC := hidI (fun i hi => cell_later hb (cellAlloc (HC.out i hi) _))); (try have KP1 := cell_later hb KP1); (try have KP4 := cell_later hb KP4); (try have KP1 := cell_later hb ((World.cell?_alloc_new _ _ _ 1).trans rfl)); (try have KP4 := cell_later hb ((World.cell?_alloc_new _ _ _ 4).trans rfl))) | (go_at_call 39; refine (zz_other f n1 (s1 + 62135596800) n4 (s4 + 62135596800) x0 x1 x2 x3 x4 x5 x6 x7 x8 x9 x10 T K g9 c9 _ _ (hidI hm9) hT (by first | exact HC.out | exact fun i hi => cellAlloc (HC.out i hi) _) (by first | exact KP1 | exact (World.cell?_alloc_new _ _ _ 1).trans rfl) (by first | exact KP4 | exact (World.cell?_alloc_new _ _ _ 4).trans rfl)).mono ?_; intro e w10 h; obtain ⟨s, rfl, hb⟩ := faulted_later (w := w) (by go_split_ands; assumption) h; clear h))
    all_goals (go_wp2_with fail; go_meet; exact ⟨s, rfl, rfl, hb⟩)
  case rest =>
    obtain ⟨s, rfl, rfl, hB⟩ := hcut
    replace k5 := cell_later hB k5
    replace f5 : wc.frozen? ⟨n, 0, none⟩ = false := (hB.frozen l5).trans f5
    go_wp2_with fail
    refine (code_data s _).mono ?_
    rintro e w2 ⟨m, rfl, hm, hb⟩
    replace f5 : w2.frozen? ⟨n, 0, none⟩ = false := (hb.frozen (World.block_lt_of_cell? _ _ k5)).trans f5
    replace k5 := cell_later hb k5
    have hB2 := keepBelow hB hb
    go_wp2_with fail
    go_ret
    exact Or.inl ⟨rfl, m, w2, hm, hB2, rfl⟩

end Go.Proofs.YtgifkanoghmijaaGreatDoor
