/- Validate: nothing only for a stratum from 1 to 15 and clocks in step. -/
import Derived.Test.YtgifkanoghmijaaGreatDoorSub
import Derived.Test.YtgifkanoghmijaaGreatDoorNum
import Derived.Deep.DeepCutAuto
import Derived.Deep.RegionHeld2
import Derived.Deep.QuietTactic
import Derived.BigQuiet
import Derived.Deep.RegionWith
namespace Go.Proofs.YtgifkanoghmijaaGreatDoor
open Go.RowKit

/-- What Validate hands back: nothing, or an error of the package. -/
def Judged (x1 l : Int) (w : World) (e : Ending) (w' : World) : Prop :=
  Below w.heap.size w w' ∧ ((e = .returned .nilIface ∧ 1 ≤ x1 ∧ x1 ≤ 15 ∧ l ≠ 3) ∨ ∃ s : ByteArray, e = .returned (.iface 100 (.string s)))

theorem same_later' {R : Nat} {w W w9 : World} (lR : R < w.heap.size) (hB : Below w.heap.size w W) (hb : Below W.heap.size W w9) (h : ∀ i, W.cell? ⟨R, i, none⟩ = w.cell? ⟨R, i, none⟩) : ∀ i, w9.cell? ⟨R, i, none⟩ = w.cell? ⟨R, i, none⟩ := fun i =>
  (hb.cell (p := ⟨R, i, none⟩) (Nat.lt_of_lt_of_le lR hB.size)).trans (h i)

theorem same_below {R : Nat} {w W : World} (lR : R < w.heap.size) (hB : Below w.heap.size w W) : ∀ i, W.cell? ⟨R, i, none⟩ = w.cell? ⟨R, i, none⟩ := fun i => hB.cell (p := ⟨R, i, none⟩) lR

set_option maxRecDepth 100000 in
set_option maxHeartbeats 4000000 in
theorem validate_any (R : Nat) (v x1 l n3 s3 n5 s5 rd rp : Int) (w : World) (hv : 0 ≤ v) (hv' : v < 5) (hx : 0 ≤ x1) (hx' : x1 < 256) (hl : 0 ≤ l) (hl' : l < 256)
    (p3 : 0 ≤ n3) (p3' : n3 < 1000000000) (p5 : 0 ≤ n5) (p5' : n5 < 1000000000) (r3 : 59000000000 ≤ s3) (r3' : s3 ≤ 66000000000) (r5 : 59000000000 ≤ s5) (r5' : s5 ≤ 69000000000) (d0 : s3 - s5 ≤ 9000000000) (d1 : -9000000000 ≤ s3 - s5)
    (k15 : w.cell? ⟨R, 15, none⟩ = some (.int .i64 v)) (k16 : w.cell? ⟨R, 16, none⟩ = some (.int .u8 x1)) (k22 : w.cell? ⟨R, 22, none⟩ = some (.int .u64 n5)) (k23 : w.cell? ⟨R, 23, none⟩ = some (.int .i64 s5)) (k24 : w.cell? ⟨R, 24, none⟩ = some (.pointer none))
    (k32 : w.cell? ⟨R, 32, none⟩ = some (.int .i64 rd)) (k33 : w.cell? ⟨R, 33, none⟩ = some (.int .i64 rp)) (k35 : w.cell? ⟨R, 35, none⟩ = some (.int .u8 l))
    (k41 : w.cell? ⟨R, 41, none⟩ = some (.int .u64 n3)) (k42 : w.cell? ⟨R, 42, none⟩ = some (.int .i64 s3)) (k43 : w.cell? ⟨R, 43, none⟩ = some (.pointer none)) (k44 : w.cell? ⟨R, 44, none⟩ = some .nilIface) :
    Calls Tryz.prog 35 #[.pointer (some ⟨R, 0, none⟩)] w (Judged x1 l w) := by
  have lR := World.block_lt_of_cell? _ _ k15
  have hv5 : (v == 5) = false := by simp; omega
  by_cases hs : 16 ≤ x1
  · go_enter Tryz.func35, Tryz.ntmps35
    go_wp2_with fail
    go_ret
    exact ⟨by go_grown, Or.inr ⟨_, rfl⟩⟩
  by_cases hz : x1 = 0
  · subst hz
    go_enter Tryz.func35, Tryz.ntmps35
    go_wp2_with fail
    go_ret
    exact ⟨by go_grown, Or.inr ⟨_, rfl⟩⟩
  have hz0 : (x1 == 0) = false := by simp; omega
  have hx1 : 1 ≤ x1 := by omega
  have hx15 : x1 ≤ 15 := by omega
  clear hz hs
  go_enter Tryz.func35, Tryz.ntmps35
  go_upto_region 11 with fail
  go_cut [74] (fun s74 wx => ∃ b : Bool, s74 = .bool b ∧ Below w.heap.size w wx)
  case first =>
    by_cases hq : eqT n5 s5 0 59926608000 = true
    · first | (go_region_with (first | (go_at_call 48; refine (era0_any _).mono ?_; rintro e w9 ⟨rfl, hb⟩; have hB9 : Below w.heap.size w w9 := keepBelow (Below.refl _ w).drew hb; have SR := same_below lR hB9) | (go_at_call 47; refine (equal_any n5 s5 0 59926608000 p5 p5' (by decide) (by decide) _).mono ?_; rintro e w10 ⟨rfl, hb⟩; have hB10 := keepBelow hB9 hb; have SR := same_below lR hB10))) | fail "no"
      all_goals (go_wp2_with fail; go_meet; exact ⟨_, rfl, hB10⟩)
    · rw [Bool.not_eq_true] at hq
      have hu : undef = Value.tuple #[] := rfl
      first | (go_region_with (first | (go_at_call 48; refine (era0_any _).mono ?_; rintro e w9 ⟨rfl, hb⟩; have hB9 : Below w.heap.size w w9 := keepBelow (Below.refl _ w).drew hb; have SR := same_below lR hB9) | (go_at_call 47; refine (equal_any n5 s5 0 59926608000 p5 p5' (by decide) (by decide) _).mono ?_; rintro e w10 ⟨rfl, hb⟩; have hB10 := keepBelow hB9 hb; have SR := same_below lR hB10))) | fail "no"
      all_goals (go_wp2_with fail; go_meet; exact ⟨_, rfl, hB10⟩)
  case rest =>
    obtain ⟨b, rfl, hB⟩ := hcut
    have HK := hidI (And.intro k15 (And.intro k22 (And.intro k23 (And.intro k24 (And.intro k32 (And.intro k33 (And.intro k35 (And.intro k41 (And.intro k42 k43)))))))))
    have q15 := cell_later hB k15
    have q22 := cell_later hB k22
    have q23 := cell_later hB k23
    have q24 := cell_later hB k24
    have q32 := cell_later hB k32
    have q33 := cell_later hB k33
    have q35 := cell_later hB k35
    have q41 := cell_later hB k41
    have q42 := cell_later hB k42
    have q43 := cell_later hB k43
    clear k15 k16 k22 k23 k24 k32 k33 k35 k41 k42 k43 k44
    go_upto_if 74 with fail
    go_cut [3] (fun s3 wx => Below w.heap.size w wx)
    case first =>
      cases b
      · go_wp2_with fail
        go_meet
        exact hB
      · go_upto_region 12 with fail
        go_region_held2 (fun w' => Below w.heap.size w w' ∧ w'.cell? ⟨R, 22, none⟩ = some (.int .u64 n5) ∧ w'.cell? ⟨R, 23, none⟩ = some (.int .i64 s5) ∧ w'.cell? ⟨R, 24, none⟩ = some (.pointer none) ∧ w'.cell? ⟨R, 41, none⟩ = some (.int .u64 n3) ∧ w'.cell? ⟨R, 42, none⟩ = some (.int .i64 s3) ∧ w'.cell? ⟨R, 43, none⟩ = some (.pointer none))
          (first | assumption | (exact ⟨hB.drew, q22, q23, q24, q41, q42, q43⟩) | (go_split_ands; exact ⟨keepBelow (by assumption) hb, cell_later hb (by assumption), cell_later hb (by assumption), cell_later hb (by assumption), cell_later hb (by assumption), cell_later hb (by assumption), cell_later hb (by assumption)⟩))
          (first | (go_at_call 50; refine (sub_any n3 s3 n5 s5 p3 p3' p5 p5' (by omega) (by omega) (by omega) (by omega) d1 d0 _).mono ?_; rintro e w9 ⟨rfl, hb⟩))
        all_goals (go_wp2_with fail)
        all_goals go_split_ands
        all_goals (first | (go_meet; assumption) | (go_ret; exact ⟨by assumption, Or.inr ⟨_, rfl⟩⟩))
    case rest =>
      clear hB q15 q22 q23 q24 q32 q33 q35 q41 q42 q43
      have hB := hcut
      obtain ⟨k15, k22, k23, k24, k32, k33, k35, k41, k42, k43⟩ := HK.out
      have q15 := cell_later hB k15
      have q22 := cell_later hB k22
      have q23 := cell_later hB k23
      have q24 := cell_later hB k24
      have q32 := cell_later hB k32
      have q33 := cell_later hB k33
      have q35 := cell_later hB k35
      have q41 := cell_later hB k41
      have q42 := cell_later hB k42
      have q43 := cell_later hB k43
      clear k15 k22 k23 k24 k32 k33 k35 k41 k42 k43 hcut
      go_upto_region 15 with fail
      go_cut [4] (fun s4 wx => ∃ d : Int, s4 = .int .i64 d ∧ Below w.heap.size w wx)
      case first =>
        go_quiet (fail)
        go_wp2_with fail
        go_meet
        exact ⟨_, rfl, by first | assumption | exact below_drewN hB _⟩
      case rest =>
        clear hB q15 q22 q23 q24 q32 q33 q35 q41 q42 q43
        obtain ⟨d, rfl, hB⟩ := hcut
        obtain ⟨k15, k22, k23, k24, k32, k33, k35, k41, k42, k43⟩ := HK.out
        have q15 := cell_later hB k15
        have q22 := cell_later hB k22
        have q23 := cell_later hB k23
        have q24 := cell_later hB k24
        have q32 := cell_later hB k32
        have q33 := cell_later hB k33
        have q35 := cell_later hB k35
        have q41 := cell_later hB k41
        have q42 := cell_later hB k42
        have q43 := cell_later hB k43
        clear k15 k22 k23 k24 k32 k33 k35 k41 k42 k43
        by_cases hd : 16000000000 < d
        · go_wp2_with fail
          go_ret
          exact ⟨hB, Or.inr ⟨_, rfl⟩⟩
        go_upto_region 18 with fail
        go_cut [108] (fun s wx => ∃ b : Bool, s = .bool b ∧ Below w.heap.size w wx)
        case first =>
          go_region_held2 (fun w' => Below w.heap.size w w' ∧ w'.cell? ⟨R, 22, none⟩ = some (.int .u64 n5) ∧ w'.cell? ⟨R, 23, none⟩ = some (.int .i64 s5) ∧ w'.cell? ⟨R, 24, none⟩ = some (.pointer none) ∧ w'.cell? ⟨R, 41, none⟩ = some (.int .u64 n3) ∧ w'.cell? ⟨R, 42, none⟩ = some (.int .i64 s3) ∧ w'.cell? ⟨R, 43, none⟩ = some (.pointer none))
            (first | assumption | (exact ⟨hB.drew, q22, q23, q24, q41, q42, q43⟩) | (go_split_ands; exact ⟨keepBelow (by assumption) hb, cell_later hb (by assumption), cell_later hb (by assumption), cell_later hb (by assumption), cell_later hb (by assumption), cell_later hb (by assumption), cell_later hb (by assumption)⟩))
            (first | (go_at_call 51; refine (before_any n3 s3 n5 s5 p3 p3' p5 p5' _).mono ?_; rintro e w9 ⟨rfl, hb⟩))
          all_goals (go_wp2_with fail; go_split_ands; go_meet; exact ⟨_, rfl, by assumption⟩)
        case rest =>
          clear hB q15 q22 q23 q24 q32 q33 q35 q41 q42 q43
          obtain ⟨b2, rfl, hB⟩ := hcut
          obtain ⟨k15, k22, k23, k24, k32, k33, k35, k41, k42, k43⟩ := HK.out
          have q15 := cell_later hB k15
          have q22 := cell_later hB k22
          have q23 := cell_later hB k23
          have q24 := cell_later hB k24
          have q32 := cell_later hB k32
          have q33 := cell_later hB k33
          have q35 := cell_later hB k35
          have q41 := cell_later hB k41
          have q42 := cell_later hB k42
          have q43 := cell_later hB k43
          clear k15 k22 k23 k24 k32 k33 k35 k41 k42 k43
          cases b2
          · by_cases h3 : l = 3
            · subst h3
              go_wp2_with fail
              go_ret
              exact ⟨hB, Or.inr ⟨_, rfl⟩⟩
            · have h3b : (l == 3) = false := by simp [h3]
              go_wp2_with fail
              go_ret
              exact ⟨hB, Or.inl ⟨rfl, hx1, hx15, h3⟩⟩
          · go_wp2_with fail
            go_ret
            exact ⟨hB, Or.inr ⟨_, rfl⟩⟩

end Go.Proofs.YtgifkanoghmijaaGreatDoor
