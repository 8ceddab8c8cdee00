/- The contract of queryV4: what is made of an answer's header and the client's times. -/
import Derived.Test.YtgifkanoghmijaaGreatDoorParse
import Derived.Test.YtgifkanoghmijaaGreatDoorNtp
import Derived.Test.YtgifkanoghmijaaGreatDoorKiss
import Derived.Test.YtgifkanoghmijaaGreatDoorResp
import Derived.Deep.DeepCutAuto
import Derived.Deep.RegionHeld2
import Derived.Deep.RegionHeld3
namespace Go.Proofs.YtgifkanoghmijaaGreatDoor
open Go.RowKit
attribute [local go_sem ↓] execOp_held
attribute [local go_sem] build_stamps build_resp

theorem toInterval_gen (t : Int) (h0 : -128 ≤ t) (h1 : t ≤ 127) (w : World) :
    Calls Tryz.prog 52 #[.int .i8 t] w fun e w' => (t ≠ -128 ∧ e = .returned (.int .i64 (ivl t)) ∧ w = w') ∨ (t = -128 ∧ ∃ u v, e = .panicked [{ v := .iface u v, recovered := false }] ∧ w = w') := by
  by_cases h : t = -128
  · subst h
    exact (toInterval_dies w).mono fun e w' h => Or.inr ⟨rfl, h⟩
  · exact (toInterval_any t (by omega) h1 w).mono fun e w' h' => Or.inl ⟨h, h'⟩

/-- The block R holds what it held, but for the three fields that are reckoned late. -/
def SameBut (R : Nat) (w w' : World) : Prop := ∀ i, i ≠ 34 → i ≠ 37 → i ≠ 39 → w'.cell? ⟨R, i, none⟩ = w.cell? ⟨R, i, none⟩
theorem SameBut.refl (R : Nat) (w : World) : SameBut R w w := fun _ _ _ _ => rfl
theorem SameBut.set {R : Nat} {w w' : World} (h : SameBut R w w') (k : Nat) (hk : k = 34 ∨ k = 37 ∨ k = 39) (v : Value) : SameBut R w (w'.setCell ⟨R, k, none⟩ v) := fun i h1 h2 h3 => by
  have e : (w'.setCell ⟨R, k, none⟩ v).cell? ⟨R, i, none⟩ = w'.cell? ⟨R, i, none⟩ := by
    apply World.cell?_setCell_other
    intro h
    injection h
    omega
  rw [e]
  exact h i h1 h2 h3
theorem SameBut.set34 {R : Nat} {w w' : World} (h : SameBut R w w') (v : Value) : SameBut R w (w'.setCell ⟨R, 34, none⟩ v) := h.set 34 (.inl rfl) v
theorem SameBut.below {R : Nat} {w w' w'' : World} (h : SameBut R w w') (hR : R < w'.heap.size) (hb : Below w'.heap.size w' w'') : SameBut R w w'' := fun i h1 h2 h3 => by
  rw [hb.cell hR]; exact h i h1 h2 h3

theorem SameBut.drewN {R : Nat} {w w' : World} (h : SameBut R w w') (n : Nat) : SameBut R w (w'.drewN n) := h
theorem keepAlloc {w w' : World} (h : Below w.heap.size w w') (o : Obj) : Below w.heap.size w (w'.alloc o) := h.alloc h.size o
theorem cellAlloc {w : World} {a : Addr} {v : Value} (h : w.cell? a = some v) (o : Obj) : (w.alloc o).cell? a = some v := by
  rw [World.cell?_alloc_some w a o (by rw [h]; rfl)]; exact h
theorem late34 {R : Nat} {w : World} (h : ∃ d : Int, w.cell? ⟨R, 34, none⟩ = some (.int .i64 d)) (d' : Int) : ∃ d : Int, (w.setCell ⟨R, 34, none⟩ (.int .i64 d')).cell? ⟨R, 34, none⟩ = some (.int .i64 d) := by
  obtain ⟨d, h⟩ := h
  exact ⟨d', World.cell?_setCell_same _ _ _ h⟩

set_option maxHeartbeats 400000 in
theorem getVersion_any (M : Nat) (x : Int) (h0 : 0 ≤ x) (h1 : x < 256) (w : World) (hc : w.cell? ⟨M, 0, none⟩ = some (.int .u8 x)) :
    Calls Tryz.prog 70 #[.pointer (some ⟨M, 0, none⟩)] w fun e w' => e = .returned (.int .i64 (x / 8 % 8)) ∧ w = w' := by
  go_enter Tryz.func70, Tryz.ntmps70
  go_wp2
  go_ret
  exact ⟨rfl, rfl⟩

set_option maxHeartbeats 400000 in
theorem getLeap_any (M : Nat) (x : Int) (h0 : 0 ≤ x) (h1 : x < 256) (w : World) (hc : w.cell? ⟨M, 0, none⟩ = some (.int .u8 x)) :
    Calls Tryz.prog 73 #[.pointer (some ⟨M, 0, none⟩)] w fun e w' => e = .returned (.int .u8 (x / 64 % 4)) ∧ w = w' := by
  have g0 : 0 ≤ x / 64 := by omega
  have g1 : x / 64 < 256 := by omega
  have q := and3u8 (x / 64) g0 g1
  go_enter Tryz.func73, Tryz.ntmps73
  go_wp2
  go_ret
  exact ⟨rfl, rfl⟩

/-- An answer's numbers, in new memory. -/
def RespAt (n1 s1 n4 s4 x0 x1 x2 x3 x4 x5 x6 x7 _x8 x9 x10 : Int) (R : Nat) (w' : World) : Prop :=
  ∃ (n2 s2 n3 s3 n5 s5 dist : Int) (kiss : ByteArray), (0 ≤ n2 ∧ n2 < 1000000000 ∧ s2 * 1000000000 + n2 = timeN x9) ∧ (0 ≤ n3 ∧ n3 < 1000000000 ∧ s3 * 1000000000 + n3 = timeN x10) ∧ (0 ≤ n5 ∧ n5 < 1000000000 ∧ s5 * 1000000000 + n5 = timeN x7) ∧
    w'.cell? ⟨R, 0, none⟩ = some (.int .i64 (half (diff s2 s1 n2 n1 + diff s3 s4 n3 n4))) ∧ w'.cell? ⟨R, 1, none⟩ = some (.int .i64 (mx0 (diff s4 s1 n4 n1 - diff s3 s2 n3 n2))) ∧ w'.cell? ⟨R, 14, none⟩ = some (.int .i64 (ivl x3)) ∧ w'.cell? ⟨R, 15, none⟩ = some (.int .i64 (x0 / 8 % 8)) ∧ w'.cell? ⟨R, 16, none⟩ = some (.int .u8 x1) ∧ w'.cell? ⟨R, 19, none⟩ = some (.int .u8 (eraN x10)) ∧ w'.cell? ⟨R, 20, none⟩ = some (.int .u32 x6) ∧ w'.cell? ⟨R, 22, none⟩ = some (.int .u64 n5) ∧ w'.cell? ⟨R, 23, none⟩ = some (.int .i64 s5) ∧ w'.cell? ⟨R, 24, none⟩ = some (.pointer none) ∧ w'.cell? ⟨R, 32, none⟩ = some (.int .i64 (durS x4)) ∧ w'.cell? ⟨R, 33, none⟩ = some (.int .i64 (durS x5)) ∧ w'.cell? ⟨R, 34, none⟩ = some (.int .i64 dist) ∧ w'.cell? ⟨R, 35, none⟩ = some (.int .u8 (x0 / 64 % 4)) ∧ w'.cell? ⟨R, 36, none⟩ = some (.int .i64 (minE (half (diff s2 s1 n2 n1 + diff s3 s4 n3 n4)) (mx0 (diff s4 s1 n4 n1 - diff s3 s2 n3 n2)))) ∧ w'.cell? ⟨R, 37, none⟩ = some (.string kiss) ∧ w'.cell? ⟨R, 38, none⟩ = some (.int .i64 (ivl x2)) ∧ w'.cell? ⟨R, 41, none⟩ = some (.int .u64 n3) ∧ w'.cell? ⟨R, 42, none⟩ = some (.int .i64 s3) ∧ w'.cell? ⟨R, 43, none⟩ = some (.pointer none) ∧ w'.cell? ⟨R, 44, none⟩ = some (.nilIface)

theorem resp_end {n1 s1 n2 s2 n3 s3 n4 s4 n5 s5 x0 x1 x2 x3 x4 x5 x6 x7 x8 x9 x10 : Int} {R : Nat} {wc w' : World}
    (g2 : 0 ≤ n2 ∧ n2 < 1000000000 ∧ s2 * 1000000000 + n2 = timeN x9) (g3 : 0 ≤ n3 ∧ n3 < 1000000000 ∧ s3 * 1000000000 + n3 = timeN x10) (g5 : 0 ≤ n5 ∧ n5 < 1000000000 ∧ s5 * 1000000000 + n5 = timeN x7)
    (hs : SameBut R wc w') (h34 : ∃ d : Int, w'.cell? ⟨R, 34, none⟩ = some (.int .i64 d)) (h37 : ∃ t, w'.cell? ⟨R, 37, none⟩ = some (.string t))
    (k0 : wc.cell? ⟨R, 0, none⟩ = some (.int .i64 (half (diff s2 s1 n2 n1 + diff s3 s4 n3 n4)))) (k1 : wc.cell? ⟨R, 1, none⟩ = some (.int .i64 (mx0 (diff s4 s1 n4 n1 - diff s3 s2 n3 n2)))) (k14 : wc.cell? ⟨R, 14, none⟩ = some (.int .i64 (ivl x3))) (k15 : wc.cell? ⟨R, 15, none⟩ = some (.int .i64 (x0 / 8 % 8))) (k16 : wc.cell? ⟨R, 16, none⟩ = some (.int .u8 x1)) (k19 : wc.cell? ⟨R, 19, none⟩ = some (.int .u8 (eraN x10))) (k20 : wc.cell? ⟨R, 20, none⟩ = some (.int .u32 x6)) (k22 : wc.cell? ⟨R, 22, none⟩ = some (.int .u64 n5)) (k23 : wc.cell? ⟨R, 23, none⟩ = some (.int .i64 s5)) (k24 : wc.cell? ⟨R, 24, none⟩ = some (.pointer none)) (k32 : wc.cell? ⟨R, 32, none⟩ = some (.int .i64 (durS x4))) (k33 : wc.cell? ⟨R, 33, none⟩ = some (.int .i64 (durS x5))) (k35 : wc.cell? ⟨R, 35, none⟩ = some (.int .u8 (x0 / 64 % 4))) (k36 : wc.cell? ⟨R, 36, none⟩ = some (.int .i64 (minE (half (diff s2 s1 n2 n1 + diff s3 s4 n3 n4)) (mx0 (diff s4 s1 n4 n1 - diff s3 s2 n3 n2))))) (k38 : wc.cell? ⟨R, 38, none⟩ = some (.int .i64 (ivl x2))) (k41 : wc.cell? ⟨R, 41, none⟩ = some (.int .u64 n3)) (k42 : wc.cell? ⟨R, 42, none⟩ = some (.int .i64 s3)) (k43 : wc.cell? ⟨R, 43, none⟩ = some (.pointer none)) (k44 : wc.cell? ⟨R, 44, none⟩ = some (.nilIface)) : RespAt n1 s1 n4 s4 x0 x1 x2 x3 x4 x5 x6 x7 x8 x9 x10 R w' := by
  obtain ⟨d, h34⟩ := h34
  obtain ⟨t, h37⟩ := h37
  exact ⟨n2, s2, n3, s3, n5, s5, d, t, g2, g3, g5, (hs 0 (by decide) (by decide) (by decide)).trans k0, (hs 1 (by decide) (by decide) (by decide)).trans k1, (hs 14 (by decide) (by decide) (by decide)).trans k14, (hs 15 (by decide) (by decide) (by decide)).trans k15, (hs 16 (by decide) (by decide) (by decide)).trans k16, (hs 19 (by decide) (by decide) (by decide)).trans k19, (hs 20 (by decide) (by decide) (by decide)).trans k20, (hs 22 (by decide) (by decide) (by decide)).trans k22, (hs 23 (by decide) (by decide) (by decide)).trans k23, (hs 24 (by decide) (by decide) (by decide)).trans k24, (hs 32 (by decide) (by decide) (by decide)).trans k32, (hs 33 (by decide) (by decide) (by decide)).trans k33, h34, (hs 35 (by decide) (by decide) (by decide)).trans k35, (hs 36 (by decide) (by decide) (by decide)).trans k36, h37, (hs 38 (by decide) (by decide) (by decide)).trans k38, (hs 41 (by decide) (by decide) (by decide)).trans k41, (hs 42 (by decide) (by decide) (by decide)).trans k42, (hs 43 (by decide) (by decide) (by decide)).trans k43, (hs 44 (by decide) (by decide) (by decide)).trans k44⟩

def Queried (n1 s1 n4 s4 x0 x1 x2 x3 x4 x5 x6 x7 x8 x9 x10 : Int) (w : World) (e : Ending) (w' : World) : Prop :=
  (x2 ≠ -128 ∧ x3 ≠ -128 ∧ ∃ R : Nat, e = .returned (.tuple #[.pointer (some ⟨R, 0, none⟩), .nilIface]) ∧ Below w.heap.size w w' ∧ w.heap.size ≤ R ∧ R < w'.heap.size ∧ RespAt n1 s1 n4 s4 x0 x1 x2 x3 x4 x5 x6 x7 x8 x9 x10 R w') ∨
  ((x2 = -128 ∨ x3 = -128) ∧ ∃ u v, e = .panicked [{ v := .iface u v, recovered := false }] ∧ Below w.heap.size w w')

set_option maxRecDepth 100000 in
set_option maxHeartbeats 4000000 in
theorem queryV4_any (f : Nat → Int) (g c P : Nat) (n1 s1 n4 s4 x0 x1 x2 x3 x4 x5 x6 x7 x8 x9 x10 : Int) (e0 : Hid (be f 0 1 = x0)) (e1 : Hid (be f 1 1 = x1)) (e2 : Hid (IntKind.i8.wrap (be f 2 1) = x2)) (e3 : Hid (IntKind.i8.wrap (be f 3 1) = x3)) (e4 : Hid (be f 4 4 = x4)) (e5 : Hid (be f 8 4 = x5)) (e6 : Hid (be f 12 4 = x6)) (e7 : Hid (be f 16 8 = x7)) (e8 : Hid (be f 24 8 = x8)) (e9 : Hid (be f 32 8 = x9)) (e10 : Hid (be f 40 8 = x10))
    (hm : c + 48 ≤ maxLen) (b0 : 0 ≤ x0) (b0' : x0 < 256) (m2 : x0 % 8 = 4) (t0 : x10 ≠ 0) (t1 : x9 ≤ x10)
    (_b1 : 0 ≤ x1) (_b1' : x1 < 256) (b2 : -128 ≤ x2) (b2' : x2 ≤ 127) (b3 : -128 ≤ x3) (b3' : x3 ≤ 127) (b4 : 0 ≤ x4) (b4' : x4 < 4294967296) (b5 : 0 ≤ x5) (b5' : x5 < 4294967296) (b6 : 0 ≤ x6) (b6' : x6 < 4294967296)
    (b7 : 0 ≤ x7) (b7' : x7 < 18446744073709551616) (b9 : 0 ≤ x9) (b9' : x9 < 18446744073709551616) (b10 : 0 ≤ x10) (b10' : x10 < 18446744073709551616)
    (y9 : 62000000000000000000 ≤ timeN x9) (y9' : timeN x9 ≤ 65000000000000000000) (y10 : 62000000000000000000 ≤ timeN x10) (y10' : timeN x10 ≤ 65000000000000000000)
    (a1 : 0 ≤ n1) (a1' : n1 < 1000000000) (a4 : 0 ≤ n4) (a4' : n4 < 1000000000) (d1 : 62000000000 ≤ s1) (d1' : s1 ≤ 64500000000) (d4 : 62000000000 ≤ s4) (d4' : s4 ≤ 64500000000) (w : World)
    (hb : ∀ i, i < 48 → w.cell? ⟨g, i, none⟩ = some (.int .u8 (f i))) (hf : ∀ i, i < 48 → 0 ≤ f i ∧ f i < 256)
    (kP1 : w.cell? ⟨P, 1, none⟩ = some (.int .i64 0)) (kP4 : w.cell? ⟨P, 4, none⟩ = some (.bool false)) :
    Calls Tryz.prog 54 #[.slice (some ⟨g, 0, none⟩) 48 (c + 48), .int .u64 x8, .agg #[.int .u64 n1, .int .i64 s1, .pointer none], .agg #[.int .u64 n4, .int .i64 s4, .pointer none], .slice none 0 0, .pointer (some ⟨P, 0, none⟩)] w
      (Queried n1 s1 n4 s4 x0 x1 x2 x3 x4 x5 x6 x7 x8 x9 x10 w) := by
  have d1'' : s1 ≤ 65000000000 := by omega
  have d4'' : s4 ≤ 65000000000 := by omega
  have HB := hidI hb
  have HF := hidI hf
  have HM := hidI m2
  have lP := World.block_lt_of_cell? _ _ kP1
  clear hb hf m2
  go_enter Tryz.func54, Tryz.ntmps54
  go_wp2_with fail
  refine (parse_any f g c x0 x1 x2 x3 x4 x5 x6 x7 x8 x9 x10 e0 e1 e2 e3 e4 e5 e6 e7 e8 e9 e10 hm b0 b0' HM.out t0 t1 _ (fun i hi => cell_later (w := w) (by go_grown) (HB.out i hi)) HF.out).mono ?_
  rintro e w1 ⟨M, rfl, hb, hM, lM, kM0, kM1, kM2, kM3, kM4, kM5, kM6, kM7, kM8, kM9, kM10⟩
  clear HB HF e0 e1 e2 e3 e4 e5 e6 e7 e8 e9 e10 HM
  have hB : Below w.heap.size w w1 := keepBelow (by go_grown) hb
  replace kP1 := cell_later hB kP1
  replace kP4 := cell_later hB kP4
  have kX0 : w1.cell? ⟨w.heap.size, 0, none⟩ = some (.int .u64 n1) := cell_later hb (by simp [go_sem])
  have kX1 : w1.cell? ⟨w.heap.size, 1, none⟩ = some (.int .i64 s1) := cell_later hb (by simp [go_sem])
  have kX2 : w1.cell? ⟨w.heap.size, 2, none⟩ = some (.pointer none) := cell_later hb (by simp [go_sem])
  have lX := World.block_lt_of_cell? _ _ kX0
  have kR0 : w1.cell? ⟨w.heap.size + 1, 0, none⟩ = some (.int .u64 n4) := cell_later hb (by simp [go_sem])
  have kR1 : w1.cell? ⟨w.heap.size + 1, 1, none⟩ = some (.int .i64 s4) := cell_later hb (by simp [go_sem])
  have kR2 : w1.cell? ⟨w.heap.size + 1, 2, none⟩ = some (.pointer none) := cell_later hb (by simp [go_sem])
  have lR := World.block_lt_of_cell? _ _ kR0
  replace lP := World.block_lt_of_cell? _ _ kP1
  clear hb hM
  go_wp2_with fail
  refine (timeV4_any x9 b9 b9' _).mono ?_
  rintro e w2 ⟨n2, s2, p2, p2', q2, rfl, hb⟩
  have r2 : 62000000000 ≤ s2 := by omega
  have r2' : s2 ≤ 65000000000 := by omega
  have Q2 := hidI q2
  clear q2
  have hbb : Below w1.heap.size w1 w2 := keepBelow (by go_grown) hb
  replace kP1 := cell_later hbb kP1
  replace kP4 := cell_later hbb kP4
  replace kX0 := cell_later hbb kX0
  replace kX1 := cell_later hbb kX1
  replace kX2 := cell_later hbb kX2
  replace kR0 := cell_later hbb kR0
  replace kR1 := cell_later hbb kR1
  replace kR2 := cell_later hbb kR2
  replace kM0 := cell_later hbb kM0
  replace kM1 := cell_later hbb kM1
  replace kM2 := cell_later hbb kM2
  replace kM3 := cell_later hbb kM3
  replace kM4 := cell_later hbb kM4
  replace kM5 := cell_later hbb kM5
  replace kM6 := cell_later hbb kM6
  replace kM7 := cell_later hbb kM7
  replace kM8 := cell_later hbb kM8
  replace kM9 := cell_later hbb kM9
  replace kM10 := cell_later hbb kM10
  have kT10 : w2.cell? ⟨w1.heap.size, 0, none⟩ = some (.int .u64 n1) := cell_later hb (by simp [go_sem])
  have kT11 : w2.cell? ⟨w1.heap.size, 1, none⟩ = some (.int .i64 s1) := cell_later hb (by simp [go_sem])
  have kT12 : w2.cell? ⟨w1.heap.size, 2, none⟩ = some (.pointer none) := cell_later hb (by simp [go_sem])
  have lT1 := World.block_lt_of_cell? _ _ kT10
  replace lX := World.block_lt_of_cell? _ _ kX0
  replace lR := World.block_lt_of_cell? _ _ kR0
  replace lM := World.block_lt_of_cell? _ _ kM0
  replace lP := World.block_lt_of_cell? _ _ kP1
  replace hB := keepBelow hB hbb
  clear hb hbb
  go_wp2_with fail
  refine (timeV4_any x10 b10 b10' _).mono ?_
  rintro e w3 ⟨n3, s3, p3, p3', q3, rfl, hb⟩
  have r3 : 62000000000 ≤ s3 := by omega
  have r3' : s3 ≤ 65000000000 := by omega
  have Q3 := hidI q3
  clear q3
  have hbb : Below w2.heap.size w2 w3 := keepBelow (by go_grown) hb
  replace kP1 := cell_later hbb kP1
  replace kP4 := cell_later hbb kP4
  replace kX0 := cell_later hbb kX0
  replace kX1 := cell_later hbb kX1
  replace kX2 := cell_later hbb kX2
  replace kR0 := cell_later hbb kR0
  replace kR1 := cell_later hbb kR1
  replace kR2 := cell_later hbb kR2
  replace kM0 := cell_later hbb kM0
  replace kM1 := cell_later hbb kM1
  replace kM2 := cell_later hbb kM2
  replace kM3 := cell_later hbb kM3
  replace kM4 := cell_later hbb kM4
  replace kM5 := cell_later hbb kM5
  replace kM6 := cell_later hbb kM6
  replace kM7 := cell_later hbb kM7
  replace kM8 := cell_later hbb kM8
  replace kM9 := cell_later hbb kM9
  replace kM10 := cell_later hbb kM10
  replace kT10 := cell_later hbb kT10
  replace kT11 := cell_later hbb kT11
  replace kT12 := cell_later hbb kT12
  have kT20 : w3.cell? ⟨w2.heap.size, 0, none⟩ = some (.int .u64 n2) := cell_later hb (by simp [go_sem])
  have kT21 : w3.cell? ⟨w2.heap.size, 1, none⟩ = some (.int .i64 s2) := cell_later hb (by simp [go_sem])
  have kT22 : w3.cell? ⟨w2.heap.size, 2, none⟩ = some (.pointer none) := cell_later hb (by simp [go_sem])
  have lT2 := World.block_lt_of_cell? _ _ kT20
  replace lX := World.block_lt_of_cell? _ _ kX0
  replace lR := World.block_lt_of_cell? _ _ kR0
  replace lM := World.block_lt_of_cell? _ _ kM0
  replace lP := World.block_lt_of_cell? _ _ kP1
  replace lT1 := World.block_lt_of_cell? _ _ kT10
  replace hB := keepBelow hB hbb
  clear hb hbb
  go_upto_region 10 with fail
  go_cut [20] (fun s20 wx => x2 ≠ -128 ∧ x3 ≠ -128 ∧ ∃ (R : Nat) (n5 s5 : Int), s20 = .pointer (some ⟨R, 0, none⟩) ∧ Below w.heap.size w wx ∧ w.heap.size ≤ R ∧ (∀ k, wx.frozen? ⟨R, k, none⟩ = false) ∧ wx.cell? ⟨P, 4, none⟩ = some (.bool false) ∧ wx.cell? ⟨P, 1, none⟩ = some (.int .i64 0) ∧ 0 ≤ n5 ∧ n5 < 1000000000 ∧ Hid (s5 * 1000000000 + n5 = timeN x7) ∧ wx.cell? ⟨R, 0, none⟩ = some (.int .i64 (half (diff s2 s1 n2 n1 + diff s3 s4 n3 n4))) ∧ wx.cell? ⟨R, 1, none⟩ = some (.int .i64 (mx0 (diff s4 s1 n4 n1 - diff s3 s2 n3 n2))) ∧ wx.cell? ⟨R, 2, none⟩ = some (.int .u64 n1) ∧ wx.cell? ⟨R, 3, none⟩ = some (.int .i64 s1) ∧ wx.cell? ⟨R, 4, none⟩ = some (.pointer none) ∧ wx.cell? ⟨R, 5, none⟩ = some (.int .u64 n2) ∧ wx.cell? ⟨R, 6, none⟩ = some (.int .i64 s2) ∧ wx.cell? ⟨R, 7, none⟩ = some (.pointer none) ∧ wx.cell? ⟨R, 8, none⟩ = some (.int .u64 n3) ∧ wx.cell? ⟨R, 9, none⟩ = some (.int .i64 s3) ∧ wx.cell? ⟨R, 10, none⟩ = some (.pointer none) ∧ wx.cell? ⟨R, 11, none⟩ = some (.int .u64 n4) ∧ wx.cell? ⟨R, 12, none⟩ = some (.int .i64 s4) ∧ wx.cell? ⟨R, 13, none⟩ = some (.pointer none) ∧ wx.cell? ⟨R, 14, none⟩ = some (.int .i64 (ivl x3)) ∧ wx.cell? ⟨R, 15, none⟩ = some (.int .i64 (x0 / 8 % 8)) ∧ wx.cell? ⟨R, 16, none⟩ = some (.int .u8 x1) ∧ wx.cell? ⟨R, 17, none⟩ = some (.int .u8 0) ∧ wx.cell? ⟨R, 18, none⟩ = some (.slice none 0 0) ∧ wx.cell? ⟨R, 19, none⟩ = some (.int .u8 (eraN x10)) ∧ wx.cell? ⟨R, 20, none⟩ = some (.int .u32 x6) ∧ wx.cell? ⟨R, 21, none⟩ = some (.slice none 0 0) ∧ wx.cell? ⟨R, 22, none⟩ = some (.int .u64 n5) ∧ wx.cell? ⟨R, 23, none⟩ = some (.int .i64 s5) ∧ wx.cell? ⟨R, 24, none⟩ = some (.pointer none) ∧ wx.cell? ⟨R, 32, none⟩ = some (.int .i64 (durS x4)) ∧ wx.cell? ⟨R, 33, none⟩ = some (.int .i64 (durS x5)) ∧ wx.cell? ⟨R, 34, none⟩ = some (.int .i64 0) ∧ wx.cell? ⟨R, 35, none⟩ = some (.int .u8 (x0 / 64 % 4)) ∧ wx.cell? ⟨R, 36, none⟩ = some (.int .i64 (minE (half (diff s2 s1 n2 n1 + diff s3 s4 n3 n4)) (mx0 (diff s4 s1 n4 n1 - diff s3 s2 n3 n2)))) ∧ wx.cell? ⟨R, 37, none⟩ = some (.string ByteArray.empty) ∧ wx.cell? ⟨R, 38, none⟩ = some (.int .i64 (ivl x2)) ∧ wx.cell? ⟨R, 39, none⟩ = some (.int .u32 0) ∧ wx.cell? ⟨R, 40, none⟩ = some (.int .u64 0) ∧ wx.cell? ⟨R, 41, none⟩ = some (.int .u64 n3) ∧ wx.cell? ⟨R, 42, none⟩ = some (.int .i64 s3) ∧ wx.cell? ⟨R, 43, none⟩ = some (.pointer none) ∧ wx.cell? ⟨R, 44, none⟩ = some (.nilIface))
  case first =>
    have hz := hB.size
    clear kX0 kX1 kX2 kR0 kR1 kR2 lX lR
    simp only [List.append]
    go_region_held2? (fun w' => Below w.heap.size w w' ∧ w'.cell? ⟨w1.heap.size, 0, none⟩ = some (.int .u64 n1) ∧ w'.cell? ⟨w1.heap.size, 1, none⟩ = some (.int .i64 s1) ∧ w'.cell? ⟨w1.heap.size, 2, none⟩ = some (.pointer none) ∧ w'.cell? ⟨w2.heap.size, 0, none⟩ = some (.int .u64 n2) ∧ w'.cell? ⟨w2.heap.size, 1, none⟩ = some (.int .i64 s2) ∧ w'.cell? ⟨w2.heap.size, 2, none⟩ = some (.pointer none) ∧ w'.cell? ⟨w3.heap.size, 0, none⟩ = some (.int .u64 n3) ∧ w'.cell? ⟨w3.heap.size, 1, none⟩ = some (.int .i64 s3) ∧ w'.cell? ⟨w3.heap.size, 2, none⟩ = some (.pointer none) ∧ w'.cell? ⟨w3.heap.size + 1, 0, none⟩ = some (.int .u64 n4) ∧ w'.cell? ⟨w3.heap.size + 1, 1, none⟩ = some (.int .i64 s4) ∧ w'.cell? ⟨w3.heap.size + 1, 2, none⟩ = some (.pointer none) ∧ w'.cell? ⟨M, 0, none⟩ = some (.int .u8 x0) ∧ w'.cell? ⟨M, 1, none⟩ = some (.int .u8 x1) ∧ w'.cell? ⟨M, 2, none⟩ = some (.int .i8 x2) ∧ w'.cell? ⟨M, 3, none⟩ = some (.int .i8 x3) ∧ w'.cell? ⟨M, 4, none⟩ = some (.int .u32 x4) ∧ w'.cell? ⟨M, 5, none⟩ = some (.int .u32 x5) ∧ w'.cell? ⟨M, 6, none⟩ = some (.int .u32 x6) ∧ w'.cell? ⟨M, 7, none⟩ = some (.int .u64 x7) ∧ w'.cell? ⟨M, 8, none⟩ = some (.int .u64 x8) ∧ w'.cell? ⟨M, 9, none⟩ = some (.int .u64 x9) ∧ w'.cell? ⟨M, 10, none⟩ = some (.int .u64 x10) ∧ w'.cell? ⟨P, 1, none⟩ = some (.int .i64 0) ∧ w'.cell? ⟨P, 4, none⟩ = some (.bool false))
      (first | assumption | (go_split_ands; refine ⟨by assumption, ?_, ?_, ?_, ?_, ?_, ?_, ?_, ?_, ?_, ?_, ?_, ?_, ?_, ?_, ?_, ?_, ?_, ?_, ?_, ?_, ?_, ?_, ?_, ?_, ?_⟩ <;> assumption) | (go_split_ands; exact ⟨keepAlloc (by assumption) _, cellAlloc (by assumption) _, cellAlloc (by assumption) _, cellAlloc (by assumption) _, cellAlloc (by assumption) _, cellAlloc (by assumption) _, cellAlloc (by assumption) _, cellAlloc (by assumption) _, cellAlloc (by assumption) _, cellAlloc (by assumption) _, cellAlloc (by assumption) _, cellAlloc (by assumption) _, cellAlloc (by assumption) _, cellAlloc (by assumption) _, cellAlloc (by assumption) _, cellAlloc (by assumption) _, cellAlloc (by assumption) _, cellAlloc (by assumption) _, cellAlloc (by assumption) _, cellAlloc (by assumption) _, cellAlloc (by assumption) _, cellAlloc (by assumption) _, cellAlloc (by assumption) _, cellAlloc (by assumption) _, cellAlloc (by assumption) _, cellAlloc (by assumption) _⟩) | (refine ⟨by go_grown, ?_, ?_, ?_, ?_, ?_, ?_, ?_, ?_, ?_, ?_, ?_, ?_, ?_, ?_, ?_, ?_, ?_, ?_, ?_, ?_, ?_, ?_, ?_, ?_, ?_⟩ <;> (simp [go_sem, *]; done)) | (go_split_ands; refine ⟨keepBelow (by assumption) hb, cell_later hb (by assumption), cell_later hb (by assumption), cell_later hb (by assumption), cell_later hb (by assumption), cell_later hb (by assumption), cell_later hb (by assumption), cell_later hb (by assumption), cell_later hb (by assumption), cell_later hb (by assumption), cell_later hb (by assumption), cell_later hb (by assumption), cell_later hb (by assumption), cell_later hb (by assumption), cell_later hb (by assumption), cell_later hb (by assumption), cell_later hb (by assumption), cell_later hb (by assumption), cell_later hb (by assumption), cell_later hb (by assumption), cell_later hb (by assumption), cell_later hb (by assumption), cell_later hb (by assumption), cell_later hb (by assumption), cell_later hb (by assumption), cell_later hb (by assumption)⟩))
      (first | (go_at_call 68; refine (offset_any n1 s1 n2 s2 n3 s3 n4 s4 a1 a1' p2 p2' p3 p3' a4 a4' d1 d1'' r2 r2' r3 r3' d4 d4'' _).mono ?_; rintro e w9 ⟨rfl, hb⟩) | (go_at_call 69; refine (rtt_any n1 s1 n2 s2 n3 s3 n4 s4 a1 a1' p2 p2' p3 p3' a4 a4' d1 d1'' r2 r2' r3 r3' d4 d4'' _).mono ?_; rintro e w9 ⟨rfl, hb⟩) | (go_at_call 74; refine (minError_any n1 s1 n2 s2 n3 s3 n4 s4 a1 a1' p2 p2' p3 p3' a4 a4' d1 d1'' r2 r2' r3 r3' d4 d4'' _).mono ?_; rintro e w9 ⟨rfl, hb⟩) | (go_at_call 52; refine (toInterval_gen _ ?_ ?_ _).mono ?_; (focus omega); (focus omega); rintro e w9 (⟨hne, rfl, rfl⟩ | ⟨heq, u, v, rfl, rfl⟩); rotate_left; (focus (go_split_ands; first | (exact ⟨rfl, Or.inr ⟨Or.inl heq, u, v, rfl, by assumption⟩⟩) | (exact ⟨rfl, Or.inr ⟨Or.inr heq, u, v, rfl, by assumption⟩⟩)))) | (go_at_call 70; refine (getVersion_any M x0 b0 b0' _ ?_).mono ?_; (focus (go_split_ands; assumption)); rintro e w9 ⟨rfl, rfl⟩) | (go_at_call 73; refine (getLeap_any M x0 b0 b0' _ ?_).mono ?_; (focus (go_split_ands; assumption)); rintro e w9 ⟨rfl, rfl⟩) | (go_at_call 71; refine (inferEra_any x10 _).mono ?_; rintro e w9 ⟨rfl, rfl⟩) | (go_at_call 72; refine (short_any _ ?_ ?_ _).mono ?_; (focus omega); (focus omega); rintro e w9 ⟨rfl, rfl⟩) | (go_at_call 67; refine (timeV4_any x7 b7 b7' _).mono ?_; rintro e w9 ⟨n5, s5, p5, p5', q5, rfl, hb⟩))
    go_wp2_with fail
    go_split_ands
    have l3 := World.block_lt_of_cell? _ _ (show (w9.alloc _).cell? ⟨w3.heap.size, 0, none⟩ = some (.int .u64 n3) from by assumption)
    have hR9 : w.heap.size ≤ w9.heap.size := by rw [World.size_alloc] at l3; have l5 : w3.heap.size < w9.heap.size + 1 := l3; omega
    clear l3
    go_meet
    exact ⟨by assumption, by assumption, w9.heap.size, n5, s5, rfl, by assumption, hR9, fun k => World.frozen?_alloc_new _ _ _ _, by assumption, by assumption, p5, p5', hidI q5, mid_end rfl rfl⟩
  case rest =>
    obtain ⟨hx2, hx3, R, n5, s5, rfl, hB, hR, fR, kP4, kP1, p5, p5', q5, kR0, kR1, kR2, kR3, kR4, kR5, kR6, kR7, kR8, kR9, kR10, kR11, kR12, kR13, kR14, kR15, kR16, kR17, kR18, kR19, kR20, kR21, kR22, kR23, kR24, kR32, kR33, kR34, kR35, kR36, kR37, kR38, kR39, kR40, kR41, kR42, kR43, kR44⟩ := hcut
    have HK := hidI (And.intro kR0 (And.intro kR14 (And.intro kR15 (And.intro kR19 (And.intro kR22 (And.intro kR23 (And.intro kR24 (And.intro kR35 (And.intro kR36 (And.intro kR38 (And.intro kR41 (And.intro kR42 kR43))))))))))))
    have q5' := q5
    clear kR0 kR2 kR3 kR4 kR5 kR6 kR7 kR8 kR9 kR10 kR11 kR12 kR13 kR14 kR15 kR17 kR18 kR19 kR21 kR22 kR23 kR24 kR35 kR36 kR38 kR40 kR41 kR42 kR43 q5
    have lR := World.block_lt_of_cell? _ _ kR1
    replace lP := World.block_lt_of_cell? _ _ kP1
    go_wp2_with fail
    go_region_held3? (fun w' => Below w.heap.size w w' ∧ SameBut R wc w' ∧ (∀ k, w'.frozen? ⟨R, k, none⟩ = false) ∧ (∃ d : Int, w'.cell? ⟨R, 34, none⟩ = some (.int .i64 d)) ∧ w'.cell? ⟨R, 37, none⟩ = some (.string ByteArray.empty) ∧ w'.cell? ⟨R, 39, none⟩ = some (.int .u32 0) ∧ w'.cell? ⟨R, 1, none⟩ = some (.int .i64 (mx0 (diff s4 s1 n4 n1 - diff s3 s2 n3 n2))) ∧ w'.cell? ⟨R, 32, none⟩ = some (.int .i64 (durS x4)) ∧ w'.cell? ⟨R, 33, none⟩ = some (.int .i64 (durS x5)) ∧ w'.cell? ⟨P, 1, none⟩ = some (.int .i64 0))
      (first | assumption | (refine ⟨by go_grown, SameBut.refl _ _, fR, ⟨_, kR34⟩, kR37, kR39, kR1, kR32, kR33, kP1⟩) | (go_split_ands; refine ⟨by go_grown, SameBut.set34 (by assumption) _, fun k => by simp [go_sem, *], late34 (by assumption) _, ?_, ?_, ?_, ?_, ?_, ?_⟩ <;> (simp [go_sem, *]; done)))
      (first | (go_at_call 75; refine (rootDistance_any _ _ _ _).mono ?_; rintro e w9 ⟨⟨d, rfl⟩, rfl⟩))
    go_split_ands
    generalize (wc.setCell ⟨R, 34, none⟩ (.int .i64 d)).drew = wx at *
    have hB6 : Below w.heap.size w wx := by assumption
    have hs : SameBut R wc wx := by assumption
    have f6 : ∀ k, wx.frozen? ⟨R, k, none⟩ = false := by assumption
    have k34 : ∃ d : Int, wx.cell? ⟨R, 34, none⟩ = some (.int .i64 d) := by assumption
    have k37 : wx.cell? ⟨R, 37, none⟩ = some (.string ByteArray.empty) := by assumption
    have k39 : wx.cell? ⟨R, 39, none⟩ = some (.int .u32 0) := by assumption
    have kP1x : wx.cell? ⟨P, 1, none⟩ = some (.int .i64 0) := by assumption
    have k16 := (hs 16 (by decide) (by decide) (by decide)).trans kR16
    have k20 := (hs 20 (by decide) (by decide) (by decide)).trans kR20
    have k44 := (hs 44 (by decide) (by decide) (by decide)).trans kR44
    have lRx := World.block_lt_of_cell? _ _ k39
    have lPx := World.block_lt_of_cell? _ _ kP1x
    have HK1 := hidI (And.intro hs (And.intro k34 (And.intro kR1 (And.intro kR16 (And.intro kR20 (And.intro kR32 (And.intro kR33 kR44)))))))
    have HK2 : Hid (∃ t, wx.cell? ⟨R, 37, none⟩ = some (.string t)) := hidI ⟨_, k37⟩
    clear hs k34 kR1 kR16 kR20 kR32 kR33 kR34 kR37 kR39 kR44 fR kP4 kP1
    go_wp2_with (first | (go_at_call 76; refine (kissCode_any x6 b6 b6' _).mono ?_; rintro e w9 ⟨t, rfl, hb⟩; have k16a := cell_later hb k16; have k37a := cell_later hb k37; have k39a := cell_later hb k39; have k44a := cell_later hb k44; have kP1a := cell_later hb kP1x; have f9 : ∀ k, w9.frozen? ⟨R, k, none⟩ = false := fun k => (hb.frozen lRx).trans (f6 k)))
    all_goals (go_quiet (fail))
    all_goals (go_wp2_with fail)
    all_goals (
      have hs := HK1.out.1
      obtain ⟨-, ⟨dd, k34⟩, kR1, kR16, kR20, kR32, kR33, kR44⟩ := HK1.out
      obtain ⟨kR0, kR14, kR15, kR19, kR22, kR23, kR24, kR35, kR36, kR38, kR41, kR42, kR43⟩ := HK.out
      go_ret2
      refine Or.inl ⟨hx2, hx3, R, rfl, ?_, hR, ?_, resp_end (wc := wc) ⟨p2, p2', Q2.out⟩ ⟨p3, p3', Q3.out⟩ ⟨p5, p5', q5'.out⟩ ?_ ?_ ?_ kR0 kR1 kR14 kR15 kR16 kR19 kR20 kR22 kR23 kR24 kR32 kR33 kR35 kR36 kR38 kR41 kR42 kR43 kR44⟩
      · clear kR0 kR1 kR14 kR15 kR16 kR19 kR20 kR22 kR23 kR24 kR32 kR33 kR35 kR36 kR38 kR41 kR42 kR43 kR44; refine below_drewN ?_ _; (repeat (with_reducible refine Below.setCell ?_ hR _)); first | (with_reducible exact hB6) | (with_reducible exact keepBelow hB6 hb)
      · first | (have lR9 := World.block_lt_of_cell? _ _ k39a; simpa [go_sem] using lR9) | (simpa [go_sem] using lRx)
      · repeat (first | (with_reducible exact hs) | (with_reducible refine SameBut.drewN ?_ _) | (with_reducible refine SameBut.set ?_ _ (by decide) _) | (with_reducible exact SameBut.below hs lRx hb))
      · refine ⟨dd, ?_⟩; first | (have k34a := cell_later hb k34; simp [go_sem, k34a]; done) | (simp [go_sem, k34]; done)
      · first | (exact ⟨t, by simp [go_sem, k37a]⟩) | (exact ⟨ByteArray.empty, by simp [go_sem, k37]⟩))
end Go.Proofs.YtgifkanoghmijaaGreatDoor
