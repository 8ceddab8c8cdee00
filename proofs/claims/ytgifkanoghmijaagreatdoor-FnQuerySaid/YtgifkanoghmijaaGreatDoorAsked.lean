/- What asked hands back. -/
import Derived.Test.YtgifkanoghmijaaGreatDoorAsk
namespace Go.Proofs.YtgifkanoghmijaaGreatDoor
open Go.RowKit

theorem cell_off {w : World} {a R i : Nat} {v : Value} (h : R ≠ a) : (w.setCell ⟨a, 0, none⟩ v).cell? ⟨R, i, none⟩ = w.cell? ⟨R, i, none⟩ := by
  apply World.cell?_setCell_other
  intro he
  injection he
  omega

/-- asked hands back the answer's numbers, or none and -1. -/
def Asked (n1 s1 n4 s4 x0 x1 x2 x3 x4 x5 x6 x7 x8 x9 x10 : Int) (w : World) (e : Ending) (w' : World) : Prop :=
  (∃ R : Nat, e = .returned (.tuple #[.pointer (some ⟨R, 0, none⟩), .int .i64 0]) ∧ x2 ≠ -128 ∧ x3 ≠ -128 ∧ Below w.heap.size w w' ∧ w.heap.size ≤ R ∧ R < w'.heap.size ∧ RespAt n1 s1 n4 s4 x0 x1 x2 x3 x4 x5 x6 x7 x8 x9 x10 R w') ∨
  (e = .returned (.tuple #[.pointer none, .int .i64 (-1)]) ∧ (x2 = -128 ∨ x3 = -128) ∧ Below w.heap.size w w')

set_option maxRecDepth 100000 in
set_option maxHeartbeats 4000000 in
theorem asked_any (f : Nat → Int) (n1 s1 n4 s4 v x0 x1 x2 x3 x4 x5 x6 x7 x8 x9 x10 : Int) (K : Hid (Ok f n1 (s1 + 62135596800) n4 (s4 + 62135596800) x0 x1 x2 x3 x4 x5 x6 x7 x8 x9 x10)) (g cap : Nat) (w : World)
    (a1 : 0 ≤ n1) (a1' : n1 < 1000000000) (a4 : 0 ≤ n4) (a4' : n4 < 1000000000) (c1 : -2208988800 ≤ s1) (c1' : s1 < 4000000000) (c4 : -2208988800 ≤ s4) (c4' : s4 < 4000000000)
    (hb : ∀ i, i < 48 → w.cell? ⟨g, i, none⟩ = some (.int .u8 (f i))) :
    Calls Tryz.prog 26 #[.slice (some ⟨g, 0, none⟩) 48 cap, .int .u64 x8, .agg #[.int .i64 s1, .int .i64 n1], .agg #[.int .i64 s4, .int .i64 n4], .int .i64 v] w
      (Asked n1 (s1 + 62135596800) n4 (s4 + 62135596800) x0 x1 x2 x3 x4 x5 x6 x7 x8 x9 x10 w) := by
  have hmf : ∀ (fn : Fn) (first cap : Array Value) (w : World), (Instr.makeFunc fn first cap).run Tryz.prog w = .ok (.func fn first cap) w := fun _ _ _ _ => rfl
  have HB := hidI hb
  clear hb
  go_enter Tryz.func26, Tryz.ntmps26
  go_wp2_with fail
  obtain ⟨W, hW⟩ : ∃ W, W = (((((((w.alloc (.cells #[.slice (some ⟨g, 0, none⟩) 48 cap] 40)).alloc (.cells #[.int .u64 x8] 23)).alloc (.cells #[.int .i64 s1, .int .i64 n1] 27)).alloc (.cells #[.int .i64 s4, .int .i64 n4] 27)).alloc (.cells #[.int .i64 v] 3)).alloc (.cells #[.pointer none] 54)).alloc (.cells #[.int .i64 (-1)] 3)) := ⟨_, rfl⟩
  rw [← hW]
  have hBW : Below w.heap.size w W := by rw [hW]; go_grown
  have hsz : W.heap.size = w.heap.size + 7 := by rw [hW]; simp [World.size_alloc]
  have k0 : W.cell? ⟨w.heap.size, 0, none⟩ = some (.slice (some ⟨g, 0, none⟩) 48 cap) := by rw [hW]; simp [go_sem]
  have k1 : W.cell? ⟨w.heap.size + 1, 0, none⟩ = some (.int .u64 x8) := by rw [hW]; simp [go_sem]
  have k20 : W.cell? ⟨w.heap.size + 1 + 1, 0, none⟩ = some (.int .i64 s1) := by rw [hW]; simp [go_sem]
  have k21 : W.cell? ⟨w.heap.size + 1 + 1, 1, none⟩ = some (.int .i64 n1) := by rw [hW]; simp [go_sem]
  have k30 : W.cell? ⟨w.heap.size + 1 + 1 + 1, 0, none⟩ = some (.int .i64 s4) := by rw [hW]; simp [go_sem]
  have k31 : W.cell? ⟨w.heap.size + 1 + 1 + 1, 1, none⟩ = some (.int .i64 n4) := by rw [hW]; simp [go_sem]
  have k4 : W.cell? ⟨w.heap.size + 1 + 1 + 1 + 1, 0, none⟩ = some (.int .i64 v) := by rw [hW]; simp [go_sem]
  have k5 : W.cell? ⟨w.heap.size + 1 + 1 + 1 + 1 + 1 + 1, 0, none⟩ = some (.int .i64 (-1)) := by rw [hW]; simp [go_sem]
  have k6 : W.cell? ⟨w.heap.size + 1 + 1 + 1 + 1 + 1, 0, none⟩ = some (.pointer none) := by rw [hW]; simp [go_sem]
  have f5 : W.frozen? ⟨w.heap.size + 1 + 1 + 1 + 1 + 1 + 1, 0, none⟩ = false := by rw [hW]; simp [go_sem]
  have f6 : W.frozen? ⟨w.heap.size + 1 + 1 + 1 + 1 + 1, 0, none⟩ = false := by rw [hW]; simp [go_sem]
  clear hW
  generalize hq6 : w.heap.size + 1 + 1 + 1 + 1 + 1 + 1 = q6 at *
  generalize hq5 : w.heap.size + 1 + 1 + 1 + 1 + 1 = q5 at *
  generalize hq4 : w.heap.size + 1 + 1 + 1 + 1 = q4 at *
  generalize hq3 : w.heap.size + 1 + 1 + 1 = q3 at *
  generalize hq2 : w.heap.size + 1 + 1 = q2 at *
  generalize hq1 : w.heap.size + 1 = q1 at *
  have hA : Below W.heap.size W (W.alloc (.cells #[.bool false] 4)) := by go_grown
  have hBA := keepBelow hBW hA
  have hok : (W.alloc (.cells #[.bool false] 4)).cell? ⟨W.heap.size, 0, none⟩ = some (.bool false) := by simp [go_sem]
  have hokf : (W.alloc (.cells #[.bool false] 4)).frozen? ⟨W.heap.size, 0, none⟩ = false := by simp [go_sem]
  have l6 := World.block_lt_of_cell? _ _ k6
  have l5 := World.block_lt_of_cell? _ _ k5
  have hszA : (W.alloc (.cells #[.bool false] 4)).heap.size = W.heap.size + 1 := World.size_alloc _ _
  have g5 := (hA.frozen (p := ⟨q6, 0, none⟩) l5).trans f5
  have g6 := (hA.frozen (p := ⟨q5, 0, none⟩) l6).trans f6
  replace k0 := cell_later hA k0
  replace k1 := cell_later hA k1
  replace k20 := cell_later hA k20
  replace k21 := cell_later hA k21
  replace k30 := cell_later hA k30
  replace k31 := cell_later hA k31
  replace k4 := cell_later hA k4
  replace k5 := cell_later hA k5
  replace k6 := cell_later hA k6
  have HBA : Hid (∀ i, i < 48 → (W.alloc (.cells #[.bool false] 4)).cell? ⟨g, i, none⟩ = some (.int .u8 (f i))) := hidI (fun i hi => cell_later hBA (HB.out i hi))
  clear f5 f6 HB
  generalize hWA : W.alloc (.cells #[.bool false] 4) = WA at *
  refine (try_any 38 _ (Done n1 (s1 + 62135596800) n4 (s4 + 62135596800) x0 x1 x2 x3 x4 x5 x6 x7 x8 x9 x10 q5 q6 WA) (Died x2 x3 WA) W (cf_asked _)
    (by rw [hWA]; exact asked1_any f n1 s1 n4 s4 v x0 x1 x2 x3 x4 x5 x6 x7 x8 x9 x10 K g cap _ _ _ _ _ _ _ WA a1 a1' a4 a4' c1 c1' c4 c4' HBA.out k0 k1 k20 k21 k30 k31 k4 k5 k6 g5 g6 (by omega)) ?_ ?_).mono ?_
  · rintro w' ⟨R, w2, -, -, hb, -, -, -, rfl⟩
    have e : (⟨W.heap.size, 0, none⟩ : Addr).block < WA.heap.size := by show W.heap.size < _; omega
    refine ⟨?_, ?_⟩
    · rw [cell_off (by omega), cell_off (by omega), hb.cell e]; exact hok
    · rw [World.frozen?_setCell, World.frozen?_setCell, hb.frozen e]; exact hokf
  · rintro w' ⟨-, hb⟩
    have e : (⟨W.heap.size, 0, none⟩ : Addr).block < WA.heap.size := by show W.heap.size < _; omega
    exact ⟨(hb.cell e).trans hok, (hb.frozen e).trans hokf⟩
  rintro e w1 ⟨w2, (⟨⟨R, w3, h2, h3, hb, hR, lR, hr, rfl⟩, rfl, rfl⟩ | ⟨⟨hx, hb⟩, rfl, rfl⟩)⟩
  · have m5 := cell_later hb k5
    have m6 := cell_later hb k6
    have p5 : w3.frozen? ⟨q6, 0, none⟩ = false := (hb.frozen (p := ⟨q6, 0, none⟩) (by show q6 < _; omega)).trans g5
    have p6 : w3.frozen? ⟨q5, 0, none⟩ = false := (hb.frozen (p := ⟨q5, 0, none⟩) (by show q5 < _; omega)).trans g6
    have hB3 : Below w.heap.size w w3 := keepBelow hBA hb
    have hsame : Hid (∀ i, (((w3.setCell ⟨q6, 0, none⟩ (.int .i64 0)).setCell ⟨q5, 0, none⟩ (.pointer (some ⟨R, 0, none⟩))).setCell ⟨W.heap.size, 0, none⟩ (.bool true)).cell? ⟨R, i, none⟩ = w3.cell? ⟨R, i, none⟩) := hidI (fun i => by rw [cell_off (by omega), cell_off (by omega), cell_off (by omega)])
    have hBx : Below w.heap.size w (((w3.setCell ⟨q6, 0, none⟩ (.int .i64 0)).setCell ⟨q5, 0, none⟩ (.pointer (some ⟨R, 0, none⟩))).setCell ⟨W.heap.size, 0, none⟩ (.bool true)) :=
      ((hB3.setCell (p := ⟨q6, 0, none⟩) (by show _ ≤ q6; omega) _).setCell (p := ⟨q5, 0, none⟩) (by show _ ≤ q5; omega) _).setCell (p := ⟨W.heap.size, 0, none⟩) (by show _ ≤ W.heap.size; omega) _
    have hsx : (((w3.setCell ⟨q6, 0, none⟩ (.int .i64 0)).setCell ⟨q5, 0, none⟩ (.pointer (some ⟨R, 0, none⟩))).setCell ⟨W.heap.size, 0, none⟩ (.bool true)).heap.size = w3.heap.size := by simp [World.setCell]
    have m5x : (((w3.setCell ⟨q6, 0, none⟩ (.int .i64 0)).setCell ⟨q5, 0, none⟩ (.pointer (some ⟨R, 0, none⟩))).setCell ⟨W.heap.size, 0, none⟩ (.bool true)).cell? ⟨q6, 0, none⟩ = some (.int .i64 0) := by
      rw [cell_off (by omega), cell_off (by omega)]; exact World.cell?_setCell_same _ _ _ m5
    have m6x : (((w3.setCell ⟨q6, 0, none⟩ (.int .i64 0)).setCell ⟨q5, 0, none⟩ (.pointer (some ⟨R, 0, none⟩))).setCell ⟨W.heap.size, 0, none⟩ (.bool true)).cell? ⟨q5, 0, none⟩ = some (.pointer (some ⟨R, 0, none⟩)) := by
      rw [cell_off (by omega)]; exact World.cell?_setCell_same _ _ _ ((cell_off (by omega)).trans m6)
    have p5x : (((w3.setCell ⟨q6, 0, none⟩ (.int .i64 0)).setCell ⟨q5, 0, none⟩ (.pointer (some ⟨R, 0, none⟩))).setCell ⟨W.heap.size, 0, none⟩ (.bool true)).frozen? ⟨q6, 0, none⟩ = false := by rw [World.frozen?_setCell, World.frozen?_setCell, World.frozen?_setCell]; exact p5
    have p6x : (((w3.setCell ⟨q6, 0, none⟩ (.int .i64 0)).setCell ⟨q5, 0, none⟩ (.pointer (some ⟨R, 0, none⟩))).setCell ⟨W.heap.size, 0, none⟩ (.bool true)).frozen? ⟨q5, 0, none⟩ = false := by rw [World.frozen?_setCell, World.frozen?_setCell, World.frozen?_setCell]; exact p6
    have HR := hidI hr
    clear hr m5 m6 p5 p6 k0 k1 k20 k21 k30 k31 k4 k5 k6 g5 g6 HBA hok hokf hA hBA hBW hb
    generalize ((w3.setCell ⟨q6, 0, none⟩ (.int .i64 0)).setCell ⟨q5, 0, none⟩ (.pointer (some ⟨R, 0, none⟩))).setCell ⟨W.heap.size, 0, none⟩ (.bool true) = wx at *
    have hne : q6 ≠ q5 := by omega
    have hne5 : R ≠ q5 := by omega
    have hne6 : R ≠ q6 := by omega
    go_wp2_with fail
    go_region
    go_wp2_with fail
    refine bodyPost_ret (v := .tuple #[.pointer (some ⟨R, 0, none⟩), .int .i64 0]) (by simp [results, Tryz.results26, go_sem, m5x, m6x]) rfl ?_
    refine Or.inl ⟨R, rfl, h2, h3, ((hBx.setCell (p := ⟨q5, 0, none⟩) (by show _ ≤ q5; omega) _).setCell (p := ⟨q6, 0, none⟩) (by show _ ≤ q6; omega) _).drew, by omega, ?_, ?_⟩
    · show R < ((wx.setCell _ _).setCell _ _).heap.size
      simp [World.setCell]
      omega
    · exact RespAt.same (fun i => ((cell_off (w := wx.setCell _ _) hne6).trans (cell_off hne5)).trans (hsame.out i)) HR.out
  · have hB2 : Below w.heap.size w w2 := keepBelow hBA hb
    have m5 := cell_later hb k5
    have m6 := cell_later hb k6
    have p5 : w2.frozen? ⟨q6, 0, none⟩ = false := (hb.frozen (p := ⟨q6, 0, none⟩) (by show q6 < _; omega)).trans g5
    have p6 : w2.frozen? ⟨q5, 0, none⟩ = false := (hb.frozen (p := ⟨q5, 0, none⟩) (by show q5 < _; omega)).trans g6
    have hBx : Below w.heap.size w (w2.setCell ⟨W.heap.size, 0, none⟩ (.bool false)) := hB2.setCell (p := ⟨W.heap.size, 0, none⟩) (by show _ ≤ W.heap.size; omega) _
    have m5x : (w2.setCell ⟨W.heap.size, 0, none⟩ (.bool false)).cell? ⟨q6, 0, none⟩ = some (.int .i64 (-1)) := (cell_off (by omega)).trans m5
    have m6x : (w2.setCell ⟨W.heap.size, 0, none⟩ (.bool false)).cell? ⟨q5, 0, none⟩ = some (.pointer none) := (cell_off (by omega)).trans m6
    have p5x : (w2.setCell ⟨W.heap.size, 0, none⟩ (.bool false)).frozen? ⟨q6, 0, none⟩ = false := by rw [World.frozen?_setCell]; exact p5
    have p6x : (w2.setCell ⟨W.heap.size, 0, none⟩ (.bool false)).frozen? ⟨q5, 0, none⟩ = false := by rw [World.frozen?_setCell]; exact p6
    clear m5 m6 p5 p6 k0 k1 k20 k21 k30 k31 k4 k5 k6 g5 g6 HBA hok hokf hA hBA hBW hb
    generalize w2.setCell ⟨W.heap.size, 0, none⟩ (.bool false) = wx at *
    have hne : q6 ≠ q5 := by omega
    go_wp2_with fail
    go_region
    go_wp2_with fail
    refine bodyPost_ret (v := .tuple #[.pointer none, .int .i64 (-1)]) (by simp [results, Tryz.results26, go_sem, m5x, m6x]) rfl ?_
    exact Or.inr ⟨rfl, hx, ((hBx.setCell (p := ⟨q5, 0, none⟩) (by show _ ≤ q5; omega) _).setCell (p := ⟨q6, 0, none⟩) (by show _ ≤ q6; omega) _).drew⟩

end Go.Proofs.YtgifkanoghmijaaGreatDoor
