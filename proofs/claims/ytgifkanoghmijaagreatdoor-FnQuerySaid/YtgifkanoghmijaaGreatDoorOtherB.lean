/- impl.asked and impl.Query of an answer to another number than was sent. -/
import Derived.Test.YtgifkanoghmijaaGreatDoorOther
import Derived.Test.YtgifkanoghmijaaGreatDoorAsked
import Derived.Test.YtgifkanoghmijaaGreatDoorQry
import Derived.Laws.CopyOwn
import Derived.Laws.Tables
import Derived.Great.BuildSlice
namespace Go.Proofs.YtgifkanoghmijaaGreatDoor
open Go.RowKit

set_option maxRecDepth 100000 in
set_option maxHeartbeats 4000000 in
theorem asked_other (f : Nat → Int) (n1 s1 n4 s4 v x0 x1 x2 x3 x4 x5 x6 x7 x8 x9 x10 T : Int) (K : Hid (Ok f n1 (s1 + 62135596800) n4 (s4 + 62135596800) x0 x1 x2 x3 x4 x5 x6 x7 x8 x9 x10)) (g cap : Nat) (w : World) (hT : Hid (x8 ≠ T))
    (a1 : 0 ≤ n1) (a1' : n1 < 1000000000) (a4 : 0 ≤ n4) (a4' : n4 < 1000000000) (c1 : -2208988800 ≤ s1) (c1' : s1 < 4000000000) (c4 : -2208988800 ≤ s4) (c4' : s4 < 4000000000)
    (hb : ∀ i, i < 48 → w.cell? ⟨g, i, none⟩ = some (.int .u8 (f i))) :
    Calls Tryz.prog 26 #[.slice (some ⟨g, 0, none⟩) 48 cap, .int .u64 T, .agg #[.int .i64 s1, .int .i64 n1], .agg #[.int .i64 s4, .int .i64 n4], .int .i64 v] w
      (fun e w' => ∃ m : Int, e = .returned (.tuple #[.pointer none, .int .i64 m]) ∧ m ≠ 0 ∧ Below w.heap.size w w') := by
  have hmf : ∀ (fn : Fn) (first cap : Array Value) (w : World), (Instr.makeFunc fn first cap).run Tryz.prog w = .ok (.func fn first cap) w := fun _ _ _ _ => rfl
  have HB := hidI hb
  clear hb
  go_enter Tryz.func26, Tryz.ntmps26
  go_wp2_with fail
  obtain ⟨W, hW⟩ : ∃ W, W = (((((((w.alloc (.cells #[.slice (some ⟨g, 0, none⟩) 48 cap] 40)).alloc (.cells #[.int .u64 T] 23)).alloc (.cells #[.int .i64 s1, .int .i64 n1] 27)).alloc (.cells #[.int .i64 s4, .int .i64 n4] 27)).alloc (.cells #[.int .i64 v] 3)).alloc (.cells #[.pointer none] 54)).alloc (.cells #[.int .i64 (-1)] 3)) := ⟨_, rfl⟩
  rw [← hW]
  have hBW : Below w.heap.size w W := by rw [hW]; go_grown
  have hsz : W.heap.size = w.heap.size + 7 := by rw [hW]; simp [World.size_alloc]
  have k0 : W.cell? ⟨w.heap.size, 0, none⟩ = some (.slice (some ⟨g, 0, none⟩) 48 cap) := by rw [hW]; simp [go_sem]
  have k1 : W.cell? ⟨w.heap.size + 1, 0, none⟩ = some (.int .u64 T) := by rw [hW]; simp [go_sem]
  have k20 : W.cell? ⟨w.heap.size + 1 + 1, 0, none⟩ = some (.int .i64 s1) := by rw [hW]; simp [go_sem]
  have k21 : W.cell? ⟨w.heap.size + 1 + 1, 1, none⟩ = some (.int .i64 n1) := by rw [hW]; simp [go_sem]
  have k30 : W.cell? ⟨w.heap.size + 1 + 1 + 1, 0, none⟩ = some (.int .i64 s4) := by rw [hW]; simp [go_sem]
  have k31 : W.cell? ⟨w.heap.size + 1 + 1 + 1, 1, none⟩ = some (.int .i64 n4) := by rw [hW]; simp [go_sem]
  have k4 : W.cell? ⟨w.heap.size + 1 + 1 + 1 + 1, 0, none⟩ = some (.int .i64 v) := by rw [hW]; simp [go_sem]
  have k5 : W.cell? ⟨w.heap.size + 1 + 1 + 1 + 1 + 1 + 1, 0, none⟩ = some (.int .i64 (-1)) := by rw [hW]; simp [go_sem]
  have k6 : W.cell? ⟨w.heap.size + 1 + 1 + 1 + 1 + 1, 0, none⟩ = some (.pointer none) := by rw [hW]; simp [go_sem]
  have f5 : W.frozen? ⟨w.heap.size + 1 + 1 + 1 + 1 + 1 + 1, 0, none⟩ = false := by rw [hW]; simp [go_sem]
  have f6 : W.frozen? ⟨w.heap.size + 1 + 1 + 1 + 1 + 1, 0, none⟩ = false := by rw [hW]; simp [go_sem]
  clear hW
  generalize hq6 : w.heap.size + 1 + 1 + 1 + 1 + 1 + 1 = q6 at *
  generalize hq5 : w.heap.size + 1 + 1 + 1 + 1 + 1 = q5 at *
  generalize hq4 : w.heap.size + 1 + 1 + 1 + 1 = q4 at *
  generalize hq3 : w.heap.size + 1 + 1 + 1 = q3 at *
  generalize hq2 : w.heap.size + 1 + 1 = q2 at *
  generalize hq1 : w.heap.size + 1 = q1 at *
  have hA : Below W.heap.size W (W.alloc (.cells #[.bool false] 4)) := by go_grown
  have hBA := keepBelow hBW hA
  have hok : (W.alloc (.cells #[.bool false] 4)).cell? ⟨W.heap.size, 0, none⟩ = some (.bool false) := by simp [go_sem]
  have hokf : (W.alloc (.cells #[.bool false] 4)).frozen? ⟨W.heap.size, 0, none⟩ = false := by simp [go_sem]
  have l6 := World.block_lt_of_cell? _ _ k6
  have l5 := World.block_lt_of_cell? _ _ k5
  have hszA : (W.alloc (.cells #[.bool false] 4)).heap.size = W.heap.size + 1 := World.size_alloc _ _
  have g5 := (hA.frozen (p := ⟨q6, 0, none⟩) l5).trans f5
  have g6 := (hA.frozen (p := ⟨q5, 0, none⟩) l6).trans f6
  replace k0 := cell_later hA k0
  replace k1 := cell_later hA k1
  replace k20 := cell_later hA k20
  replace k21 := cell_later hA k21
  replace k30 := cell_later hA k30
  replace k31 := cell_later hA k31
  replace k4 := cell_later hA k4
  replace k5 := cell_later hA k5
  replace k6 := cell_later hA k6
  have HBA : Hid (∀ i, i < 48 → (W.alloc (.cells #[.bool false] 4)).cell? ⟨g, i, none⟩ = some (.int .u8 (f i))) := hidI (fun i hi => cell_later hBA (HB.out i hi))
  clear f5 f6 HB
  generalize hWA : W.alloc (.cells #[.bool false] 4) = WA at *
  refine (try_any 38 _ (Bad q6 WA) (fun _ => False) W (cf_asked _)
    (by rw [hWA]; exact asked1_other f n1 s1 n4 s4 v x0 x1 x2 x3 x4 x5 x6 x7 x8 x9 x10 T K g cap _ _ _ _ _ _ _ WA hT a1 a1' a4 a4' c1 c1' c4 c4' HBA.out k0 k1 k20 k21 k30 k31 k4 k5 k6 g5 g6 (by omega)) ?_ (fun _ h => h.elim)).mono ?_
  · rintro w' ⟨m, w2, -, hb, rfl⟩
    have e : (⟨W.heap.size, 0, none⟩ : Addr).block < WA.heap.size := by show W.heap.size < _; omega
    refine ⟨?_, ?_⟩
    · rw [cell_off (by omega), hb.cell e]; exact hok
    · rw [World.frozen?_setCell, hb.frozen e]; exact hokf
  rintro e w1 ⟨w2, (⟨⟨m, w3, hm, hb, rfl⟩, rfl, rfl⟩ | ⟨hf, -, -⟩)⟩
  · have m5 := cell_later hb k5
    have m6 := cell_later hb k6
    have p5 : w3.frozen? ⟨q6, 0, none⟩ = false := (hb.frozen (p := ⟨q6, 0, none⟩) (by show q6 < _; omega)).trans g5
    have p6 : w3.frozen? ⟨q5, 0, none⟩ = false := (hb.frozen (p := ⟨q5, 0, none⟩) (by show q5 < _; omega)).trans g6
    have hB3 : Below w.heap.size w w3 := keepBelow hBA hb
    have hBx : Below w.heap.size w ((w3.setCell ⟨q6, 0, none⟩ (.int .i64 m)).setCell ⟨W.heap.size, 0, none⟩ (.bool true)) :=
      (hB3.setCell (p := ⟨q6, 0, none⟩) (by show _ ≤ q6; omega) _).setCell (p := ⟨W.heap.size, 0, none⟩) (by show _ ≤ W.heap.size; omega) _
    have m5x : ((w3.setCell ⟨q6, 0, none⟩ (.int .i64 m)).setCell ⟨W.heap.size, 0, none⟩ (.bool true)).cell? ⟨q6, 0, none⟩ = some (.int .i64 m) := by
      rw [cell_off (by omega)]; exact World.cell?_setCell_same _ _ _ m5
    have m6x : ((w3.setCell ⟨q6, 0, none⟩ (.int .i64 m)).setCell ⟨W.heap.size, 0, none⟩ (.bool true)).cell? ⟨q5, 0, none⟩ = some (.pointer none) := by
      rw [cell_off (by omega), cell_off (by omega)]; exact m6
    have p5x : ((w3.setCell ⟨q6, 0, none⟩ (.int .i64 m)).setCell ⟨W.heap.size, 0, none⟩ (.bool true)).frozen? ⟨q6, 0, none⟩ = false := by rw [World.frozen?_setCell, World.frozen?_setCell]; exact p5
    have p6x : ((w3.setCell ⟨q6, 0, none⟩ (.int .i64 m)).setCell ⟨W.heap.size, 0, none⟩ (.bool true)).frozen? ⟨q5, 0, none⟩ = false := by rw [World.frozen?_setCell, World.frozen?_setCell]; exact p6
    clear m5 m6 p5 p6 k0 k1 k20 k21 k30 k31 k4 k5 k6 g5 g6 HBA hok hokf hA hBA hBW hb
    have HM := hidI hm
    clear hm
    generalize (w3.setCell ⟨q6, 0, none⟩ (.int .i64 m)).setCell ⟨W.heap.size, 0, none⟩ (.bool true) = wx at *
    have hne : q6 ≠ q5 := by omega
    go_wp2_with fail
    go_region
    go_wp2_with fail
    refine bodyPost_ret (v := .tuple #[.pointer none, .int .i64 m]) (by simp [results, Tryz.results26, go_sem, m5x, m6x]) rfl ?_
    exact ⟨m, rfl, HM.out, ((hBx.setCell (p := ⟨q5, 0, none⟩) (by show _ ≤ q5; omega) _).setCell (p := ⟨q6, 0, none⟩) (by show _ ≤ q6; omega) _).drew⟩
  · exact hf.elim

/-- No answer, and a number that is not zero. -/
def NoQuery (w : World) (e : Ending) (w' : World) : Prop :=
  ∃ (cs : Array Value) (m : Int), e = .returned (.tuple #[.agg cs, .int .i64 m]) ∧ cs.size = 19 ∧ cs.all (·.oneCell') = true ∧ m ≠ 0 ∧ Below w.heap.size w w'

set_option maxRecDepth 100000 in
set_option maxHeartbeats 4000000 in
theorem implQuery_other (f : Nat → Int) (n1 s1 n4 s4 v x0 x1 x2 x3 x4 x5 x6 x7 x8 x9 x10 T : Int) (K : Hid (Ok f n1 (s1 + 62135596800) n4 (s4 + 62135596800) x0 x1 x2 x3 x4 x5 x6 x7 x8 x9 x10)) (g cap : Nat) (w : World) (hT : Hid (x8 ≠ T))
    (a1 : 0 ≤ n1) (a1' : n1 < 1000000000) (a4 : 0 ≤ n4) (a4' : n4 < 1000000000) (c1 : -2208988800 ≤ s1) (c1' : s1 < 4000000000) (c4 : -2208988800 ≤ s4) (c4' : s4 < 4000000000)
    (hb : ∀ i, i < 48 → w.cell? ⟨g, i, none⟩ = some (.int .u8 (f i))) :
    Calls Tryz.prog 11 #[.slice (some ⟨g, 0, none⟩) 48 cap, .int .u64 T, .agg #[.int .i64 s1, .int .i64 n1], .agg #[.int .i64 s4, .int .i64 n4], .int .i64 v] w
      (NoQuery w) := by
  have hmf : ∀ (fn : Fn) (first cap : Array Value) (w : World), (Instr.makeFunc fn first cap).run Tryz.prog w = .ok (.func fn first cap) w := fun _ _ _ _ => rfl
  have HB := hidI hb
  clear hb
  go_enter Tryz.func11, Tryz.ntmps11
  go_wp2_with fail
  refine (asked_other f n1 s1 n4 s4 v x0 x1 x2 x3 x4 x5 x6 x7 x8 x9 x10 T K g cap _ hT a1 a1' a4 a4' c1 c1' c4 c4' (fun i hi => cell_later (w := w) (by go_grown) (HB.out i hi))).mono ?_
  rintro e w1 ⟨m, rfl, hm, hb⟩
  have HM := hidI hm
  clear hm
  have gQ : w1.heap[w.heap.size + 1 + 1]? = some (.cells #[.int .i64 0, .int .i64 0, .int .i64 0, .int .i64 0, .int .i64 0, .int .i64 0, .int .i64 0, .int .i64 0, .int .i64 0, .int .i64 0, .int .i64 0, .int .i64 0, .int .u32 0, .int .i64 0, .int .i64 0, .int .i64 0, .int .i64 0, .string ByteArray.empty, .bool false] 37 (0, 0)) := (hb.block (w.heap.size + 1 + 1) (by simp [World.size_alloc])).trans (by
    have := heap_alloc_new ((w.alloc (.cells #[.int .i64 s1, .int .i64 n1] 27)).alloc (.cells #[.int .i64 s4, .int .i64 n4] 27)) (.cells #[.int .i64 0, .int .i64 0, .int .i64 0, .int .i64 0, .int .i64 0, .int .i64 0, .int .i64 0, .int .i64 0, .int .i64 0, .int .i64 0, .int .i64 0, .int .i64 0, .int .u32 0, .int .i64 0, .int .i64 0, .int .i64 0, .int .i64 0, .string ByteArray.empty, .bool false] 37)
    rw [World.size_alloc, World.size_alloc] at this
    exact this)
  have hB : Below w.heap.size w w1 := keepBelow (by go_grown) hb
  have l2 : w.heap.size + 1 + 1 < w1.heap.size := (Array.getElem?_eq_some_iff.1 gQ).1
  have hq0 : w.heap.size ≤ w.heap.size + 1 + 1 := by omega
  clear hb
  generalize w.heap.size + 1 + 1 = q at *
  have GQ := hidI gQ
  clear gQ
  obtain ⟨zs, hzz, hzq⟩ : ∃ zs : Array Value, Hid (zs = #[.int .i64 0, .int .i64 0, .int .i64 0, .int .i64 0, .int .i64 0, .int .i64 0, .int .i64 0, .int .i64 0, .int .i64 0, .int .i64 0, .int .i64 0, .int .i64 0, .int .u32 0, .int .i64 0, .int .i64 0, .int .i64 0, .int .i64 0, .string ByteArray.empty, .bool false]) ∧ Hid (w1.heap[q]? = some (.cells zs 37 (0, 0))) := ⟨_, hidI rfl, GQ⟩
  have HBu : Hid (Tryz.prog.built 37 [] = some zs) := hidI (by rw [hzz.out]; kernel_rfl)
  have HI : Hid ((Tryz.prog.info? 37).map (·.size) = some zs.size) := hidI (by rw [hzz.out]; kernel_rfl)
  have ho : Hid (zs.all (·.oneCell') = true) := hidI (by rw [hzz.out]; simp [Value.oneCell'])
  clear GQ
  go_upto_region 3 with fail
  obtain ⟨W, hW⟩ : ∃ W, W = w1.alloc (.cells #[.pointer none] 54) := ⟨_, rfl⟩
  rw [← hW]
  have hBW : Below w.heap.size w W := by rw [hW]; exact hB.alloc hB.size _
  have GX : Hid (W.heap[q]? = some (.cells zs 37 (0, 0))) := hidI (((show Below w1.heap.size w1 W by rw [hW]; exact (Below.refl _ _).alloc (Nat.le_refl _) _).block q l2).trans hzq.out)
  clear hW hzq
  go_wp2_with (first | (refine wpList_buildTo (by rfl) 37 #[] (by rfl) _ (by rfl) zs (by simpa using HBu.out) ?_) | (refine wpList_store_row (by rfl) 37 _ _ (by rfl) q zs (by rfl) (by rfl) 37 zs GX.out HI.out rfl ho.out ?_))
  have hgr := setRow_heap W q zs zs 37 (0, 0) GX.out
  exact bodyPost_ret (v := .tuple #[.agg zs, .int .i64 m]) (results_cell_slot Tryz.results11 _ _ q 37 zs (0, 0) _ rfl hgr Tryz.underlying37 rfl HI.out rfl) rfl ⟨zs, m, rfl, by rw [hzz.out]; rfl, ho.out, HM.out, below_setRow hBW hq0 zs⟩

end Go.Proofs.YtgifkanoghmijaaGreatDoor
