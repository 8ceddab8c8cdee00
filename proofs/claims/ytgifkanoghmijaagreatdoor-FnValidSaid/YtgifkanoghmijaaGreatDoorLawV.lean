/- The walk of FnValid: it answers true, whatever the input. -/
import Derived.Test.YtgifkanoghmijaaGreatDoorHdr
import Derived.Test.YtgifkanoghmijaaGreatDoorRow
import Derived.Deep.DeepCutAuto
import Derived.Deep.RegionHeld2
namespace Go.Proofs.YtgifkanoghmijaaGreatDoor
open Go.RowKit

set_option maxRecDepth 100000 in
set_option maxHeartbeats 4000000 in
theorem fnValid_any (h0 h1 h2 h3 h4 h5 h6 h7 h8 h9 h10 h11 h12 s1 n1 s4 n4 : Int)
    (q6 : 0 ≤ h6 ∧ h6 < 4294967296) (q7 : 0 ≤ h7 ∧ h7 < 4294967296) (q8 : 0 ≤ h8 ∧ h8 < 4294967296) (q9 : 0 ≤ h9 ∧ h9 < 18446744073709551616) (q10 : 0 ≤ h10 ∧ h10 < 18446744073709551616) (q11 : 0 ≤ h11 ∧ h11 < 18446744073709551616) (q12 : 0 ≤ h12 ∧ h12 < 18446744073709551616) (w : World) :
    Calls Tryz.prog 4 #[HV h0 h1 h2 h3 h4 h5 h6 h7 h8 h9 h10 h11 h12, .agg #[.int .i64 s1, .int .i64 n1], .agg #[.int .i64 s4, .int .i64 n4]] w fun e w' => e = .returned (.bool true) ∧ Below w.heap.size w w' := by
  have hh := hidI (fun w => header_any h0 h1 h2 h3 h4 h5 h6 h7 h8 h9 h10 h11 h12 w)
  have ha := hidI (fun w => answer_any h0 h1 h2 h3 h4 h5 h6 h7 h8 h9 h10 h11 h12 w)
  have Q := hidI (And.intro q6 (And.intro q7 (And.intro q8 (And.intro q9 (And.intro q10 (And.intro q11 q12))))))
  clear q6 q7 q8 q9 q10
  unfold HV at hh ha ⊢
  go_enter Tryz.func4, Tryz.ntmps4
  go_upto_region 2 with (first | (go_at_call 5; refine (hh.out _).mono ?_; rintro e w1 ⟨rfl, hb⟩))
  have k10 : w1.cell? ⟨w.heap.size + 1, 0, none⟩ = some (.int .i64 s1) := cell_later hb (by simp [go_sem])
  have k11 : w1.cell? ⟨w.heap.size + 1, 1, none⟩ = some (.int .i64 n1) := cell_later hb (by simp [go_sem])
  have k20 : w1.cell? ⟨w.heap.size + 1 + 1, 0, none⟩ = some (.int .i64 s4) := cell_later hb (by simp [go_sem])
  have k21 : w1.cell? ⟨w.heap.size + 1 + 1, 1, none⟩ = some (.int .i64 n4) := cell_later hb (by simp [go_sem])
  have hB : Below w.heap.size w w1 := keepBelow (by go_grown) hb
  clear hb
  generalize w.heap.size + 1 + 1 = r2 at *
  generalize w.heap.size + 1 = r1 at *
  obtain ⟨W, hW⟩ : ∃ W, W = w1.alloc (.cells #[.int .i64 h0, .int .i64 h1, .int .i64 h2, .int .i64 h3, .int .i64 h4, .int .i64 h5, .int .u32 h6, .int .u32 h7, .int .u32 h8, .int .u64 h9, .int .u64 h10, .int .u64 h11, .int .u64 h12] 28) := ⟨_, rfl⟩
  rw [← hW]
  have hW1 : Below w1.heap.size w1 W := by rw [hW]; go_grown
  have gX : W.heap[w1.heap.size]? = some (.cells #[.int .i64 h0, .int .i64 h1, .int .i64 h2, .int .i64 h3, .int .i64 h4, .int .i64 h5, .int .u32 h6, .int .u32 h7, .int .u32 h8, .int .u64 h9, .int .u64 h10, .int .u64 h11, .int .u64 h12] 28 (0, 0)) := by rw [hW]; exact heap_alloc_new _ _
  clear hW
  replace k10 := cell_later hW1 k10
  replace k11 := cell_later hW1 k11
  replace k20 := cell_later hW1 k20
  replace k21 := cell_later hW1 k21
  replace hB := keepBelow hB hW1
  have lX : w1.heap.size < W.heap.size := (Array.getElem?_eq_some_iff.1 gX).1
  clear hW1
  generalize w1.heap.size = X at *
  have HX := hidI gX
  clear gX
  go_cut [8, 9] (fun s8 s9 wx => ∃ A D : Nat, s8 = .pointer (some ⟨A, 0, none⟩) ∧ s9 = .pointer (some ⟨D, 0, none⟩) ∧ Below W.heap.size W wx ∧ wx.cell? ⟨A, 0, none⟩ = some (.int .i64 s1) ∧ wx.cell? ⟨A, 1, none⟩ = some (.int .i64 n1) ∧ wx.cell? ⟨D, 0, none⟩ = some (.int .i64 s4) ∧ wx.cell? ⟨D, 1, none⟩ = some (.int .i64 n4))
  case first =>
    go_region_held2 (fun w' => Below W.heap.size W w' ∧ w'.cell? ⟨r1, 0, none⟩ = some (.int .i64 s1) ∧ w'.cell? ⟨r1, 1, none⟩ = some (.int .i64 n1) ∧ w'.cell? ⟨r2, 0, none⟩ = some (.int .i64 s4) ∧ w'.cell? ⟨r2, 1, none⟩ = some (.int .i64 n4))
      (first | assumption | (refine (fun hq => ⟨hq, cell_later hq k10, cell_later hq k11, cell_later hq k20, cell_later hq k21⟩) ?_; first | assumption | (go_grown; done)))
      (first | (go_at_call 6; (first | (refine (moment_x s1 n1 _).mono ?_) | (refine (moment_x s4 n4 _).mono ?_)); rintro e w9 ⟨rfl, rfl⟩))
    all_goals (go_wp2_with fail; go_meet; go_split_ands; exact ⟨_, _, rfl, rfl, by assumption, by simp [go_sem], by simp [go_sem], by simp [go_sem], by simp [go_sem]⟩)
  case rest =>
    obtain ⟨A, D, rfl, rfl, hb, kA0, kA1, kD0, kD1⟩ := hcut
    have GX := hidI ((hb.block X lX).trans HX.out)
    replace k10 := cell_later hb k10
    replace k11 := cell_later hb k11
    replace k20 := cell_later hb k20
    replace k21 := cell_later hb k21
    replace hB := keepBelow hB hb
    clear hb lX HX
    have x0 := row_cell GX.out 0 _ rfl
    have x1 := row_cell GX.out 1 _ rfl
    have x2 := row_cell GX.out 2 _ rfl
    have x3 := row_cell GX.out 3 _ rfl
    have x4 := row_cell GX.out 4 _ rfl
    have x5 := row_cell GX.out 5 _ rfl
    have x6 := row_cell GX.out 6 _ rfl
    have x7 := row_cell GX.out 7 _ rfl
    have x8 := row_cell GX.out 8 _ rfl
    have x9 := row_cell GX.out 9 _ rfl
    have x10 := row_cell GX.out 10 _ rfl
    have x11 := row_cell GX.out 11 _ rfl
    have x12 := row_cell GX.out 12 _ rfl
    clear GX
    go_wp2_with fail
    refine (ha.out _).mono ?_
    rintro e w2 ⟨b, rfl, hb, hP⟩
    replace k10 := cell_later hb k10
    replace k11 := cell_later hb k11
    replace k20 := cell_later hb k20
    replace k21 := cell_later hb k21
    replace kA0 := cell_later hb kA0
    replace kA1 := cell_later hb kA1
    replace kD0 := cell_later hb kD0
    replace kD1 := cell_later hb kD1
    replace x0 := cell_later hb x0
    replace x1 := cell_later hb x1
    replace x2 := cell_later hb x2
    replace x3 := cell_later hb x3
    replace x4 := cell_later hb x4
    replace x5 := cell_later hb x5
    replace x6 := cell_later hb x6
    replace x7 := cell_later hb x7
    replace x8 := cell_later hb x8
    replace x9 := cell_later hb x9
    replace x10 := cell_later hb x10
    replace x11 := cell_later hb x11
    replace x12 := cell_later hb x12
    replace hB := keepBelow hB hb
    clear hb
    cases b
    · clear hP
      go_wp2_with (first | (go_at_call 10; refine (works_any _).mono ?_; rintro e w9 ⟨rfl, hb⟩))
      go_ret
      exact ⟨rfl, keepBelow hB hb⟩
    · have PA := hidI (hP rfl)
      clear hP
      by_cases hz : h10 = 0
      · clear PA
        go_wp2_with (first | (go_at_call 10; refine (works_any _).mono ?_; rintro e w9 ⟨rfl, hb⟩))
        go_ret
        exact ⟨rfl, keepBelow hB hb⟩
      · have hz1 := hz
        clear hz1
        go_wp2_with fail
        refine (recent_any s1 n1 _).mono ?_
        rintro e w3 ⟨b, rfl, hb, hP⟩
        replace k10 := cell_later hb k10
        replace k11 := cell_later hb k11
        replace k20 := cell_later hb k20
        replace k21 := cell_later hb k21
        replace kA0 := cell_later hb kA0
        replace kA1 := cell_later hb kA1
        replace kD0 := cell_later hb kD0
        replace kD1 := cell_later hb kD1
        replace x0 := cell_later hb x0
        replace x1 := cell_later hb x1
        replace x2 := cell_later hb x2
        replace x3 := cell_later hb x3
        replace x4 := cell_later hb x4
        replace x5 := cell_later hb x5
        replace x6 := cell_later hb x6
        replace x7 := cell_later hb x7
        replace x8 := cell_later hb x8
        replace x9 := cell_later hb x9
        replace x10 := cell_later hb x10
        replace x11 := cell_later hb x11
        replace x12 := cell_later hb x12
        replace hB := keepBelow hB hb
        clear hb
        cases b
        · clear hP
          go_wp2_with (first | (go_at_call 10; refine (works_any _).mono ?_; rintro e w9 ⟨rfl, hb⟩))
          go_ret
          exact ⟨rfl, keepBelow hB hb⟩
        · have P1 := hidI (hP rfl)
          clear hP
          go_wp2_with fail
          refine (recent_any s4 n4 _).mono ?_
          rintro e w4 ⟨b, rfl, hb, hP⟩
          replace k10 := cell_later hb k10
          replace k11 := cell_later hb k11
          replace k20 := cell_later hb k20
          replace k21 := cell_later hb k21
          replace kD0 := cell_later hb kD0
          replace kD1 := cell_later hb kD1
          replace x0 := cell_later hb x0
          replace x1 := cell_later hb x1
          replace x2 := cell_later hb x2
          replace x3 := cell_later hb x3
          replace x4 := cell_later hb x4
          replace x5 := cell_later hb x5
          replace x6 := cell_later hb x6
          replace x7 := cell_later hb x7
          replace x8 := cell_later hb x8
          replace x9 := cell_later hb x9
          replace x10 := cell_later hb x10
          replace x11 := cell_later hb x11
          replace x12 := cell_later hb x12
          replace hB := keepBelow hB hb
          clear hb
          cases b
          · clear hP
            go_wp2_with (first | (go_at_call 10; refine (works_any _).mono ?_; rintro e w9 ⟨rfl, hb⟩))
            go_ret
            exact ⟨rfl, keepBelow hB hb⟩
          · have P4 := hidI (hP rfl)
            clear hP
            go_wp2_with fail
            refine (current_any h11 q11.1 q11.2 _).mono ?_
            rintro e w5 ⟨b, rfl, hb, hP⟩
            replace k10 := cell_later hb k10
            replace k11 := cell_later hb k11
            replace k20 := cell_later hb k20
            replace k21 := cell_later hb k21
            replace x0 := cell_later hb x0
            replace x1 := cell_later hb x1
            replace x2 := cell_later hb x2
            replace x3 := cell_later hb x3
            replace x4 := cell_later hb x4
            replace x5 := cell_later hb x5
            replace x6 := cell_later hb x6
            replace x7 := cell_later hb x7
            replace x8 := cell_later hb x8
            replace x9 := cell_later hb x9
            replace x10 := cell_later hb x10
            replace x11 := cell_later hb x11
            replace x12 := cell_later hb x12
            replace hB := keepBelow hB hb
            clear hb
            cases b
            · clear hP
              go_wp2_with (first | (go_at_call 10; refine (works_any _).mono ?_; rintro e w9 ⟨rfl, hb⟩))
              go_ret
              exact ⟨rfl, keepBelow hB hb⟩
            · have C11 := hidI (hP rfl)
              clear hP
              go_wp2_with fail
              refine (current_any h12 q12.1 q12.2 _).mono ?_
              rintro e w6 ⟨b, rfl, hb, hP⟩
              replace k10 := cell_later hb k10
              replace k11 := cell_later hb k11
              replace k20 := cell_later hb k20
              replace k21 := cell_later hb k21
              replace x0 := cell_later hb x0
              replace x1 := cell_later hb x1
              replace x2 := cell_later hb x2
              replace x3 := cell_later hb x3
              replace x4 := cell_later hb x4
              replace x5 := cell_later hb x5
              replace x6 := cell_later hb x6
              replace x7 := cell_later hb x7
              replace x8 := cell_later hb x8
              replace x9 := cell_later hb x9
              replace x10 := cell_later hb x10
              replace x11 := cell_later hb x11
              replace x12 := cell_later hb x12
              replace hB := keepBelow hB hb
              clear hb
              cases b
              · clear hP
                go_wp2_with (first | (go_at_call 10; refine (works_any _).mono ?_; rintro e w9 ⟨rfl, hb⟩))
                go_ret
                exact ⟨rfl, keepBelow hB hb⟩
              · have C12 := hidI (hP rfl)
                clear hP
                obtain ⟨q6, q7, q8, q9, q10, -, -⟩ := Q.out
                have K := hidI (ok_hdr h0 h1 h2 h3 h4 h5 h6 h7 h8 h9 h10 h11 h12 PA.out C11.out C12.out s1 n1 s4 n4 P1.out P4.out q6 q7 q8 q9 q10 q11 q12)
                obtain ⟨⟨p0, p1, pv, p2, p3, p4, p5, p6, p7, p8, p9⟩, pm, -, -⟩ := PA.out
                obtain ⟨u1, u2, u3, u4⟩ := P1.out
                obtain ⟨v1, v2, v3, v4⟩ := P4.out
                have hl : Hid ((h0 * 64 + h1 * 8 + h2) / 64 % 4 = h0) := hidI (by omega)
                have hv5 : Hid ((h0 * 64 + h1 * 8 + h2) / 8 % 8 < 5) := hidI (by omega)
                have hby := hidI (fun w => bytes_any h0 h1 h2 h3 h4 h5 h6 h7 h8 h9 h10 h11 h12 p0 p1 (by omega) (by omega) p2 p3 p4 p5 p6 p7 p8 p9 q6.1 q6.2 q7.1 q7.2 q8.1 q8.2 q9.1 q9.2 q10.1 q10.2 q11.1 q11.2 q12.1 q12.2 w)
                clear pv pm Q
                go_wp2_with fail
                refine (hby.out _).mono ?_
                intro e w7 h
                obtain ⟨g, c, rfl, hm, hb, -, hB7⟩ := fresh48 (by simp [hdr]) h
                have HB := hidI hB7
                clear h hB7
                replace k10 := cell_later hb k10
                replace k11 := cell_later hb k11
                replace k20 := cell_later hb k20
                replace k21 := cell_later hb k21
                replace x0 := cell_later hb x0
                replace x1 := cell_later hb x1
                replace x2 := cell_later hb x2
                replace x3 := cell_later hb x3
                replace x4 := cell_later hb x4
                replace x5 := cell_later hb x5
                replace x6 := cell_later hb x6
                replace x7 := cell_later hb x7
                replace x8 := cell_later hb x8
                replace x9 := cell_later hb x9
                replace x10 := cell_later hb x10
                replace x11 := cell_later hb x11
                replace x12 := cell_later hb x12
                replace hB := keepBelow hB hb
                clear hb
                go_wp2_with fail
                refine (implQuery_any (hf h0 h1 h2 h3 h4 h5 h6 h7 h8 h9 h10 h11 h12) n1 s1 n4 s4 h1 (h0 * 64 + h1 * 8 + h2) h3 h4 h5 h6 h7 h8 h9 h10 h11 h12 K g _ _ u3 u4 v3 v4 (by omega) (by omega) (by omega) (by omega) HB.out).mono ?_
                rintro e w8 ⟨a, m, rfl, hb, hS⟩
                have HB8 := hidI (fun i hi => cell_later hb (HB.out i hi))
                clear HB
                replace k10 := cell_later hb k10
                replace k11 := cell_later hb k11
                replace k20 := cell_later hb k20
                replace k21 := cell_later hb k21
                replace x0 := cell_later hb x0
                replace x1 := cell_later hb x1
                replace x2 := cell_later hb x2
                replace x3 := cell_later hb x3
                replace x4 := cell_later hb x4
                replace x5 := cell_later hb x5
                replace x6 := cell_later hb x6
                replace x7 := cell_later hb x7
                replace x8 := cell_later hb x8
                replace x9 := cell_later hb x9
                replace x10 := cell_later hb x10
                replace x11 := cell_later hb x11
                replace x12 := cell_later hb x12
                replace hB := keepBelow hB hb
                clear hb
                rcases hS with ⟨rfl, -, -, hA⟩ | ⟨rfl, hA, -⟩
                · obtain ⟨cs, rfl, hcs⟩ : ∃ cs : Array Value, a = .agg cs ∧ Hid (cs.size = 19 ∧ cs.all (·.oneCell') = true) := ans_row hA
                  clear hA
                  go_upto_region 7 with (refine wpList_store_row (by rfl) 37 _ _ (by rfl) w8.heap.size cs (by rfl) (by rfl) 37 _ (heap_alloc_new _ _) (by rw [hcs.out.1]; kernel_rfl) (by rw [hcs.out.1]; rfl) hcs.out.2 ?_)
                  obtain ⟨W9, hW⟩ : ∃ W9, W9 = World.setRow (w8.alloc (.cells #[.int .i64 0, .int .i64 0, .int .i64 0, .int .i64 0, .int .i64 0, .int .i64 0, .int .i64 0, .int .i64 0, .int .i64 0, .int .i64 0, .int .i64 0, .int .i64 0, .int .u32 0, .int .i64 0, .int .i64 0, .int .i64 0, .int .i64 0, .string ⟨#[]⟩, .bool false] 37)) w8.heap.size cs := ⟨_, rfl⟩
                  rw [← hW]
                  have hb : Below w8.heap.size w8 W9 := by rw [hW]; exact alloc_row_below w8 _ cs
                  clear hW
                  have HB9 := hidI (fun i hi => cell_later hb (HB8.out i hi))
                  replace k10 := cell_later hb k10
                  replace k11 := cell_later hb k11
                  replace k20 := cell_later hb k20
                  replace k21 := cell_later hb k21
                  replace x0 := cell_later hb x0
                  replace x1 := cell_later hb x1
                  replace x2 := cell_later hb x2
                  replace x3 := cell_later hb x3
                  replace x4 := cell_later hb x4
                  replace x5 := cell_later hb x5
                  replace x6 := cell_later hb x6
                  replace x7 := cell_later hb x7
                  replace x8 := cell_later hb x8
                  replace x9 := cell_later hb x9
                  replace x10 := cell_later hb x10
                  replace x11 := cell_later hb x11
                  replace x12 := cell_later hb x12
                  replace hB := keepBelow hB hb
                  clear hb
                  clear HB8
                  go_wp2_with fail
                  refine (implValid_any (hf h0 h1 h2 h3 h4 h5 h6 h7 h8 h9 h10 h11 h12) n1 s1 n4 s4 h1 (h0 * 64 + h1 * 8 + h2) h3 h4 h5 h6 h7 h8 h9 h10 h11 h12 K hv5 g _ _ u3 u4 v3 v4 (by omega) (by omega) (by omega) (by omega) HB9.out).mono ?_
                  rw [hl.out]
                  rintro e w9 ⟨m, rfl, hb, hV⟩
                  replace k10 := cell_later hb k10
                  replace k11 := cell_later hb k11
                  replace k20 := cell_later hb k20
                  replace k21 := cell_later hb k21
                  replace x0 := cell_later hb x0
                  replace x1 := cell_later hb x1
                  replace x2 := cell_later hb x2
                  replace x3 := cell_later hb x3
                  replace x4 := cell_later hb x4
                  replace x5 := cell_later hb x5
                  replace x6 := cell_later hb x6
                  replace x7 := cell_later hb x7
                  replace x8 := cell_later hb x8
                  replace x9 := cell_later hb x9
                  replace x10 := cell_later hb x10
                  replace x11 := cell_later hb x11
                  replace x12 := cell_later hb x12
                  replace hB := keepBelow hB hb
                  clear hb
                  by_cases hm0 : m = 0
                  · obtain ⟨j1, j2, j3⟩ := hV hm0
                    clear hV
                    have j4 : (h0 != 3) = true := by simp [j3]
                    go_wp2_with (first | (go_at_call 10; refine (works_any _).mono ?_; rintro e w9 ⟨rfl, hb⟩))
                    go_ret
                    exact ⟨rfl, keepBelow hB hb⟩
                  · clear hV
                    go_wp2_with (first | (go_at_call 10; refine (works_any _).mono ?_; rintro e w9 ⟨rfl, hb⟩))
                    go_ret
                    exact ⟨rfl, keepBelow hB hb⟩
                · obtain ⟨cs, rfl, hcs⟩ : ∃ cs : Array Value, a = .agg cs ∧ Hid (cs.size = 19 ∧ cs.all (·.oneCell') = true) := ⟨_, hA, hidI ⟨rfl, by simp [Value.oneCell']⟩⟩
                  clear hA
                  go_upto_region 7 with (refine wpList_store_row (by rfl) 37 _ _ (by rfl) w8.heap.size cs (by rfl) (by rfl) 37 _ (heap_alloc_new _ _) (by rw [hcs.out.1]; kernel_rfl) (by rw [hcs.out.1]; rfl) hcs.out.2 ?_)
                  obtain ⟨W9, hW⟩ : ∃ W9, W9 = World.setRow (w8.alloc (.cells #[.int .i64 0, .int .i64 0, .int .i64 0, .int .i64 0, .int .i64 0, .int .i64 0, .int .i64 0, .int .i64 0, .int .i64 0, .int .i64 0, .int .i64 0, .int .i64 0, .int .u32 0, .int .i64 0, .int .i64 0, .int .i64 0, .int .i64 0, .string ⟨#[]⟩, .bool false] 37)) w8.heap.size cs := ⟨_, rfl⟩
                  rw [← hW]
                  have hb : Below w8.heap.size w8 W9 := by rw [hW]; exact alloc_row_below w8 _ cs
                  clear hW
                  replace k10 := cell_later hb k10
                  replace k11 := cell_later hb k11
                  replace k20 := cell_later hb k20
                  replace k21 := cell_later hb k21
                  replace x0 := cell_later hb x0
                  replace x1 := cell_later hb x1
                  replace x2 := cell_later hb x2
                  replace x3 := cell_later hb x3
                  replace x4 := cell_later hb x4
                  replace x5 := cell_later hb x5
                  replace x6 := cell_later hb x6
                  replace x7 := cell_later hb x7
                  replace x8 := cell_later hb x8
                  replace x9 := cell_later hb x9
                  replace x10 := cell_later hb x10
                  replace x11 := cell_later hb x11
                  replace x12 := cell_later hb x12
                  replace hB := keepBelow hB hb
                  clear hb
                  go_wp2_with (first | (go_at_call 10; refine (works_any _).mono ?_; rintro e w9 ⟨rfl, hb⟩))
                  go_ret
                  exact ⟨rfl, keepBelow hB hb⟩

end Go.Proofs.YtgifkanoghmijaaGreatDoor
