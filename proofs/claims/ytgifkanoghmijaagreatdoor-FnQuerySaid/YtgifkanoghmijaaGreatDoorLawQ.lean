/- The walk of FnQuery, joined: it answers true, whatever the input. -/
import Derived.Test.YtgifkanoghmijaaGreatDoorLq2
import Derived.Test.YtgifkanoghmijaaGreatDoorLq3
import Derived.Test.YtgifkanoghmijaaGreatDoorLq5
import Derived.Test.YtgifkanoghmijaaGreatDoorLq8
import Derived.Test.YtgifkanoghmijaaGreatDoorLq9
import Derived.Test.YtgifkanoghmijaaGreatDoorLq10
import Derived.Test.YtgifkanoghmijaaGreatDoorLq11
import Derived.Test.YtgifkanoghmijaaGreatDoorLq12
import Derived.Test.YtgifkanoghmijaaGreatDoorLq13
import Derived.Test.YtgifkanoghmijaaGreatDoorLq14
namespace Go.Proofs.YtgifkanoghmijaaGreatDoor
open Go.RowKit

set_option maxRecDepth 1000000 in
set_option maxHeartbeats 8000000 in
theorem fnQuery_any (h0 h1 h2 h3 h4 h5 h6 h7 h8 h9 h10 h11 h12 T s1 n1 s4 n4 : Int)
    (q6 : 0 ≤ h6 ∧ h6 < 4294967296) (q7 : 0 ≤ h7 ∧ h7 < 4294967296) (q8 : 0 ≤ h8 ∧ h8 < 4294967296) (q9 : 0 ≤ h9 ∧ h9 < 18446744073709551616) (q10 : 0 ≤ h10 ∧ h10 < 18446744073709551616) (q11 : 0 ≤ h11 ∧ h11 < 18446744073709551616) (q12 : 0 ≤ h12 ∧ h12 < 18446744073709551616) (w : World) :
    Calls Tryz.prog 3 #[HV h0 h1 h2 h3 h4 h5 h6 h7 h8 h9 h10 h11 h12, .int .u64 T, .agg #[.int .i64 s1, .int .i64 n1], .agg #[.int .i64 s4, .int .i64 n4]] w fun e w' => e = .returned (.bool true) ∧ Below w.heap.size w w' := by
  have hh := hidI (fun w => header_any h0 h1 h2 h3 h4 h5 h6 h7 h8 h9 h10 h11 h12 w)
  have Q := hidI (And.intro q6 (And.intro q7 (And.intro q8 (And.intro q9 (And.intro q10 (And.intro q11 q12))))))
  clear q6 q7 q8 q9 q10 q11 q12
  unfold HV at hh ⊢
  go_enter Tryz.func3, Tryz.ntmps3
  go_upto_region 2 with (first | (go_at_call 5; refine (hh.out _).mono ?_; rintro e w1 ⟨rfl, hb⟩))
  clear hh
  have k10 : w1.cell? ⟨w.heap.size + 1, 0, none⟩ = some (.int .i64 s1) := cell_later hb (by simp [go_sem])
  have k11 : w1.cell? ⟨w.heap.size + 1, 1, none⟩ = some (.int .i64 n1) := cell_later hb (by simp [go_sem])
  have k20 : w1.cell? ⟨w.heap.size + 1 + 1, 0, none⟩ = some (.int .i64 s4) := cell_later hb (by simp [go_sem])
  have k21 : w1.cell? ⟨w.heap.size + 1 + 1, 1, none⟩ = some (.int .i64 n4) := cell_later hb (by simp [go_sem])
  have hB : Below w.heap.size w w1 := keepBelow (by go_grown) hb
  clear hb
  generalize w.heap.size + 1 + 1 = r2 at *
  generalize w.heap.size + 1 = r1 at *
  obtain ⟨W, hW⟩ : ∃ W, W = w1.alloc (.cells #[.int .i64 h0, .int .i64 h1, .int .i64 h2, .int .i64 h3, .int .i64 h4, .int .i64 h5, .int .u32 h6, .int .u32 h7, .int .u32 h8, .int .u64 h9, .int .u64 h10, .int .u64 h11, .int .u64 h12] 28) := ⟨_, rfl⟩
  rw [← hW]
  have hW1 : Below w1.heap.size w1 W := by rw [hW]; go_grown
  have gX : W.heap[w1.heap.size]? = some (.cells #[.int .i64 h0, .int .i64 h1, .int .i64 h2, .int .i64 h3, .int .i64 h4, .int .i64 h5, .int .u32 h6, .int .u32 h7, .int .u32 h8, .int .u64 h9, .int .u64 h10, .int .u64 h11, .int .u64 h12] 28 (0, 0)) := by rw [hW]; exact heap_alloc_new _ _
  clear hW
  replace k10 := cell_later hW1 k10
  replace k11 := cell_later hW1 k11
  replace k20 := cell_later hW1 k20
  replace k21 := cell_later hW1 k21
  replace hB := keepBelow hB hW1
  clear hW1
  generalize w1.heap.size = X at *
  have x0 := row_cell gX 0 _ rfl
  have x1 := row_cell gX 1 _ rfl
  have x2 := row_cell gX 2 _ rfl
  have x3 := row_cell gX 3 _ rfl
  have x4 := row_cell gX 4 _ rfl
  have x5 := row_cell gX 5 _ rfl
  have x6 := row_cell gX 6 _ rfl
  have x7 := row_cell gX 7 _ rfl
  have x8 := row_cell gX 8 _ rfl
  have x9 := row_cell gX 9 _ rfl
  have x10 := row_cell gX 10 _ rfl
  have x11 := row_cell gX 11 _ rfl
  have x12 := row_cell gX 12 _ rfl
  clear gX
  refine piece2 s1 n1 s4 n4 r1 r2 _ _ _ _ _ _ _ _ _ _ _ _ _ _ _ _ _ _ _ _ _ _ _ _ _ _ _ _ _ _ _ _ _ _ _ _ _ _ _ _ _ _ _ _ _ _ _ _ _ _ _ _ _ _ _ _ _ _ _ _ _ _ _ _ _ _ _ _ _ _ _ _ _ _ _ _ _ _ _ _ _ _ _ _ _ _ _ _ _ _ _ _ _ _ _ _ _ _ _ _ _ _ _ _ _ _ _ _ _ _ _ _ _ _ _ _ _ _ _ _ _ _ _ _ _ _ _ _ _ _ _ _ _ _ _ _ _ _ _ _ _ _ _ _ _ _ _ _ _ _ _ _ _ _ _ _ _ _ _ _ _ _ _ _ _ _ _ _ _ _ _ _ _ _ _ _ _ _ _ _ _ _ _ _ _ _ _ _ _ _ _ _ _ _ _ _ _ _ _ _ _ _ _ _ _ _ _ _ _ _ _ _ _ _ _ _ _ _ _ _ _ _ _ _ _ _ _ _ k10 k11 k20 k21 ?_
  intro A D u23 u24 u25 u26 w2 hb kA0 kA1 kD0 kD1
  replace x0 := cell_later hb x0
  replace x1 := cell_later hb x1
  replace x2 := cell_later hb x2
  replace x3 := cell_later hb x3
  replace x4 := cell_later hb x4
  replace x5 := cell_later hb x5
  replace x6 := cell_later hb x6
  replace x7 := cell_later hb x7
  replace x8 := cell_later hb x8
  replace x9 := cell_later hb x9
  replace x10 := cell_later hb x10
  replace x11 := cell_later hb x11
  replace x12 := cell_later hb x12
  replace k10 := cell_later hb k10
  replace k11 := cell_later hb k11
  replace k20 := cell_later hb k20
  replace k21 := cell_later hb k21
  replace hB := keepBelow hB hb
  clear hb
  go_upto_region 3 with fail
  refine piece3 h0 h1 h2 h3 h4 h5 h6 h7 h8 h9 h10 h11 h12 s1 n1 s4 n4 T X A D _ _ _ _ _ _ _ _ _ _ _ _ _ _ _ _ _ _ _ _ _ _ _ _ _ _ _ _ _ _ _ _ _ _ _ _ _ _ _ _ _ _ _ _ _ _ _ _ _ _ _ _ _ _ _ _ _ _ _ _ _ _ _ _ _ _ _ _ _ _ _ _ _ _ _ _ _ _ _ _ _ _ _ _ _ _ _ _ _ _ _ _ _ _ _ _ _ _ _ _ _ _ _ _ _ _ _ _ _ _ _ _ _ _ _ _ _ _ _ _ _ _ _ _ _ _ _ _ _ _ _ _ _ _ _ _ _ _ _ _ _ _ _ _ _ _ _ _ _ _ _ _ _ _ _ _ _ _ _ _ _ _ _ _ _ _ _ _ _ _ _ _ _ _ _ _ _ _ _ _ _ _ _ _ _ _ _ _ _ _ _ _ _ _ _ _ _ _ _ _ _ _ _ _ _ _ _ _ _ _ _ _ _ _ _ _ _ _ _ _ _ _ _ _ _ _ _ Q.out.2.2.2.2.2.1 Q.out.2.2.2.2.2.2 x0 x1 x2 x3 x4 x5 x6 x7 x8 x9 x10 x11 x12 kA0 kA1 kD0 kD1 ?_
  intro b u27 u28 u29 u30 u31 u32 u33 u34 u35 u36 u37 u38 u39 u40 u41 u42 u43 u44 u45 u46 u47 u48 u49 u50 u51 u52 u53 u54 u55 u56 u57 u58 u59 u60 u61 u62 u63 u64 u65 u66 u67 u68 u69 u70 u71 u72 u73 u74 w3 hb hL
  replace x0 := cell_later hb x0
  replace x1 := cell_later hb x1
  replace x2 := cell_later hb x2
  replace x3 := cell_later hb x3
  replace x4 := cell_later hb x4
  replace x5 := cell_later hb x5
  replace x6 := cell_later hb x6
  replace x7 := cell_later hb x7
  replace x8 := cell_later hb x8
  replace x9 := cell_later hb x9
  replace x10 := cell_later hb x10
  replace x11 := cell_later hb x11
  replace x12 := cell_later hb x12
  replace k10 := cell_later hb k10
  replace k11 := cell_later hb k11
  replace k20 := cell_later hb k20
  replace k21 := cell_later hb k21
  replace kA0 := cell_later hb kA0
  replace kA1 := cell_later hb kA1
  replace kD0 := cell_later hb kD0
  replace kD1 := cell_later hb kD1
  replace hB := keepBelow hB hb
  clear hb
  cases b
  rotate_left
  · clear hL
    go_wp2_with (first | (go_at_call 10; (with_reducible refine (works_any _).mono ?_); rintro e w9 ⟨rfl, hb⟩))
    go_ret
    exact ⟨rfl, keepBelow hB hb⟩
  have HL := hidI (hL rfl)
  clear hL
  go_upto_region 5 with fail
  refine piece5 h0 h1 h2 h3 h4 h5 h6 h7 h8 h9 h10 h11 h12 s1 n1 s4 n4 T X r1 r2 _ _ _ _ _ _ _ _ _ _ _ _ _ _ _ _ _ _ _ _ _ _ _ _ _ _ _ _ _ _ _ _ _ _ _ _ _ _ _ _ _ _ _ _ _ _ _ _ _ _ _ _ _ _ _ _ _ _ _ _ _ _ _ _ _ _ _ _ _ _ _ _ _ _ _ _ _ _ _ _ _ _ _ _ _ _ _ _ _ _ _ _ _ _ _ _ _ _ _ _ _ _ _ _ _ _ _ _ _ _ _ _ _ _ _ _ _ _ _ _ _ _ _ _ _ _ _ _ _ _ _ _ _ _ _ _ _ _ _ _ _ _ _ _ _ _ _ _ _ _ _ _ _ _ _ _ _ _ _ _ _ _ _ _ _ _ _ _ _ _ _ _ _ _ _ _ _ _ _ _ _ _ _ _ _ _ _ _ _ _ _ _ _ _ _ _ _ _ _ _ _ _ _ _ _ _ _ _ _ _ _ _ _ _ _ _ _ _ _ _ _ _ _ _ _ _ Q.out.1 Q.out.2.1 Q.out.2.2.1 Q.out.2.2.2.1 Q.out.2.2.2.2.1 Q.out.2.2.2.2.2.1 Q.out.2.2.2.2.2.2 HL x0 x1 x2 x3 x4 x5 x6 x7 x8 x9 x10 x11 x12 k10 k11 k20 k21 ?_
  intro QQ cs m u77 u78 u79 u80 u81 u82 u83 u84 u85 u86 u87 w5 hb gQ hO
  have GQ := hidI gQ
  clear gQ
  clear k10 k11 k20 k21
  replace x0 := cell_later hb x0
  replace x1 := cell_later hb x1
  replace x2 := cell_later hb x2
  replace x3 := cell_later hb x3
  replace x4 := cell_later hb x4
  replace x5 := cell_later hb x5
  replace x6 := cell_later hb x6
  replace x7 := cell_later hb x7
  replace x8 := cell_later hb x8
  replace x9 := cell_later hb x9
  replace x10 := cell_later hb x10
  replace x11 := cell_later hb x11
  replace x12 := cell_later hb x12
  replace kA0 := cell_later hb kA0
  replace kA1 := cell_later hb kA1
  replace kD0 := cell_later hb kD0
  replace kD1 := cell_later hb kD1
  replace hB := keepBelow hB hb
  clear hb
  rcases hO.out with ⟨hT, rfl, hA⟩ | ⟨hT, hm⟩
  rotate_left
  · have e1 : (h10 != T) = true := by simpa using hT
    have e2 : (m != 0) = true := by simpa using hm
    clear hT hm hO HL Q GQ kA0 kA1 kD0 kD1 x0 x1 x2 x3 x4 x5 x6 x7 x8 x9 x11 x12
    go_wp2_with (first | (go_at_call 10; (with_reducible refine (works_any _).mono ?_); rintro e w9 ⟨rfl, hb⟩))
    go_ret
    exact ⟨rfl, keepBelow hB hb⟩
  have e1 : (h10 != T) = false := by simp [hT]
  clear hT hO
  obtain ⟨o, r, me, rd, rp, tS, tN, v6, v11, v13, v14, v17, rfl, hF⟩ := hA
  have y0 := row_cell GQ.out 0 _ rfl
  have y1 := row_cell GQ.out 1 _ rfl
  have y2 := row_cell GQ.out 2 _ rfl
  have y3 := row_cell GQ.out 3 _ rfl
  have y4 := row_cell GQ.out 4 _ rfl
  have y5 := row_cell GQ.out 5 _ rfl
  have y7 := row_cell GQ.out 7 _ rfl
  have y8 := row_cell GQ.out 8 _ rfl
  have y9 := row_cell GQ.out 9 _ rfl
  have y10 := row_cell GQ.out 10 _ rfl
  have y12 := row_cell GQ.out 12 _ rfl
  have y15 := row_cell GQ.out 15 _ rfl
  have y16 := row_cell GQ.out 16 _ rfl
  have y18 := row_cell GQ.out 18 _ rfl
  clear GQ
  go_upto_region 8 with fail
  refine piece8 h11 h12 X _ _ _ _ _ _ _ _ _ _ _ _ _ _ _ _ _ _ _ _ _ _ _ _ _ _ _ _ _ _ _ _ _ _ _ _ _ _ _ _ _ _ _ _ _ _ _ _ _ _ _ _ _ _ _ _ _ _ _ _ _ _ _ _ _ _ _ _ _ _ _ _ _ _ _ _ _ _ _ _ _ _ _ _ _ _ _ _ _ _ _ _ _ _ _ _ _ _ _ _ _ _ _ _ _ _ _ _ _ _ _ _ _ _ _ _ _ _ _ _ _ _ _ _ _ _ _ _ _ _ _ _ _ _ _ _ _ _ _ _ _ _ _ _ _ _ _ _ _ _ _ _ _ _ _ _ _ _ _ _ _ _ _ _ _ _ _ _ _ _ _ _ _ _ _ _ _ _ _ _ _ _ _ _ _ _ _ _ _ _ _ _ _ _ _ _ _ _ _ _ _ _ _ _ _ _ _ _ _ _ _ _ _ _ _ _ _ _ _ _ _ _ _ _ _ _ _ _ _ Q.out.2.2.2.2.2.1 Q.out.2.2.2.2.2.2 x11 x12 ?_
  intro B C u97 u98 u99 u100 u101 u102 w8 hb kB0 kB1 kC0 kC1
  clear e1
  replace x0 := cell_later hb x0
  replace x1 := cell_later hb x1
  replace x2 := cell_later hb x2
  replace x3 := cell_later hb x3
  replace x4 := cell_later hb x4
  replace x5 := cell_later hb x5
  replace x6 := cell_later hb x6
  replace x7 := cell_later hb x7
  replace x8 := cell_later hb x8
  replace x9 := cell_later hb x9
  replace x10 := cell_later hb x10
  replace x11 := cell_later hb x11
  replace x12 := cell_later hb x12
  replace kA0 := cell_later hb kA0
  replace kA1 := cell_later hb kA1
  replace kD0 := cell_later hb kD0
  replace kD1 := cell_later hb kD1
  replace y0 := cell_later hb y0
  replace y1 := cell_later hb y1
  replace y2 := cell_later hb y2
  replace y3 := cell_later hb y3
  replace y4 := cell_later hb y4
  replace y5 := cell_later hb y5
  replace y7 := cell_later hb y7
  replace y8 := cell_later hb y8
  replace y9 := cell_later hb y9
  replace y10 := cell_later hb y10
  replace y12 := cell_later hb y12
  replace y15 := cell_later hb y15
  replace y16 := cell_later hb y16
  replace y18 := cell_later hb y18
  replace hB := keepBelow hB hb
  clear hb
  go_upto_region 9 with fail
  refine piece9 h4 X _ _ _ _ _ _ _ _ _ _ _ _ _ _ _ _ _ _ _ _ _ _ _ _ _ _ _ _ _ _ _ _ _ _ _ _ _ _ _ _ _ _ _ _ _ _ _ _ _ _ _ _ _ _ _ _ _ _ _ _ _ _ _ _ _ _ _ _ _ _ _ _ _ _ _ _ _ _ _ _ _ _ _ _ _ _ _ _ _ _ _ _ _ _ _ _ _ _ _ _ _ _ _ _ _ _ _ _ _ _ _ _ _ _ _ _ _ _ _ _ _ _ _ _ _ _ _ _ _ _ _ _ _ _ _ _ _ _ _ _ _ _ _ _ _ _ _ _ _ _ _ _ _ _ _ _ _ _ _ _ _ _ _ _ _ _ _ _ _ _ _ _ _ _ _ _ _ _ _ _ _ _ _ _ _ _ _ _ _ _ _ _ _ _ _ _ _ _ _ _ _ _ _ _ _ _ _ _ _ _ _ _ _ _ _ _ _ _ _ _ _ _ _ _ _ _ _ _ _ HL.out.2.2.2.2.2.2.1 x4 ?_
  intro u17 u103 u104 u105 u106 u107 u108
  go_upto_region 10 with fail
  refine piece10 h5 X _ _ _ _ _ _ _ _ _ _ _ _ _ _ _ _ _ _ _ _ _ _ _ _ _ _ _ _ _ _ _ _ _ _ _ _ _ _ _ _ _ _ _ _ _ _ _ _ _ _ _ _ _ _ _ _ _ _ _ _ _ _ _ _ _ _ _ _ _ _ _ _ _ _ _ _ _ _ _ _ _ _ _ _ _ _ _ _ _ _ _ _ _ _ _ _ _ _ _ _ _ _ _ _ _ _ _ _ _ _ _ _ _ _ _ _ _ _ _ _ _ _ _ _ _ _ _ _ _ _ _ _ _ _ _ _ _ _ _ _ _ _ _ _ _ _ _ _ _ _ _ _ _ _ _ _ _ _ _ _ _ _ _ _ _ _ _ _ _ _ _ _ _ _ _ _ _ _ _ _ _ _ _ _ _ _ _ _ _ _ _ _ _ _ _ _ _ _ _ _ _ _ _ _ _ _ _ _ _ _ _ _ _ _ _ _ _ _ _ _ _ _ _ _ _ _ _ _ _ HL.out.2.2.2.2.2.2.2 x5 ?_
  intro u19 u109 u110 u111 u112 u113 u114
  have HR := hidI (And.intro HL.out.2.2.1 HL.out.2.2.2.1)
  have U1 : Hid (-2000000000 ≤ s1 ∧ s1 ≤ 2000000000) := hidI (by have := HR.out.1; unfold RecentP at this; omega)
  have V1 : Hid (-2000000000 ≤ s4 ∧ s4 ≤ 2000000000) := hidI (by have := HR.out.2; unfold RecentP at this; omega)
  have U3 : Hid (0 ≤ n1 ∧ n1 < 1000000000) := hidI (by have := HR.out.1; unfold RecentP at this; omega)
  have V3 : Hid (0 ≤ n4 ∧ n4 < 1000000000) := hidI (by have := HR.out.2; unfold RecentP at this; omega)
  go_upto_region 11 with fail
  refine piece11 o r me s1 n1 s4 n4 h11 h12 A D B C QQ _ _ _ _ _ _ _ _ _ _ _ _ _ _ _ _ _ _ _ _ _ _ _ _ _ _ _ _ _ _ _ _ _ _ _ _ _ _ _ _ _ _ _ _ _ _ _ _ _ _ _ _ _ _ _ _ _ _ _ _ _ _ _ _ _ _ _ _ _ _ _ _ _ _ _ _ _ _ _ _ _ _ _ _ _ _ _ _ _ _ _ _ _ _ _ _ _ _ _ _ _ _ _ _ _ _ _ _ _ _ _ _ _ _ _ _ _ _ _ _ _ _ _ _ _ _ _ _ _ _ _ _ _ _ _ _ _ _ _ _ _ _ _ _ _ _ _ _ _ _ _ _ _ _ _ _ _ _ _ _ _ _ _ _ _ _ _ _ _ _ _ _ _ _ _ _ _ _ _ _ _ _ _ _ _ _ _ _ _ _ _ _ _ _ _ _ _ _ _ _ _ _ _ _ _ _ _ _ _ _ _ _ _ _ _ _ _ _ _ _ _ _ _ _ U1.out U3.out V1.out V3.out HL.out.2.2.2.2.1 HL.out.2.2.2.2.2.1 hF.out.1 hF.out.2.1 ⟨hF.out.2.2.1.1, hF.out.2.2.1.2.1⟩ hF.out.2.2.1.2.2 kA0 kA1 kD0 kD1 kB0 kB1 kC0 kC1 y0 y1 y2 ?_
  intro u115 u116 u117 u118 u119 u120 u121 u122 u123 u124 u125 u126 u127 u128 u129 u130 u131 u132 u133 u134 u135 u136 u137 u138 u139 u140 u141 u142 u143 u144 u145 u146 u147 w11 hb
  clear kA0 kA1 kD0 kD1 kB0 kB1 y0 y1 y2 U1 U3 V1 V3 HR
  replace x0 := cell_later hb x0
  replace x1 := cell_later hb x1
  replace x2 := cell_later hb x2
  replace x3 := cell_later hb x3
  replace x4 := cell_later hb x4
  replace x5 := cell_later hb x5
  replace x6 := cell_later hb x6
  replace x7 := cell_later hb x7
  replace x8 := cell_later hb x8
  replace x9 := cell_later hb x9
  replace x10 := cell_later hb x10
  replace x11 := cell_later hb x11
  replace x12 := cell_later hb x12
  replace y3 := cell_later hb y3
  replace y4 := cell_later hb y4
  replace y5 := cell_later hb y5
  replace y7 := cell_later hb y7
  replace y8 := cell_later hb y8
  replace y9 := cell_later hb y9
  replace y10 := cell_later hb y10
  replace y12 := cell_later hb y12
  replace y15 := cell_later hb y15
  replace y16 := cell_later hb y16
  replace y18 := cell_later hb y18
  replace kC0 := cell_later hb kC0
  replace kC1 := cell_later hb kC1
  replace hB := keepBelow hB hb
  clear hb
  go_upto_region 12 with fail
  refine piece12 h0 h1 h3 h4 h5 h8 X QQ _ _ _ _ _ _ _ _ _ _ _ _ _ _ _ _ _ _ _ _ _ _ _ _ _ _ _ _ _ _ _ _ _ _ _ _ _ _ _ _ _ _ _ _ _ _ _ _ _ _ _ _ _ _ _ _ _ _ _ _ _ _ _ _ _ _ _ _ _ _ _ _ _ _ _ _ _ _ _ _ _ _ _ _ _ _ _ _ _ _ _ _ _ _ _ _ _ _ _ _ _ _ _ _ _ _ _ _ _ _ _ _ _ _ _ _ _ _ _ _ _ _ _ _ _ _ _ _ _ _ _ _ _ _ _ _ _ _ _ _ _ _ _ _ _ _ _ _ _ _ _ _ _ _ _ _ _ _ _ _ _ _ _ _ _ _ _ _ _ _ _ _ _ _ _ _ _ _ _ _ _ _ _ _ _ _ _ _ _ _ _ _ _ _ _ _ _ _ _ _ _ _ _ _ _ _ _ _ _ _ _ _ _ _ _ _ _ _ _ _ _ _ _ _ _ y7 y3 y8 y9 y10 y12 x1 x3 x0 x8 ?_
  intro u148 u149 u150 u151 u152 u153 u154 u155 u156 u157 u158 u159 u160 u161 u162 u163 u164 u165 u166 u167 u168 u169 u170 u171 u172 u173 u174 u175 u176 u177 u178 u179 u180 u181 u182 u183 u184 u185 u186 u187 u188
  go_upto_region 13 with fail
  refine piece13 h3 h6 h7 rd rp X QQ _ _ _ _ _ _ _ _ _ _ _ _ _ _ _ _ _ _ _ _ _ _ _ _ _ _ _ _ _ _ _ _ _ _ _ _ _ _ _ _ _ _ _ _ _ _ _ _ _ _ _ _ _ _ _ _ _ _ _ _ _ _ _ _ _ _ _ _ _ _ _ _ _ _ _ _ _ _ _ _ _ _ _ _ _ _ _ _ _ _ _ _ _ _ _ _ _ _ _ _ _ _ _ _ _ _ _ _ _ _ _ _ _ _ _ _ _ _ _ _ _ _ _ _ _ _ _ _ _ _ _ _ _ _ _ _ _ _ _ _ _ _ _ _ _ _ _ _ _ _ _ _ _ _ _ _ _ _ _ _ _ _ _ _ _ _ _ _ _ _ _ _ _ _ _ _ _ _ _ _ _ _ _ _ _ _ _ _ _ _ _ _ _ _ _ _ _ _ _ _ _ _ _ _ _ _ _ _ _ _ _ _ _ _ _ _ _ _ _ _ _ _ _ _ _ _ _ Q.out.1 Q.out.2.1 hF.out.2.2.2.1 hF.out.2.2.2.2.1 y4 y5 y18 x6 x7 x3 ?_
  intro u189 u190 u191 u192 u193 u194 u195 u196 u197 u198 u199 u200 u201 u202 u203 u204 u205 u206 u207 u208 u209 u210 u211 u212 u213 w13 hb
  clear x0 x1 x2 x3 x4 x5 x6 x7 x8 x9 x10 x11 x12 y3 y4 y5 y7 y8 y9 y10 y12 y18
  replace y15 := cell_later hb y15
  replace y16 := cell_later hb y16
  replace kC0 := cell_later hb kC0
  replace kC1 := cell_later hb kC1
  replace hB := keepBelow hB hb
  clear hb
  go_upto_region 14 with fail
  refine piece14 tS tN h12 C QQ _ _ _ _ _ _ _ _ _ _ _ _ _ _ _ _ _ _ _ _ _ _ _ _ _ _ _ _ _ _ _ _ _ _ _ _ _ _ _ _ _ _ _ _ _ _ _ _ _ _ _ _ _ _ _ _ _ _ _ _ _ _ _ _ _ _ _ _ _ _ _ _ _ _ _ _ _ _ _ _ _ _ _ _ _ _ _ _ _ _ _ _ _ _ _ _ _ _ _ _ _ _ _ _ _ _ _ _ _ _ _ _ _ _ _ _ _ _ _ _ _ _ _ _ _ _ _ _ _ _ _ _ _ _ _ _ _ _ _ _ _ _ _ _ _ _ _ _ _ _ _ _ _ _ _ _ _ _ _ _ _ _ _ _ _ _ _ _ _ _ _ _ _ _ _ _ _ _ _ _ _ _ _ _ _ _ _ _ _ _ _ _ _ _ _ _ _ _ _ _ _ _ _ _ _ _ _ _ _ _ _ _ _ _ _ _ _ _ _ _ _ _ _ _ _ _ _ HL.out.2.2.2.2.2.1 hF.out.2.2.2.2.2.1 hF.out.2.2.2.2.2.2 kC0 kC1 y15 y16 ?_
  intro u214 u215 u216 u217 u218 u219 u220 u221 u222 w14 hb
  clear y15 y16 kC0 kC1
  replace hB := keepBelow hB hb
  clear hb
  go_wp2_with (first | (go_at_call 10; (with_reducible refine (works_any _).mono ?_); rintro e w9 ⟨rfl, hb⟩))
  go_ret
  exact ⟨rfl, keepBelow hB hb⟩

end Go.Proofs.YtgifkanoghmijaaGreatDoor
