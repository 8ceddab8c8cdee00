/- FnQuery, region 3: the guards. -/
import Derived.Test.YtgifkanoghmijaaGreatDoorLqB
namespace Go.Proofs.YtgifkanoghmijaaGreatDoor
open Go.RowKit

set_option maxRecDepth 1000000 in
set_option maxHeartbeats 8000000 in
theorem piece3 (h0 h1 h2 h3 h4 h5 h6 h7 h8 h9 h10 h11 h12 s1 n1 s4 n4 T : Int) (X A D : Nat) (t0 t2 t3 t4 t5 t6 t7 t8 t12 t13 t14 t15 t16 t17 t18 t19 t20 t21 t22 t23 t24 t25 t26 t27 t28 t29 t30 t31 t32 t33 t34 t35 t36 t37 t38 t39 t40 t41 t42 t43 t44 t45 t46 t47 t48 t49 t50 t51 t52 t53 t54 t55 t56 t57 t58 t59 t60 t61 t62 t63 t64 t65 t66 t67 t68 t69 t70 t71 t72 t73 t74 t75 t76 t77 t78 t79 t80 t81 t82 t83 t84 t85 t86 t87 t88 t89 t90 t91 t92 t93 t94 t95 t96 t97 t98 t99 t100 t101 t102 t103 t104 t105 t106 t107 t108 t109 t110 t111 t112 t113 t114 t115 t116 t117 t118 t119 t120 t121 t122 t123 t124 t125 t126 t127 t128 t129 t130 t131 t132 t133 t134 t135 t136 t137 t138 t139 t140 t141 t142 t143 t144 t145 t146 t147 t148 t149 t150 t151 t152 t153 t154 t155 t156 t157 t158 t159 t160 t161 t162 t163 t164 t165 t166 t167 t168 t169 t170 t171 t172 t173 t174 t175 t176 t177 t178 t179 t180 t181 t182 t183 t184 t185 t186 t187 t188 t189 t190 t191 t192 t193 t194 t195 t196 t197 t198 t199 t200 t201 t202 t203 t204 t205 t206 t207 t208 t209 t210 t211 t212 t213 t214 t215 t216 t217 t218 t219 t220 t221 t222 t223 t224 t225 t226 : Value) (K0 K1 : Act → World → Prop) (P0 : Ending → World → Prop) (w0 : World)
    (q11 : 0 ≤ h11 ∧ h11 < 18446744073709551616) (q12 : 0 ≤ h12 ∧ h12 < 18446744073709551616) (x0 : w0.cell? ⟨X, 0, none⟩ = some (.int .i64 h0)) (x1 : w0.cell? ⟨X, 1, none⟩ = some (.int .i64 h1)) (x2 : w0.cell? ⟨X, 2, none⟩ = some (.int .i64 h2)) (x3 : w0.cell? ⟨X, 3, none⟩ = some (.int .i64 h3)) (x4 : w0.cell? ⟨X, 4, none⟩ = some (.int .i64 h4)) (x5 : w0.cell? ⟨X, 5, none⟩ = some (.int .i64 h5)) (x6 : w0.cell? ⟨X, 6, none⟩ = some (.int .u32 h6)) (x7 : w0.cell? ⟨X, 7, none⟩ = some (.int .u32 h7)) (x8 : w0.cell? ⟨X, 8, none⟩ = some (.int .u32 h8)) (x9 : w0.cell? ⟨X, 9, none⟩ = some (.int .u64 h9)) (x10 : w0.cell? ⟨X, 10, none⟩ = some (.int .u64 h10)) (x11 : w0.cell? ⟨X, 11, none⟩ = some (.int .u64 h11)) (x12 : w0.cell? ⟨X, 12, none⟩ = some (.int .u64 h12)) (kA0 : w0.cell? ⟨A, 0, none⟩ = some (.int .i64 s1)) (kA1 : w0.cell? ⟨A, 1, none⟩ = some (.int .i64 n1)) (kD0 : w0.cell? ⟨D, 0, none⟩ = some (.int .i64 s4)) (kD1 : w0.cell? ⟨D, 1, none⟩ = some (.int .i64 n4))
    (hexit : ∀ (b : Bool) (u27 u28 u29 u30 u31 u32 u33 u34 u35 u36 u37 u38 u39 u40 u41 u42 u43 u44 u45 u46 u47 u48 u49 u50 u51 u52 u53 u54 u55 u56 u57 u58 u59 u60 u61 u62 u63 u64 u65 u66 u67 u68 u69 u70 u71 u72 u73 u74 : Value) (w' : World), Below w0.heap.size w0 w' → (b = false → LetIn h0 h1 h2 h3 h4 h5 h11 h12 s1 n1 s4 n4 T) → K0 ⟨#[t0, .int .u64 T, t2, t3, t4, t5, t6, t7, t8, .pointer (some ⟨X, 0, none⟩), .pointer (some ⟨A, 0, none⟩), .pointer (some ⟨D, 0, none⟩), t12, t13, t14, t15, t16, t17, t18, t19, t20, t21, t22, t23, t24, t25, t26, u27, u28, u29, u30, u31, u32, u33, u34, u35, u36, u37, u38, u39, u40, u41, u42, u43, u44, u45, u46, u47, u48, u49, u50, u51, u52, u53, u54, u55, u56, u57, u58, u59, u60, u61, u62, u63, u64, u65, u66, u67, u68, u69, u70, u71, u72, u73, u74, .bool b, t76, t77, t78, t79, t80, t81, t82, t83, t84, t85, t86, t87, t88, t89, t90, t91, t92, t93, t94, t95, t96, t97, t98, t99, t100, t101, t102, t103, t104, t105, t106, t107, t108, t109, t110, t111, t112, t113, t114, t115, t116, t117, t118, t119, t120, t121, t122, t123, t124, t125, t126, t127, t128, t129, t130, t131, t132, t133, t134, t135, t136, t137, t138, t139, t140, t141, t142, t143, t144, t145, t146, t147, t148, t149, t150, t151, t152, t153, t154, t155, t156, t157, t158, t159, t160, t161, t162, t163, t164, t165, t166, t167, t168, t169, t170, t171, t172, t173, t174, t175, t176, t177, t178, t179, t180, t181, t182, t183, t184, t185, t186, t187, t188, t189, t190, t191, t192, t193, t194, t195, t196, t197, t198, t199, t200, t201, t202, t203, t204, t205, t206, t207, t208, t209, t210, t211, t212, t213, t214, t215, t216, t217, t218, t219, t220, t221, t222, t223, t224, t225, t226], []⟩ w') :
    Code.wp Tryz.prog (reg 3) (Exit.then K0 (Exit.then K1 (bodyPost Tryz.prog Tryz.f3 P0))) ⟨#[t0, .int .u64 T, t2, t3, t4, t5, t6, t7, t8, .pointer (some ⟨X, 0, none⟩), .pointer (some ⟨A, 0, none⟩), .pointer (some ⟨D, 0, none⟩), t12, t13, t14, t15, t16, t17, t18, t19, t20, t21, t22, t23, t24, t25, t26, t27, t28, t29, t30, t31, t32, t33, t34, t35, t36, t37, t38, t39, t40, t41, t42, t43, t44, t45, t46, t47, t48, t49, t50, t51, t52, t53, t54, t55, t56, t57, t58, t59, t60, t61, t62, t63, t64, t65, t66, t67, t68, t69, t70, t71, t72, t73, t74, t75, t76, t77, t78, t79, t80, t81, t82, t83, t84, t85, t86, t87, t88, t89, t90, t91, t92, t93, t94, t95, t96, t97, t98, t99, t100, t101, t102, t103, t104, t105, t106, t107, t108, t109, t110, t111, t112, t113, t114, t115, t116, t117, t118, t119, t120, t121, t122, t123, t124, t125, t126, t127, t128, t129, t130, t131, t132, t133, t134, t135, t136, t137, t138, t139, t140, t141, t142, t143, t144, t145, t146, t147, t148, t149, t150, t151, t152, t153, t154, t155, t156, t157, t158, t159, t160, t161, t162, t163, t164, t165, t166, t167, t168, t169, t170, t171, t172, t173, t174, t175, t176, t177, t178, t179, t180, t181, t182, t183, t184, t185, t186, t187, t188, t189, t190, t191, t192, t193, t194, t195, t196, t197, t198, t199, t200, t201, t202, t203, t204, t205, t206, t207, t208, t209, t210, t211, t212, t213, t214, t215, t216, t217, t218, t219, t220, t221, t222, t223, t224, t225, t226], []⟩ w0 := by
  have HE := hidI hexit
  clear hexit
  conv => arg 2; whnf
  have hB0 := Below.refl w0.heap.size w0
  have ha := hidI (fun w => answer_any h0 h1 h2 h3 h4 h5 h6 h7 h8 h9 h10 h11 h12 w)
  unfold HV at ha
  go_wp2_with fail
  refine (ha.out _).mono ?_
  rintro e w2 ⟨b, rfl, hb, hP⟩
  replace x0 := cell_later hb x0
  replace x1 := cell_later hb x1
  replace x2 := cell_later hb x2
  replace x3 := cell_later hb x3
  replace x4 := cell_later hb x4
  replace x5 := cell_later hb x5
  replace x6 := cell_later hb x6
  replace x7 := cell_later hb x7
  replace x8 := cell_later hb x8
  replace x9 := cell_later hb x9
  replace x10 := cell_later hb x10
  replace x11 := cell_later hb x11
  replace x12 := cell_later hb x12
  replace kA0 := cell_later hb kA0
  replace kA1 := cell_later hb kA1
  replace kD0 := cell_later hb kD0
  replace kD1 := cell_later hb kD1
  replace hB0 := keepBelow hB0 hb
  clear hb
  cases b
  · clear hP
    go_wp2_with fail
    exact HE.out _ _ _ _ _ _ _ _ _ _ _ _ _ _ _ _ _ _ _ _ _ _ _ _ _ _ _ _ _ _ _ _ _ _ _ _ _ _ _ _ _ _ _ _ _ _ _ _ _ _ hB0 (fun h => by cases h)
  · have PA := hidI (hP rfl)
    clear hP
    by_cases hz : (T == 0) = true
    · skip
      go_wp2_with fail
      exact HE.out _ _ _ _ _ _ _ _ _ _ _ _ _ _ _ _ _ _ _ _ _ _ _ _ _ _ _ _ _ _ _ _ _ _ _ _ _ _ _ _ _ _ _ _ _ _ _ _ _ _ hB0 (fun h => by cases h)
    · rw [Bool.not_eq_true] at hz
      go_wp2_with fail
      refine (recent_any s1 n1 _).mono ?_
      rintro e w3 ⟨b, rfl, hb, hP⟩
      replace x0 := cell_later hb x0
      replace x1 := cell_later hb x1
      replace x2 := cell_later hb x2
      replace x3 := cell_later hb x3
      replace x4 := cell_later hb x4
      replace x5 := cell_later hb x5
      replace x6 := cell_later hb x6
      replace x7 := cell_later hb x7
      replace x8 := cell_later hb x8
      replace x9 := cell_later hb x9
      replace x10 := cell_later hb x10
      replace x11 := cell_later hb x11
      replace x12 := cell_later hb x12
      replace kA0 := cell_later hb kA0
      replace kA1 := cell_later hb kA1
      replace kD0 := cell_later hb kD0
      replace kD1 := cell_later hb kD1
      replace hB0 := keepBelow hB0 hb
      clear hb
      cases b
      · clear hP
        go_wp2_with fail
        exact HE.out _ _ _ _ _ _ _ _ _ _ _ _ _ _ _ _ _ _ _ _ _ _ _ _ _ _ _ _ _ _ _ _ _ _ _ _ _ _ _ _ _ _ _ _ _ _ _ _ _ _ hB0 (fun h => by cases h)
      · have P1 := hidI (hP rfl)
        clear hP
        go_wp2_with fail
        refine (recent_any s4 n4 _).mono ?_
        rintro e w4 ⟨b, rfl, hb, hP⟩
        replace x0 := cell_later hb x0
        replace x1 := cell_later hb x1
        replace x2 := cell_later hb x2
        replace x3 := cell_later hb x3
        replace x4 := cell_later hb x4
        replace x5 := cell_later hb x5
        replace x6 := cell_later hb x6
        replace x7 := cell_later hb x7
        replace x8 := cell_later hb x8
        replace x9 := cell_later hb x9
        replace x10 := cell_later hb x10
        replace x11 := cell_later hb x11
        replace x12 := cell_later hb x12
        replace kA0 := cell_later hb kA0
        replace kA1 := cell_later hb kA1
        replace kD0 := cell_later hb kD0
        replace kD1 := cell_later hb kD1
        replace hB0 := keepBelow hB0 hb
        clear hb
        cases b
        · clear hP
          go_wp2_with fail
          exact HE.out _ _ _ _ _ _ _ _ _ _ _ _ _ _ _ _ _ _ _ _ _ _ _ _ _ _ _ _ _ _ _ _ _ _ _ _ _ _ _ _ _ _ _ _ _ _ _ _ _ _ hB0 (fun h => by cases h)
        · have P4 := hidI (hP rfl)
          clear hP
          go_wp2_with fail
          refine (current_any h11 q11.1 q11.2 _).mono ?_
          rintro e w5 ⟨b, rfl, hb, hP⟩
          replace x0 := cell_later hb x0
          replace x1 := cell_later hb x1
          replace x2 := cell_later hb x2
          replace x3 := cell_later hb x3
          replace x4 := cell_later hb x4
          replace x5 := cell_later hb x5
          replace x6 := cell_later hb x6
          replace x7 := cell_later hb x7
          replace x8 := cell_later hb x8
          replace x9 := cell_later hb x9
          replace x10 := cell_later hb x10
          replace x11 := cell_later hb x11
          replace x12 := cell_later hb x12
          replace kA0 := cell_later hb kA0
          replace kA1 := cell_later hb kA1
          replace kD0 := cell_later hb kD0
          replace kD1 := cell_later hb kD1
          replace hB0 := keepBelow hB0 hb
          clear hb
          cases b
          · clear hP
            go_wp2_with fail
            exact HE.out _ _ _ _ _ _ _ _ _ _ _ _ _ _ _ _ _ _ _ _ _ _ _ _ _ _ _ _ _ _ _ _ _ _ _ _ _ _ _ _ _ _ _ _ _ _ _ _ _ _ hB0 (fun h => by cases h)
          · have C11 := hidI (hP rfl)
            clear hP
            go_wp2_with fail
            refine (current_any h12 q12.1 q12.2 _).mono ?_
            rintro e w6 ⟨b, rfl, hb, hP⟩
            replace x0 := cell_later hb x0
            replace x1 := cell_later hb x1
            replace x2 := cell_later hb x2
            replace x3 := cell_later hb x3
            replace x4 := cell_later hb x4
            replace x5 := cell_later hb x5
            replace x6 := cell_later hb x6
            replace x7 := cell_later hb x7
            replace x8 := cell_later hb x8
            replace x9 := cell_later hb x9
            replace x10 := cell_later hb x10
            replace x11 := cell_later hb x11
            replace x12 := cell_later hb x12
            replace kA0 := cell_later hb kA0
            replace kA1 := cell_later hb kA1
            replace kD0 := cell_later hb kD0
            replace kD1 := cell_later hb kD1
            replace hB0 := keepBelow hB0 hb
            clear hb
            cases b
            · clear hP
              go_wp2_with fail
              exact HE.out _ _ _ _ _ _ _ _ _ _ _ _ _ _ _ _ _ _ _ _ _ _ _ _ _ _ _ _ _ _ _ _ _ _ _ _ _ _ _ _ _ _ _ _ _ _ _ _ _ _ hB0 (fun h => by cases h)
            · have C12 := hidI (hP rfl)
              clear hP
              go_wp2_with fail
              all_goals first | exact HE.out _ _ _ _ _ _ _ _ _ _ _ _ _ _ _ _ _ _ _ _ _ _ _ _ _ _ _ _ _ _ _ _ _ _ _ _ _ _ _ _ _ _ _ _ _ _ _ _ _ _ hB0 (fun h => by cases h) | exact HE.out _ _ _ _ _ _ _ _ _ _ _ _ _ _ _ _ _ _ _ _ _ _ _ _ _ _ _ _ _ _ _ _ _ _ _ _ _ _ _ _ _ _ _ _ _ _ _ _ _ _ hB0 (fun _ => ⟨PA.out, by simpa using hz, P1.out, P4.out, C11.out, C12.out, by omega, by omega⟩) | exact HE.out _ _ _ _ _ _ _ _ _ _ _ _ _ _ _ _ _ _ _ _ _ _ _ _ _ _ _ _ _ _ _ _ _ _ _ _ _ _ _ _ _ _ _ _ _ _ _ _ _ _ hB0 (fun h => ⟨PA.out, by simpa using hz, P1.out, P4.out, C11.out, C12.out, by simp at h; omega, by simp at h; omega⟩)

end Go.Proofs.YtgifkanoghmijaaGreatDoor
