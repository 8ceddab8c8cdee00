/- FnQuery answers true, whatever the input, and leaves its arguments as they were: no condition. -/
import Derived.Test.YtgifkanoghmijaaGreatDoorRows
import Derived.Test.YtgifkanoghmijaaGreatDoorLawQ
import Derived.Test.YtgifkanoghmijaaGreatDoorOpen
import Derived.ProofKit
import Derived.Carry
namespace Go.Proofs.YtgifkanoghmijaaGreatDoor
open Go.ChangeShapes Go.WideShapes Go.ChangeAt Go.RowKit Go.Joins

theorem wq_u32 {n : Int} (h : (Lit.int .u32 n).wf = true) : 0 ≤ n ∧ n < 4294967296 := by
  have e0 : IntKind.u32.min = 0 := by decide
  have e1 : IntKind.u32.max = 4294967295 := by decide
  simp [Lit.wf] at h
  omega
theorem wq_u64 {n : Int} (h : (Lit.int .u64 n).wf = true) : 0 ≤ n ∧ n < 18446744073709551616 := by
  have e0 : IntKind.u64.min = 0 := by decide
  have e1 : IntKind.u64.max = 18446744073709551615 := by decide
  simp [Lit.wf] at h
  omega

theorem Tryz.ownQ : ownKnob Tryz.prog.godebug = none := by kernel_rfl

set_option maxRecDepth 100000 in
set_option maxHeartbeats 2000000 in
theorem fnQuery_lifted (os : Os) (started : os.Started) (H : Type) (enc : TypeId × Value → H) :
    ReturnsInHanded {} Tryz.checked os 3 .any (Rows.fnQuerySpec.pre6 enc Tryz.prog Tryz.f3 Rows.fnQueryRow.domain false) (Rows.fnQuerySpec.post enc Tryz.prog Tryz.f3 false true false false) := by
  refine returnsInHanded_of_change (C := Tryz.checked) Tryz.ownQ started (by kernel_rfl) Tryz.func3
    (ChangeSpec.witness6 (enc := enc) (C := Tryz.checked) false ⟨#[], #[.agg #[.int .i64 0, .int .i64 0, .int .i64 0, .int .i64 0, .int .i64 0, .int .i64 0, .int .u32 0, .int .u32 0, .int .u32 0, .int .u64 0, .int .u64 0, .int .u64 0, .int .u64 0], .int .u64 0, .agg #[.int .i64 0, .int .i64 0], .agg #[.int .i64 0, .int .i64 0]], []⟩ 8 (by kernel_rfl) (by kernel_rfl) (by kernel_rfl) (by kernel_rfl)) ?_
  intro W base args ds gs before hval0 hW _ _
  have hval : ∀ (j : Nat) t v, Tryz.f3.params[j]? = some t → args[j]? = some v → Value.okWide Tryz.prog W .any base t v := hval0
  have hW' := hW
  obtain ⟨p, q, hA0, hV, rfl, hfz, hnd⟩ := hW
  have hA : DataW.TrodAll enc Tryz.prog W 0 (fun _ => true) true Tryz.f3.params.toList args.toList ds p := hA0
  rw [Tryz.params3] at hA hval
  obtain ⟨v0, vT, v1, v2, d0, dT, d1, d2, p0, pT, p1, p2, rfl, rfl, rfl, g0, gT, g1, g2⟩ := trodAll_four hA
  obtain ⟨rfl, rfl⟩ := trodVars_none hV
  obtain ⟨h0, h1, h2, h3, h4, h5, h6, h7, h8, h9, h10, h11, h12, rfl, rfl, rfl, w0, w1, w2, w3, w4, w5, w6, w7, w8, w9, w10, w11, w12⟩ := open_header (hval 0 _ v0 rfl rfl) g0
  obtain ⟨T, rfl, rfl, rfl, wT⟩ := open_int Tryz.underlying23 (hval 1 _ vT rfl rfl) gT
  obtain ⟨s1, n1, rfl, rfl, rfl, y0, y1⟩ := open_time (hval 2 _ v1 rfl rfl) g1
  obtain ⟨s4, n4, rfl, rfl, rfl, y2, y3⟩ := open_time (hval 3 _ v2 rfl rfl) g2
  clear hA0 hval0
  simp only [List.append_nil] at hW'
  refine (fnQuery_any h0 h1 h2 h3 h4 h5 h6 h7 h8 h9 h10 h11 h12 T s1 n1 s4 n4 (wq_u32 w6) (wq_u32 w7) (wq_u32 w8) (wq_u64 w9) (wq_u64 w10) (wq_u64 w11) (wq_u64 w12) W).mono fun e W' ⟨he, hw⟩ => ?_
  subst he
  exact ⟨_, rfl, _, _, _, [], [], [], hW', trodAll_mk1 (shut_bool Tryz.underlying4 _), trodAll_mk4 (shut_header enc W' 0 _ true w0 w1 w2 w3 w4 w5 w6 w7 w8 w9 w10 w11 w12) (shut_int Tryz.underlying23 wT) (shut_time enc W' 0 _ true y0 y1) (shut_time enc W' 0 _ true y2 y3), rfl, hw.frame _, fun h => by cases h⟩

theorem fnQuery_holds : Rows.FnQuerySaid :=
  OpenClaim.holds_of_wide 3 Tryz.f3 rfl rfl rfl rfl rfl rfl rfl ⟨rfl, rfl, rfl, rfl, rfl⟩ rfl rfl rfl rfl rfl (by kernel_rfl) Tryz.func3 (by kernel_rfl)
    (of_decide_eq_true (by kernel_rfl)) (by unfold Func.isWrapper; first | (rw [if_pos (by decide +kernel)]; kernel_rfl) | (rw [if_neg (by decide +kernel)]; exact ⟨rfl, rfl⟩))
    (fun os started H enc _ => fnQuery_lifted os started H enc)

#print axioms fnQuery_holds
end Go.Proofs.YtgifkanoghmijaaGreatDoor
