/- impl.Query. -/
import Derived.Test.YtgifkanoghmijaaGreatDoorFill
import Derived.Test.YtgifkanoghmijaaGreatDoorValid
import Derived.Laws.CopyOwn
import Derived.Laws.Tables
import Derived.Great.BuildSlice
namespace Go.Proofs.YtgifkanoghmijaaGreatDoor
open Go.RowKit

/-- The cells of an answer. -/
def AnsV (n1 s1 n4 s4 x0 x1 x2 x3 x4 x5 x6 x7 _x8 x9 x10 : Int) (a : Value) : Prop :=
  ∃ (n2 s2 n3 s3 n5 s5 d : Int) (t : ByteArray), (0 ≤ n2 ∧ n2 < 1000000000 ∧ s2 * 1000000000 + n2 = timeN x9) ∧ (0 ≤ n3 ∧ n3 < 1000000000 ∧ s3 * 1000000000 + n3 = timeN x10) ∧ (0 ≤ n5 ∧ n5 < 1000000000 ∧ s5 * 1000000000 + n5 = timeN x7) ∧ a = .agg #[.int .i64 (half (diff s2 s1 n2 n1 + diff s3 s4 n3 n4)), .int .i64 (mx0 (diff s4 s1 n4 n1 - diff s3 s2 n3 n2)), .int .i64 (minE (half (diff s2 s1 n2 n1 + diff s3 s4 n3 n4)) (mx0 (diff s4 s1 n4 n1 - diff s3 s2 n3 n2))), .int .i64 (ivl x3), .int .i64 (durS x4), .int .i64 (durS x5), .int .i64 (d), .int .i64 (ivl x2), .int .i64 (x0 / 8 % 8), .int .i64 x1, .int .i64 (x0 / 64 % 4), .int .i64 (eraN x10), .int .u32 x6, .int .i64 (s5 - 62135596800), .int .i64 n5, .int .i64 (s3 - 62135596800), .int .i64 n3, .string t, .bool (decide (x0 / 8 % 8 < 5) && (x1 == 0))]

/-- Query's answer, or no answer and another number than 0. -/
def QueryP (n1 s1 n4 s4 x0 x1 x2 x3 x4 x5 x6 x7 x8 x9 x10 : Int) (w : World) (e : Ending) (w' : World) : Prop :=
  ∃ (a : Value) (m : Int), e = .returned (.tuple #[a, .int .i64 m]) ∧ Below w.heap.size w w' ∧ ((m = 0 ∧ x2 ≠ -128 ∧ x3 ≠ -128 ∧ AnsV n1 s1 n4 s4 x0 x1 x2 x3 x4 x5 x6 x7 x8 x9 x10 a) ∨ (m = -1 ∧ a = .agg #[.int .i64 0, .int .i64 0, .int .i64 0, .int .i64 0, .int .i64 0, .int .i64 0, .int .i64 0, .int .i64 0, .int .i64 0, .int .i64 0, .int .i64 0, .int .i64 0, .int .u32 0, .int .i64 0, .int .i64 0, .int .i64 0, .int .i64 0, .string ByteArray.empty, .bool false] ∧ (x2 = -128 ∨ x3 = -128)))

theorem results_cell_slot {P : Program} {fn : Func} {p s : Tmp} {ty : TypeId} {v : Value} (h : fn.results = #[.cell p ty, .tmp s]) (tmps : Array Value) (w : World) (g : Nat) (t : TypeId) (cs : Array Value) (fr : Nat × Nat) (d : TypeDesc)
    (hp : tmps.getD p undef = .pointer (some ⟨g, 0, none⟩)) (hg : w.heap[g]? = some (.cells cs t fr))
    (hu : P.underlying ty = some d) (hd : (match d with | .struct _ | .array _ _ => true | _ => false) = true) (hi : (P.info? ty).map (·.size) = some cs.size) (hs : tmps.getD s undef = v) :
    (results fn tmps).run P w = .ok (.tuple #[.agg cs, v]) w := by
  have hp' : tmps[p]?.getD undef = .pointer (some ⟨g, 0, none⟩) := by simpa using hp
  have hs' : tmps[s]?.getD undef = v := by simpa using hs
  simp [results, h, hp', hs', asAddr, run_loadVar_row w g t ty cs fr d hg hu hd hi]

theorem row_cell {w : World} {g : Nat} {cs : Array Value} {T : TypeId} (h : w.heap[g]? = some (.cells cs T (0, 0))) (i : Nat) (v : Value) (hv : cs[i]? = some v) : w.cell? ⟨g, i, none⟩ = some v := by
  simp [World.cell?, h, hv]
theorem row_froz {w : World} {g : Nat} {cs : Array Value} {T : TypeId} (h : w.heap[g]? = some (.cells cs T (0, 0))) (k : Nat) : w.frozen? ⟨g, k, none⟩ = false := by
  simp [World.frozen?, h]

theorem wrap_small {x : Int} (h0 : 0 ≤ x) (h1 : x < 256) : IntKind.i64.wrap x = x := by
  simp [IntKind.wrap, IntKind.bits, IntKind.signed]; omega

theorem fill_resp {f : Nat → Int} {n1 s1 n4 s4 x0 x1 x2 x3 x4 x5 x6 x7 x8 x9 x10 : Int} (K : Ok f n1 s1 n4 s4 x0 x1 x2 x3 x4 x5 x6 x7 x8 x9 x10) {R b0 b1 : Nat} {w0 w : World} (hB0 : Below w0.heap.size w0 w) (hb1 : w0.heap.size ≤ b1) (h01 : b0 ≠ b1) (hR1 : R ≠ b1)
    (hr : RespAt n1 s1 n4 s4 x0 x1 x2 x3 x4 x5 x6 x7 x8 x9 x10 R w) (kb : w.cell? ⟨b0, 0, none⟩ = some (.pointer (some ⟨R, 0, none⟩)))
    (old : Array Value) (T : TypeId) (hg : w.heap[b1]? = some (.cells old T (0, 0))) (ho : old.size = 19) :
    ∃ (n2 s2 n3 s3 n5 s5 d : Int) (t : ByteArray), ((0 ≤ n2 ∧ n2 < 1000000000 ∧ s2 * 1000000000 + n2 = timeN x9) ∧ (0 ≤ n3 ∧ n3 < 1000000000 ∧ s3 * 1000000000 + n3 = timeN x10) ∧ (0 ≤ n5 ∧ n5 < 1000000000 ∧ s5 * 1000000000 + n5 = timeN x7)) ∧
    Calls Tryz.prog 28 #[.pointer (some ⟨b0, 0, none⟩), .pointer (some ⟨b1, 0, none⟩)] w (Tried (FilledG (half (diff s2 s1 n2 n1 + diff s3 s4 n3 n4)) (mx0 (diff s4 s1 n4 n1 - diff s3 s2 n3 n2)) (minE (half (diff s2 s1 n2 n1 + diff s3 s4 n3 n4)) (mx0 (diff s4 s1 n4 n1 - diff s3 s2 n3 n2))) (ivl x3) (durS x4) (durS x5) (d) (ivl x2) (x0 / 8 % 8) x1 (x0 / 64 % 4) (eraN x10) x6 (s5 - 62135596800) n5 (s3 - 62135596800) n3 t T b1 w0 w) (fun _ => False)) := by
  obtain ⟨n2, s2, n3, s3, n5, s5, d, t, ⟨p2, p2', q2⟩, ⟨p3, p3', q3⟩, ⟨p5, p5', q5⟩, k0, k1, k14, k15, k16, k19, k20, k22, k23, k24, k32, k33, k34, k35, k36, k37, k38, k41, k42, k43, k44⟩ := hr
  have hx := timeN_bd x7 K.b7 K.b7'
  have y := K.y10
  have y' := K.y10'
  have z0 := K.b0
  have z0' := K.b0'
  have he : IntKind.i64.wrap (eraN x10) = eraN x10 := by unfold eraN; split <;> decide
  refine ⟨n2, s2, n3, s3, n5, s5, d, t, ⟨⟨p2, p2', q2⟩, ⟨p3, p3', q3⟩, ⟨p5, p5', q5⟩⟩, ?_⟩
  exact fill_gen (half (diff s2 s1 n2 n1 + diff s3 s4 n3 n4)) (mx0 (diff s4 s1 n4 n1 - diff s3 s2 n3 n2)) (minE (half (diff s2 s1 n2 n1 + diff s3 s4 n3 n4)) (mx0 (diff s4 s1 n4 n1 - diff s3 s2 n3 n2))) (ivl x3) (durS x4) (durS x5) (d) (ivl x2) (x0 / 8 % 8) x1 (x0 / 64 % 4) (eraN x10) x6 n5 s5 n3 s3 t R b0 b1 w0 w hB0 hb1 h01 hR1 kb (wrap_small K.b1 (by have := K.b1'; omega)) (wrap_small (by omega) (by omega)) he p3 p3' p5 p5' (by omega) (by omega) (by omega) (by omega)
    k0 k1 k14 k15 k16 k19 k20 k22 k23 k24 k32 k33 k34 k35 k36 k37 k38 k41 k42 k43 old T hg ho

set_option maxRecDepth 100000 in
set_option maxHeartbeats 4000000 in
theorem implQuery_any (f : Nat → Int) (n1 s1 n4 s4 v x0 x1 x2 x3 x4 x5 x6 x7 x8 x9 x10 : Int) (K : Hid (Ok f n1 (s1 + 62135596800) n4 (s4 + 62135596800) x0 x1 x2 x3 x4 x5 x6 x7 x8 x9 x10)) (g cap : Nat) (w : World)
    (a1 : 0 ≤ n1) (a1' : n1 < 1000000000) (a4 : 0 ≤ n4) (a4' : n4 < 1000000000) (c1 : -2208988800 ≤ s1) (c1' : s1 < 4000000000) (c4 : -2208988800 ≤ s4) (c4' : s4 < 4000000000)
    (hb : ∀ i, i < 48 → w.cell? ⟨g, i, none⟩ = some (.int .u8 (f i))) :
    Calls Tryz.prog 11 #[.slice (some ⟨g, 0, none⟩) 48 cap, .int .u64 x8, .agg #[.int .i64 s1, .int .i64 n1], .agg #[.int .i64 s4, .int .i64 n4], .int .i64 v] w
      (QueryP n1 (s1 + 62135596800) n4 (s4 + 62135596800) x0 x1 x2 x3 x4 x5 x6 x7 x8 x9 x10 w) := by
  have hmf : ∀ (fn : Fn) (first cap : Array Value) (w : World), (Instr.makeFunc fn first cap).run Tryz.prog w = .ok (.func fn first cap) w := fun _ _ _ _ => rfl
  have HB := hidI hb
  clear hb
  go_enter Tryz.func11, Tryz.ntmps11
  go_wp2_with fail
  refine (asked_any f n1 s1 n4 s4 v x0 x1 x2 x3 x4 x5 x6 x7 x8 x9 x10 K g cap _ a1 a1' a4 a4' c1 c1' c4 c4' (fun i hi => cell_later (w := w) (by go_grown) (HB.out i hi))).mono ?_
  rintro e w1 (⟨R, rfl, h2, h3, hb, hR, lR, hr⟩ | ⟨rfl, hx, hb⟩)
  · have gQ : w1.heap[w.heap.size + 1 + 1]? = some (.cells #[.int .i64 0, .int .i64 0, .int .i64 0, .int .i64 0, .int .i64 0, .int .i64 0, .int .i64 0, .int .i64 0, .int .i64 0, .int .i64 0, .int .i64 0, .int .i64 0, .int .u32 0, .int .i64 0, .int .i64 0, .int .i64 0, .int .i64 0, .string ByteArray.empty, .bool false] 37 (0, 0)) := (hb.block (w.heap.size + 1 + 1) (by simp [World.size_alloc])).trans (by
      have := heap_alloc_new ((w.alloc (.cells #[.int .i64 s1, .int .i64 n1] 27)).alloc (.cells #[.int .i64 s4, .int .i64 n4] 27)) (.cells #[.int .i64 0, .int .i64 0, .int .i64 0, .int .i64 0, .int .i64 0, .int .i64 0, .int .i64 0, .int .i64 0, .int .i64 0, .int .i64 0, .int .i64 0, .int .i64 0, .int .u32 0, .int .i64 0, .int .i64 0, .int .i64 0, .int .i64 0, .string ByteArray.empty, .bool false] 37)
      rw [World.size_alloc, World.size_alloc] at this
      exact this)
    have hB : Below w.heap.size w w1 := keepBelow (by go_grown) hb
    have l2 : w.heap.size + 1 + 1 < w1.heap.size := (Array.getElem?_eq_some_iff.1 gQ).1
    have hq0 : w.heap.size ≤ w.heap.size + 1 + 1 := by omega
    have hRq : w.heap.size + 1 + 1 < R := by simp only [World.size_alloc] at hR; omega
    have HR := hidI hr
    clear hr hb hR
    generalize w.heap.size + 1 + 1 = q at *
    go_wp2_with fail
    obtain ⟨W, hW⟩ : ∃ W, W = w1.alloc (.cells #[.pointer (some ⟨R, 0, none⟩)] 54) := ⟨_, rfl⟩
    rw [← hW]
    have hszW : W.heap.size = w1.heap.size + 1 := by rw [hW, World.size_alloc]
    have hW1 : Below w1.heap.size w1 W := by rw [hW]; exact (Below.refl _ _).alloc (Nat.le_refl _) _
    have kr : W.cell? ⟨w1.heap.size, 0, none⟩ = some (.pointer (some ⟨R, 0, none⟩)) := by rw [hW]; exact World.cell?_alloc_new _ _ _ _
    have gW := (hW1.block q l2).trans gQ
    have HRW : Hid (RespAt n1 (s1 + 62135596800) n4 (s4 + 62135596800) x0 x1 x2 x3 x4 x5 x6 x7 x8 x9 x10 R W) := hidI (RespAt.same (fun i => hW1.cell (p := ⟨R, i, none⟩) lR) HR.out)
    have hBW := keepBelow hB hW1
    have hA : Below W.heap.size W (W.alloc (.cells #[.bool false] 4)) := by go_grown
    have hok : (W.alloc (.cells #[.bool false] 4)).cell? ⟨W.heap.size, 0, none⟩ = some (.bool false) := by simp [go_sem]
    have hokf : (W.alloc (.cells #[.bool false] 4)).frozen? ⟨W.heap.size, 0, none⟩ = false := by simp [go_sem]
    have hszA : (W.alloc (.cells #[.bool false] 4)).heap.size = W.heap.size + 1 := World.size_alloc _ _
    have hBA := keepBelow hBW hA
    have mr := cell_later hA kr
    have gA := (hA.block q (by omega)).trans gW
    have HRA : Hid (RespAt n1 (s1 + 62135596800) n4 (s4 + 62135596800) x0 x1 x2 x3 x4 x5 x6 x7 x8 x9 x10 R (W.alloc (.cells #[.bool false] 4))) := hidI (RespAt.same (fun i => hA.cell (p := ⟨R, i, none⟩) (by show R < _; omega)) HRW.out)
    clear hW hW1 kr gW HRW HR gQ hA
    generalize hWA : W.alloc (.cells #[.bool false] 4) = WA at *
    obtain ⟨n2, s2, n3, s3, n5, s5, d, t, hG, hC⟩ := fill_resp K.out hBA hq0 (b0 := w1.heap.size) (by omega) (by omega) HRA.out mr _ _ gA rfl
    have HG := hidI hG
    have HC := hidI hC
    clear hG hC
    refine (try_any 28 _ _ (fun _ => False) W (cf_query _) (by rw [hWA]; exact HC.out) ?_ (fun _ h => h.elim)).mono ?_
    · rintro w' ⟨-, hbut, -⟩
      have hbb := hbut W.heap.size 0 (by omega) (by omega)
      exact ⟨hbb.1.trans hok, hbb.2.trans hokf⟩
    rintro e w2 ⟨w3, (⟨⟨hb3, -, g3⟩, rfl, rfl⟩ | ⟨hf, -, -⟩)⟩
    · obtain ⟨cs, g4, hsz, hv, ho⟩ : ∃ cs : Array Value, w3.heap[q]? = some (.cells cs 37 (0, 0)) ∧ cs.size = 19 ∧ Hid (AnsV n1 (s1 + 62135596800) n4 (s4 + 62135596800) x0 x1 x2 x3 x4 x5 x6 x7 x8 x9 x10 (.agg cs)) ∧ Hid (cs.all (·.oneCell') = true) :=
        ⟨_, g3, rfl, hidI ⟨n2, s2, n3, s3, n5, s5, d, t, HG.out.1, HG.out.2.1, HG.out.2.2, rfl⟩, hidI (by simp [Value.oneCell'])⟩
      have gx := (Below.heap_setCell w3 ⟨W.heap.size, 0, none⟩ (.bool true) q (by show q ≠ W.heap.size; omega)).trans g4
      have hBx : Below w.heap.size w (w3.setCell ⟨W.heap.size, 0, none⟩ (.bool true)) := hb3.setCell (p := ⟨W.heap.size, 0, none⟩) (by show _ ≤ W.heap.size; omega) _
      have GX := hidI gx
      have HI : Hid ((Tryz.prog.info? 37).map (·.size) = some cs.size) := hidI (by rw [hsz]; kernel_rfl)
      clear gx g3 g4 hb3
      generalize w3.setCell ⟨W.heap.size, 0, none⟩ (.bool true) = wx at *
      go_upto_region 7 with fail
      go_wp2_with (first | (refine wpList_load_row (by rfl) 37 _ (by rfl) q (by rfl) 37 cs (0, 0) _ GX.out Tryz.underlying37 (by rfl) HI.out ?_) | (refine wpList_store_row (by rfl) 37 _ _ (by rfl) q cs (by rfl) (by rfl) 37 cs GX.out HI.out rfl ho.out ?_))
      have hgr := setRow_heap wx q cs cs 37 (0, 0) GX.out
      exact bodyPost_ret (v := .tuple #[.agg cs, .int .i64 0]) (results_cell_slot Tryz.results11 _ _ q 37 cs (0, 0) _ rfl hgr Tryz.underlying37 rfl HI.out rfl) rfl ⟨_, 0, rfl, below_setRow hBx hq0 cs, Or.inl ⟨rfl, h2, h3, hv.out⟩⟩
    · exact hf.elim
  · have gQ : w1.heap[w.heap.size + 1 + 1]? = some (.cells #[.int .i64 0, .int .i64 0, .int .i64 0, .int .i64 0, .int .i64 0, .int .i64 0, .int .i64 0, .int .i64 0, .int .i64 0, .int .i64 0, .int .i64 0, .int .i64 0, .int .u32 0, .int .i64 0, .int .i64 0, .int .i64 0, .int .i64 0, .string ByteArray.empty, .bool false] 37 (0, 0)) := (hb.block (w.heap.size + 1 + 1) (by simp [World.size_alloc])).trans (by
      have := heap_alloc_new ((w.alloc (.cells #[.int .i64 s1, .int .i64 n1] 27)).alloc (.cells #[.int .i64 s4, .int .i64 n4] 27)) (.cells #[.int .i64 0, .int .i64 0, .int .i64 0, .int .i64 0, .int .i64 0, .int .i64 0, .int .i64 0, .int .i64 0, .int .i64 0, .int .i64 0, .int .i64 0, .int .i64 0, .int .u32 0, .int .i64 0, .int .i64 0, .int .i64 0, .int .i64 0, .string ByteArray.empty, .bool false] 37)
      rw [World.size_alloc, World.size_alloc] at this
      exact this)
    have hB : Below w.heap.size w w1 := keepBelow (by go_grown) hb
    have l2 : w.heap.size + 1 + 1 < w1.heap.size := (Array.getElem?_eq_some_iff.1 gQ).1
    have hq0 : w.heap.size ≤ w.heap.size + 1 + 1 := by omega
    clear hb
    generalize w.heap.size + 1 + 1 = q at *
    have GQ := hidI gQ
    clear gQ
    obtain ⟨zs, hzz, hzq⟩ : ∃ zs : Array Value, Hid (zs = #[.int .i64 0, .int .i64 0, .int .i64 0, .int .i64 0, .int .i64 0, .int .i64 0, .int .i64 0, .int .i64 0, .int .i64 0, .int .i64 0, .int .i64 0, .int .i64 0, .int .u32 0, .int .i64 0, .int .i64 0, .int .i64 0, .int .i64 0, .string ByteArray.empty, .bool false]) ∧ Hid (w1.heap[q]? = some (.cells zs 37 (0, 0))) := ⟨_, hidI rfl, GQ⟩
    have HBu : Hid (Tryz.prog.built 37 [] = some zs) := hidI (by rw [hzz.out]; kernel_rfl)
    have HI : Hid ((Tryz.prog.info? 37).map (·.size) = some zs.size) := hidI (by rw [hzz.out]; kernel_rfl)
    have ho : Hid (zs.all (·.oneCell') = true) := hidI (by rw [hzz.out]; simp [Value.oneCell'])
    clear GQ
    go_upto_region 3 with fail
    obtain ⟨W, hW⟩ : ∃ W, W = w1.alloc (.cells #[.pointer none] 54) := ⟨_, rfl⟩
    rw [← hW]
    have hBW : Below w.heap.size w W := by rw [hW]; exact hB.alloc hB.size _
    have GX : Hid (W.heap[q]? = some (.cells zs 37 (0, 0))) := hidI (((show Below w1.heap.size w1 W by rw [hW]; exact (Below.refl _ _).alloc (Nat.le_refl _) _).block q l2).trans hzq.out)
    clear hW hzq
    go_wp2_with (first | (refine wpList_buildTo (by rfl) 37 #[] (by rfl) _ (by rfl) zs (by simpa using HBu.out) ?_) | (refine wpList_store_row (by rfl) 37 _ _ (by rfl) q zs (by rfl) (by rfl) 37 zs GX.out HI.out rfl ho.out ?_))
    have hgr := setRow_heap W q zs zs 37 (0, 0) GX.out
    exact bodyPost_ret (v := .tuple #[.agg zs, .int .i64 (-1)]) (results_cell_slot Tryz.results11 _ _ q 37 zs (0, 0) _ rfl hgr Tryz.underlying37 rfl HI.out rfl) rfl ⟨_, -1, rfl, below_setRow hBW hq0 zs, Or.inr ⟨rfl, by rw [hzz.out], hx⟩⟩

end Go.Proofs.YtgifkanoghmijaaGreatDoor
