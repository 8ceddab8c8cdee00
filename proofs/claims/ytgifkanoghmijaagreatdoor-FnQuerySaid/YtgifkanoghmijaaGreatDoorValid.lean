/- impl.Valid. -/
import Derived.Test.YtgifkanoghmijaaGreatDoorAsked
import Derived.Test.YtgifkanoghmijaaGreatDoorVal
namespace Go.Proofs.YtgifkanoghmijaaGreatDoor
open Go.RowKit

/-- Valid$1 has written a number of its own: 0 only for a stratum from 1 to 15 and clocks in step. -/
def Marked (x1 l : Int) (n : Nat) (w w' : World) : Prop := ∃ (m : Int) (w2 : World), (m = 0 → 1 ≤ x1 ∧ x1 ≤ 15 ∧ l ≠ 3) ∧ Below w.heap.size w w2 ∧ w' = w2.setCell ⟨n, 0, none⟩ (.int .i64 m)

set_option maxRecDepth 100000 in
set_option maxHeartbeats 2000000 in
theorem valid1_any (x1 l : Int) (R r n : Nat) (m0 : Int) (w : World) (hv : ∀ W, Below w.heap.size w W → Calls Tryz.prog 35 #[.pointer (some ⟨R, 0, none⟩)] W (Judged x1 l W))
    (kr : w.cell? ⟨r, 0, none⟩ = some (.pointer (some ⟨R, 0, none⟩))) (kn : w.cell? ⟨n, 0, none⟩ = some (.int .i64 m0)) (fn : w.frozen? ⟨n, 0, none⟩ = false) :
    Calls Tryz.prog 33 #[.pointer (some ⟨r, 0, none⟩), .pointer (some ⟨n, 0, none⟩)] w (Tried (Marked x1 l n w) (fun _ => False)) := by
  have HV := hidI hv
  clear hv
  have ln := World.block_lt_of_cell? _ _ kn
  go_enter Tryz.func33, Tryz.ntmps33
  go_wp2_with fail
  refine (HV.out _ (by go_grown)).mono ?_
  rintro e w1 ⟨hB, (⟨rfl, h1, h2, h3⟩ | ⟨s, rfl⟩)⟩
  · have q1 := cell_later hB kn
    have f1 : w1.frozen? ⟨n, 0, none⟩ = false := (hB.frozen ln).trans fn
    go_wp2_with (first | (go_at_call 34; refine (code_nil _).mono ?_; rintro e w9 ⟨rfl, rfl⟩))
    go_ret
    exact Or.inl ⟨rfl, 0, w1, fun _ => ⟨h1, h2, h3⟩, hB, rfl⟩
  · have q1 := cell_later hB kn
    have f1 : w1.frozen? ⟨n, 0, none⟩ = false := (hB.frozen ln).trans fn
    go_wp2_with fail
    refine (code_data s _).mono ?_
    rintro e w2 ⟨m, rfl, hm, hb⟩
    have q2 := cell_later hb q1
    have f2 : w2.frozen? ⟨n, 0, none⟩ = false := (hb.frozen (World.block_lt_of_cell? _ _ q1)).trans f1
    have hB2 : Below w.heap.size w w2 := keepBelow hB hb
    have hm' : m = 0 → 1 ≤ x1 ∧ x1 ≤ 15 ∧ l ≠ 3 := fun h => absurd h hm
    have HM := hidI hm'
    clear hm' hm hb
    go_wp2_with fail
    go_ret
    exact Or.inl ⟨rfl, m, w2, HM.out, hB2, rfl⟩

theorem timeN_bd (x : Int) (h0 : 0 ≤ x) (h1 : x < 18446744073709551616) : 59926608000000000000 ≤ timeN x ∧ timeN x ≤ 68516542592000000000 := by
  have h := durN_bd x h0 h1
  have he : eraN x = 0 ∨ eraN x = 1 := by unfold eraN; split <;> simp
  unfold timeN
  rcases he with he | he <;> rw [he] <;> omega

theorem validate_resp {f : Nat → Int} {n1 s1 n4 s4 x0 x1 x2 x3 x4 x5 x6 x7 x8 x9 x10 : Int} (K : Ok f n1 s1 n4 s4 x0 x1 x2 x3 x4 x5 x6 x7 x8 x9 x10) (hv5 : x0 / 8 % 8 < 5) {R : Nat} {w : World} (hr : RespAt n1 s1 n4 s4 x0 x1 x2 x3 x4 x5 x6 x7 x8 x9 x10 R w) :
    Calls Tryz.prog 35 #[.pointer (some ⟨R, 0, none⟩)] w (Judged x1 (x0 / 64 % 4) w) := by
  obtain ⟨n2, s2, n3, s3, n5, s5, d, t, ⟨p2, p2', q2⟩, ⟨p3, p3', q3⟩, ⟨p5, p5', q5⟩, k0, k1, k14, k15, k16, k19, k20, k22, k23, k24, k32, k33, k34, k35, k36, k37, k38, k41, k42, k43, k44⟩ := hr
  have hx := timeN_bd x7 K.b7 K.b7'
  have y := K.y10
  have y' := K.y10'
  have z0 := K.b0
  have z0' := K.b0'
  exact validate_any R (x0 / 8 % 8) x1 (x0 / 64 % 4) n3 s3 n5 s5 (durS x4) (durS x5) w (by omega) hv5 K.b1 K.b1' (by omega) (by omega) p3 p3' p5 p5' (by omega) (by omega) (by omega) (by omega) (by omega) (by omega) k15 k16 k22 k23 k24 k32 k33 k35 k41 k42 k43 k44

/-- Valid hands back 0 only for a stratum from 1 to 15 and clocks in step. -/
def ValidP (x1 l : Int) (w : World) (e : Ending) (w' : World) : Prop := ∃ m : Int, e = .returned (.int .i64 m) ∧ Below w.heap.size w w' ∧ (m = 0 → 1 ≤ x1 ∧ x1 ≤ 15 ∧ l ≠ 3)

set_option maxRecDepth 100000 in
set_option maxHeartbeats 4000000 in
theorem implValid_any (f : Nat → Int) (n1 s1 n4 s4 v x0 x1 x2 x3 x4 x5 x6 x7 x8 x9 x10 : Int) (K : Hid (Ok f n1 (s1 + 62135596800) n4 (s4 + 62135596800) x0 x1 x2 x3 x4 x5 x6 x7 x8 x9 x10)) (hv5 : Hid (x0 / 8 % 8 < 5)) (g cap : Nat) (w : World)
    (a1 : 0 ≤ n1) (a1' : n1 < 1000000000) (a4 : 0 ≤ n4) (a4' : n4 < 1000000000) (c1 : -2208988800 ≤ s1) (c1' : s1 < 4000000000) (c4 : -2208988800 ≤ s4) (c4' : s4 < 4000000000)
    (hb : ∀ i, i < 48 → w.cell? ⟨g, i, none⟩ = some (.int .u8 (f i))) :
    Calls Tryz.prog 22 #[.slice (some ⟨g, 0, none⟩) 48 cap, .int .u64 x8, .agg #[.int .i64 s1, .int .i64 n1], .agg #[.int .i64 s4, .int .i64 n4], .int .i64 v] w
      (ValidP x1 (x0 / 64 % 4) w) := by
  have hmf : ∀ (fn : Fn) (first cap : Array Value) (w : World), (Instr.makeFunc fn first cap).run Tryz.prog w = .ok (.func fn first cap) w := fun _ _ _ _ => rfl
  have HB := hidI hb
  clear hb
  go_enter Tryz.func22, Tryz.ntmps22
  go_wp2_with fail
  refine (asked_any f n1 s1 n4 s4 v x0 x1 x2 x3 x4 x5 x6 x7 x8 x9 x10 K g cap _ a1 a1' a4 a4' c1 c1' c4 c4' (fun i hi => cell_later (w := w) (by go_grown) (HB.out i hi))).mono ?_
  rintro e w1 (⟨R, rfl, h2, h3, hb, hR, lR, hr⟩ | ⟨rfl, hx, hb⟩)
  · have k2 : w1.cell? ⟨w.heap.size + 1 + 1, 0, none⟩ = some (.int .i64 0) := cell_later hb (by simp [go_sem])
    have f2 : w1.frozen? ⟨w.heap.size + 1 + 1, 0, none⟩ = false := (hb.frozen (p := ⟨w.heap.size + 1 + 1, 0, none⟩) (by simp [World.size_alloc])).trans (by simp [go_sem])
    have hB : Below w.heap.size w w1 := keepBelow (by go_grown) hb
    have l2 := World.block_lt_of_cell? _ _ k2
    have hq0 : w.heap.size ≤ w.heap.size + 1 + 1 := by omega
    have hRq : w.heap.size + 1 + 1 < R := by simp only [World.size_alloc] at hR; omega
    have HR := hidI hr
    clear hr hb hR
    generalize w.heap.size + 1 + 1 = q at *
    go_wp2_with fail
    obtain ⟨W, hW⟩ : ∃ W, W = (((w1.setCell ⟨q, 0, none⟩ (.int .i64 0)).setCell ⟨q, 0, none⟩ (.int .i64 (-1))).alloc (.cells #[.pointer (some ⟨R, 0, none⟩)] 54)) := ⟨_, rfl⟩
    rw [← hW]
    have hs1 : ((w1.setCell ⟨q, 0, none⟩ (.int .i64 0)).setCell ⟨q, 0, none⟩ (.int .i64 (-1))).heap.size = w1.heap.size := by simp [World.setCell]
    have hszW : W.heap.size = w1.heap.size + 1 := by rw [hW, World.size_alloc, hs1]
    have hBW : Below w.heap.size w W := by
      rw [hW]
      exact ((hB.setCell (p := ⟨q, 0, none⟩) hq0 _).setCell (p := ⟨q, 0, none⟩) hq0 _).alloc (by rw [hs1]; exact hB.size) _
    have kr : W.cell? ⟨w1.heap.size, 0, none⟩ = some (.pointer (some ⟨R, 0, none⟩)) := by rw [hW, ← hs1]; exact World.cell?_alloc_new _ _ _ _
    have kn : W.cell? ⟨q, 0, none⟩ = some (.int .i64 (-1)) := by
      rw [hW]
      exact cellAlloc (World.cell?_setCell_same _ _ _ (World.cell?_setCell_same _ _ _ k2)) _
    have hBQ : Below (w1.heap.size) ((w1.setCell ⟨q, 0, none⟩ (.int .i64 0)).setCell ⟨q, 0, none⟩ (.int .i64 (-1))) W := by
      rw [hW]
      exact (Below.refl _ _).alloc (by rw [hs1]; exact Nat.le_refl _) _
    have fn : W.frozen? ⟨q, 0, none⟩ = false := by
      rw [hBQ.frozen (p := ⟨q, 0, none⟩) l2, World.frozen?_setCell, World.frozen?_setCell]
      exact f2
    have HRW : Hid (RespAt n1 (s1 + 62135596800) n4 (s4 + 62135596800) x0 x1 x2 x3 x4 x5 x6 x7 x8 x9 x10 R W) := hidI (RespAt.same (fun i => by
      rw [hBQ.cell (p := ⟨R, i, none⟩) lR, cell_off (by omega), cell_off (by omega)]) HR.out)
    clear hW hBQ HR k2 f2
    have hA : Below W.heap.size W (W.alloc (.cells #[.bool false] 4)) := by go_grown
    have hok : (W.alloc (.cells #[.bool false] 4)).cell? ⟨W.heap.size, 0, none⟩ = some (.bool false) := by simp [go_sem]
    have hokf : (W.alloc (.cells #[.bool false] 4)).frozen? ⟨W.heap.size, 0, none⟩ = false := by simp [go_sem]
    have hszA : (W.alloc (.cells #[.bool false] 4)).heap.size = W.heap.size + 1 := World.size_alloc _ _
    have hBA := keepBelow hBW hA
    have mr := cell_later hA kr
    have mn := cell_later hA kn
    have fA : (W.alloc (.cells #[.bool false] 4)).frozen? ⟨q, 0, none⟩ = false := (hA.frozen (p := ⟨q, 0, none⟩) (by show q < _; omega)).trans fn
    have HRA : Hid (RespAt n1 (s1 + 62135596800) n4 (s4 + 62135596800) x0 x1 x2 x3 x4 x5 x6 x7 x8 x9 x10 R (W.alloc (.cells #[.bool false] 4))) := hidI (RespAt.same (fun i => hA.cell (p := ⟨R, i, none⟩) (by show R < _; omega)) HRW.out)
    generalize hWA : W.alloc (.cells #[.bool false] 4) = WA at *
    refine (try_any 33 _ (Marked x1 (x0 / 64 % 4) q WA) (fun _ => False) W (cf_valid _)
      (by rw [hWA]; exact valid1_any x1 (x0 / 64 % 4) R _ q (-1) WA (fun W' hW' => validate_resp K.out hv5.out (RespAt.same (fun i => hW'.cell (p := ⟨R, i, none⟩) (by show R < _; omega)) HRA.out)) mr mn fA) ?_ (fun _ h => h.elim)).mono ?_
    · rintro w' ⟨m, w2, -, hb, rfl⟩
      have e : (⟨W.heap.size, 0, none⟩ : Addr).block < WA.heap.size := by show W.heap.size < _; omega
      refine ⟨?_, ?_⟩
      · rw [cell_off (by omega), hb.cell e]; exact hok
      · rw [World.frozen?_setCell, hb.frozen e]; exact hokf
    rintro e w2 ⟨w3, (⟨⟨m, w4, hm, hb, rfl⟩, rfl, rfl⟩ | ⟨hf, -, -⟩)⟩
    · have m1 : ((w4.setCell ⟨q, 0, none⟩ (.int .i64 m)).setCell ⟨W.heap.size, 0, none⟩ (.bool true)).cell? ⟨q, 0, none⟩ = some (.int .i64 m) := by
        rw [cell_off (by omega)]; exact World.cell?_setCell_same _ _ _ (cell_later hb mn)
      have m2 : ((w4.setCell ⟨q, 0, none⟩ (.int .i64 m)).setCell ⟨W.heap.size, 0, none⟩ (.bool true)).frozen? ⟨q, 0, none⟩ = false := by
        rw [World.frozen?_setCell, World.frozen?_setCell, hb.frozen (p := ⟨q, 0, none⟩) (by show q < _; omega)]; exact fA
      have hB4 : Below w.heap.size w ((w4.setCell ⟨q, 0, none⟩ (.int .i64 m)).setCell ⟨W.heap.size, 0, none⟩ (.bool true)) :=
        ((keepBelow hBA hb).setCell (p := ⟨q, 0, none⟩) hq0 _).setCell (p := ⟨W.heap.size, 0, none⟩) (by show _ ≤ W.heap.size; omega) _
      have HM := hidI hm
      clear hm hb mr mn fA HRA HRW hok hokf hA hBA hBW kr kn fn hB
      generalize (w4.setCell ⟨q, 0, none⟩ (.int .i64 m)).setCell ⟨W.heap.size, 0, none⟩ (.bool true) = wx at *
      go_wp2_with fail
      exact bodyPost_ret (v := .int .i64 m) (by simp [results, Tryz.results22, go_sem, m1]) rfl ⟨m, rfl, hB4.setCell (p := ⟨q, 0, none⟩) hq0 _, HM.out⟩
    · exact hf.elim
  · have hB : Below w.heap.size w w1 := keepBelow (by go_grown) hb
    have k2 : w1.cell? ⟨w.heap.size + 1 + 1, 0, none⟩ = some (.int .i64 0) := cell_later hb (by simp [go_sem])
    have f2 : w1.frozen? ⟨w.heap.size + 1 + 1, 0, none⟩ = false := (hb.frozen (p := ⟨w.heap.size + 1 + 1, 0, none⟩) (by simp [World.size_alloc])).trans (by simp [go_sem])
    have l2 := World.block_lt_of_cell? _ _ k2
    have hq0 : w.heap.size ≤ w.heap.size + 1 + 1 := by omega
    clear hb
    generalize w.heap.size + 1 + 1 = q at *
    go_wp2_with fail
    have hs1 : ((w1.setCell ⟨q, 0, none⟩ (.int .i64 (-1))).setCell ⟨q, 0, none⟩ (.int .i64 (-1))).heap.size = w1.heap.size := by simp [World.setCell]
    have kn := cellAlloc (World.cell?_setCell_same _ _ (.int .i64 (-1)) (World.cell?_setCell_same _ _ (.int .i64 (-1)) k2)) (.cells #[.pointer none] 54)
    exact bodyPost_ret (v := .int .i64 (-1)) (by simp [results, Tryz.results22, go_sem, kn]) rfl ⟨-1, rfl, ((hB.setCell (p := ⟨q, 0, none⟩) hq0 _).setCell (p := ⟨q, 0, none⟩) hq0 _).alloc (by rw [hs1]; exact hB.size) _, fun h => absurd h (by decide)⟩

end Go.Proofs.YtgifkanoghmijaaGreatDoor
