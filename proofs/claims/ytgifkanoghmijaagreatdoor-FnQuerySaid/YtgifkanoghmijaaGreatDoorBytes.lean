/- The contracts of the reference's high and Bytes: the bytes of a header. -/
import Derived.Test.YtgifkanoghmijaaGreatDoorSub
import Derived.Test.YtgifkanoghmijaaGreatDoorNum
import Derived.Deep.AppendLies
namespace Go.Proofs.YtgifkanoghmijaaGreatDoor
open Go.RowKit

theorem make4 (w : World) : (Instr.makeSlice 40 (.int .i64 4) (.int .i64 4)).run Tryz.prog w = .ok (.slice (some ⟨w.heap.size, 0, none⟩) 4 4) (w.alloc (.cells #[.int .u8 0, .int .u8 0, .int .u8 0, .int .u8 0] 5)) := by kernel_rfl

set_option maxRecDepth 100000 in
set_option maxHeartbeats 1600000 in
theorem high4_any (n : Int) (_h0 : 0 ≤ n) (_h1 : n < 18446744073709551616) (w : World) :
    Calls Tryz.prog 31 #[.int .u64 n, .int .i64 4] w fun e w' => e = .returned (.slice (some ⟨w.heap.size, 0, none⟩) 4 4) ∧
      w.alloc (.cells #[.int .u8 (n / 256 / 256 / 256 % 256), .int .u8 (n / 256 / 256 % 256), .int .u8 (n / 256 % 256), .int .u8 (n % 256)] 5) = w' := by
  have hmk := make4
  go_enter Tryz.func31, Tryz.ntmps31
  go_wp2
  go_rounds 5
  go_ret
  exact ⟨rfl, rfl⟩

theorem make8 (w : World) : (Instr.makeSlice 40 (.int .i64 8) (.int .i64 8)).run Tryz.prog w = .ok (.slice (some ⟨w.heap.size, 0, none⟩) 8 8) (w.alloc (.cells #[.int .u8 0, .int .u8 0, .int .u8 0, .int .u8 0, .int .u8 0, .int .u8 0, .int .u8 0, .int .u8 0] 5)) := by kernel_rfl

set_option maxRecDepth 100000 in
set_option maxHeartbeats 1600000 in
theorem high8_any (n : Int) (h0 : 0 ≤ n) (h1 : n < 18446744073709551616) (w : World) :
    Calls Tryz.prog 31 #[.int .u64 n, .int .i64 8] w fun e w' => e = .returned (.slice (some ⟨w.heap.size, 0, none⟩) 8 8) ∧
      w.alloc (.cells #[.int .u8 (n / 256 / 256 / 256 / 256 / 256 / 256 / 256), .int .u8 (n / 256 / 256 / 256 / 256 / 256 / 256 % 256), .int .u8 (n / 256 / 256 / 256 / 256 / 256 % 256), .int .u8 (n / 256 / 256 / 256 / 256 % 256), .int .u8 (n / 256 / 256 / 256 % 256), .int .u8 (n / 256 / 256 % 256), .int .u8 (n / 256 % 256), .int .u8 (n % 256)] 5) = w' := by
  have hmk := make8
  go_enter Tryz.func31, Tryz.ntmps31
  go_wp2
  go_rounds 9
  go_ret
  exact ⟨rfl, rfl⟩

theorem info5 : (Tryz.prog.info? 5).map (fun i => (i.zero, i.size, i.bytes)) = some (some (.int .u8 0), 1, 1) := by kernel_rfl

theorem first_byte (l v m : Int) (l0 : 0 ≤ l) (l1 : l ≤ 3) (v0 : 0 ≤ v) (v1 : v ≤ 7) (m0 : 0 ≤ m) (m1 : m ≤ 7) : bits .or .i64 (bits .or .i64 (l * 64) (v * 8)) m = l * 64 + v * 8 + m := by
  have h : ∀ (a : Fin 4) (b : Fin 8) (c : Fin 8), bits .or .i64 (bits .or .i64 ((a.val : Int) * 64) ((b.val : Int) * 8)) (c.val : Int) = (a.val : Int) * 64 + (b.val : Int) * 8 + (c.val : Int) := by decide +kernel
  have := h ⟨l.toNat, by omega⟩ ⟨v.toNat, by omega⟩ ⟨m.toNat, by omega⟩
  simpa [Int.toNat_of_nonneg l0, Int.toNat_of_nonneg v0, Int.toNat_of_nonneg m0] using this

/-- Forty-eight bytes come back in new memory. -/
def Fresh (l : List Int) (w : World) (e : Ending) (w' : World) : Prop :=
  ∃ g cap : Nat, e = .returned (.slice (some ⟨g, 0, none⟩) l.length cap) ∧ Below w.heap.size w w' ∧ w.heap.size ≤ g ∧ g < w'.heap.size ∧ l.length ≤ cap ∧ cap ≤ maxLen ∧ ∀ i, i < l.length → w'.cell? ⟨g, i, none⟩ = some (.int .u8 (l.getD i 0))

/-- The bytes of a header. -/
def hdr (h0 h1 h2 h3 h4 h5 h6 h7 h8 h9 h10 h11 h12 : Int) : List Int :=
  [h0 * 64 + h1 * 8 + h2, h3, h4 % 256, h5 % 256, h6 / 256 / 256 / 256 % 256, h6 / 256 / 256 % 256, h6 / 256 % 256, h6 % 256, h7 / 256 / 256 / 256 % 256, h7 / 256 / 256 % 256, h7 / 256 % 256, h7 % 256, h8 / 256 / 256 / 256 % 256, h8 / 256 / 256 % 256, h8 / 256 % 256, h8 % 256, h9 / 256 / 256 / 256 / 256 / 256 / 256 / 256, h9 / 256 / 256 / 256 / 256 / 256 / 256 % 256, h9 / 256 / 256 / 256 / 256 / 256 % 256, h9 / 256 / 256 / 256 / 256 % 256, h9 / 256 / 256 / 256 % 256, h9 / 256 / 256 % 256, h9 / 256 % 256, h9 % 256, h10 / 256 / 256 / 256 / 256 / 256 / 256 / 256, h10 / 256 / 256 / 256 / 256 / 256 / 256 % 256, h10 / 256 / 256 / 256 / 256 / 256 % 256, h10 / 256 / 256 / 256 / 256 % 256, h10 / 256 / 256 / 256 % 256, h10 / 256 / 256 % 256, h10 / 256 % 256, h10 % 256, h11 / 256 / 256 / 256 / 256 / 256 / 256 / 256, h11 / 256 / 256 / 256 / 256 / 256 / 256 % 256, h11 / 256 / 256 / 256 / 256 / 256 % 256, h11 / 256 / 256 / 256 / 256 % 256, h11 / 256 / 256 / 256 % 256, h11 / 256 / 256 % 256, h11 / 256 % 256, h11 % 256, h12 / 256 / 256 / 256 / 256 / 256 / 256 / 256, h12 / 256 / 256 / 256 / 256 / 256 / 256 % 256, h12 / 256 / 256 / 256 / 256 / 256 % 256, h12 / 256 / 256 / 256 / 256 % 256, h12 / 256 / 256 / 256 % 256, h12 / 256 / 256 % 256, h12 / 256 % 256, h12 % 256]

theorem own_fresh {w w' : World} {g cap base : Nat} {e : TypeId} {L : List Value} {l : List Int} (h : w'.ownsRow base e 1 (.slice (some ⟨g, 0, none⟩) 48 cap) 48 L) (hL : L = l.map (.int .u8)) (hl : l.length = 48)
    (hB : Below w.heap.size w w') (bg : w.heap.size ≤ g) : Fresh l w (.returned (.slice (some ⟨g, 0, none⟩) 48 cap)) w' := by
  have hc := h.cells (g := g) rfl
  have h48 : 48 ≤ cap ∧ cap ≤ maxLen := by
    rcases h.2 with ⟨h1, -⟩ | ⟨g', cap', cur, h1, -, -, h2, h3, -, -⟩
    · cases h1
    · cases h1; exact ⟨h2, h3⟩
  have hk : ∀ i, i < l.length → w'.cell? ⟨g, i, none⟩ = some (.int .u8 (l.getD i 0)) := fun i hi => by
    have := hc i (.int .u8 (l.getD i 0)) (by rw [hL, List.getElem?_map, List.getElem?_eq_getElem hi]; simp [List.getD, List.getElem?_eq_getElem hi])
    have hadd : (⟨g, 0, none⟩ : Addr).add i = ⟨g, i, none⟩ := by unfold Addr.add; split <;> simp_all
    rw [hadd] at this
    exact this
  exact ⟨g, cap, by rw [hl], hB, by omega, World.block_lt_of_cell? _ _ (hk 0 (by omega)), by omega, h48.2, hk⟩

/-- What an append to a row of the call's own leaves. -/
theorem after_append {w W w' : World} {T g g' n cap H : Nat} (hg : W.grownBy w' (Value.slice (some ⟨g, 0, none⟩) n cap).ownBlock) (hat : (Value.slice (some ⟨g, 0, none⟩) n cap).ownBlock = some g' ∨ g' = H) (hH : W.heap.size = H)
    (hB : Below w.heap.size w W) (bg : w.heap.size < g) (lT : T < W.heap.size) (ng : g ≠ T) (lw : w.heap.size < W.heap.size) :
    Below w.heap.size w w' ∧ w.heap.size < g' ∧ g' ≠ T ∧ T < w'.heap.size ∧ w.heap.size < w'.heap.size ∧ ∀ b o v, b ≠ g → W.cell? ⟨b, o, none⟩ = some v → w'.cell? ⟨b, o, none⟩ = some v := by
  have hs := hg.size
  refine ⟨hB.grown hg (by omega) (fun k hk => ?_), ?_, ?_, by omega, by omega, fun b o v hb h => hg.cell h (by simpa [Value.ownBlock] using hb)⟩
  · simp only [Value.ownBlock, Option.some.injEq] at hk; omega
  · rcases hat with h | h
    · simp only [Value.ownBlock, Option.some.injEq] at h; omega
    · omega
  · rcases hat with h | h
    · simp only [Value.ownBlock, Option.some.injEq] at h; omega
    · omega

set_option maxRecDepth 100000 in
set_option maxHeartbeats 4000000 in
theorem bytes_any (h0 h1 h2 h3 h4 h5 h6 h7 h8 h9 h10 h11 h12 : Int) (l0 : 0 ≤ h0) (l1 : h0 ≤ 3) (v0 : 0 ≤ h1) (v1 : h1 ≤ 7) (m0 : 0 ≤ h2) (m1 : h2 ≤ 7) (s0 : 0 ≤ h3) (s1 : h3 ≤ 255) (_p0 : -128 ≤ h4) (_p1 : h4 ≤ 127) (_q0 : -128 ≤ h5) (_q1 : h5 ≤ 127) (b6 : 0 ≤ h6) (c6 : h6 < 4294967296) (b7 : 0 ≤ h7) (c7 : h7 < 4294967296) (b8 : 0 ≤ h8) (c8 : h8 < 4294967296) (b9 : 0 ≤ h9) (c9 : h9 < 18446744073709551616) (b10 : 0 ≤ h10) (c10 : h10 < 18446744073709551616) (b11 : 0 ≤ h11) (c11 : h11 < 18446744073709551616) (b12 : 0 ≤ h12) (c12 : h12 < 18446744073709551616) (w : World) :
    Calls Tryz.prog 12 #[.agg #[.int .i64 h0, .int .i64 h1, .int .i64 h2, .int .i64 h3, .int .i64 h4, .int .i64 h5, .int .u32 h6, .int .u32 h7, .int .u32 h8, .int .u64 h9, .int .u64 h10, .int .u64 h11, .int .u64 h12]] w (Fresh (hdr h0 h1 h2 h3 h4 h5 h6 h7 h8 h9 h10 h11 h12) w) := by
  have hfb := first_byte h0 h1 h2 l0 l1 v0 v1 m0 m1
  have hfb0 : 0 ≤ h0 * 64 + h1 * 8 + h2 := by omega
  have hfb1 : h0 * 64 + h1 * 8 + h2 < 256 := by omega
  go_enter Tryz.func12, Tryz.ntmps12
  obtain ⟨i0, hi0, hz0, hz1, hz2⟩ := info_parts info5
  go_wp2_with fail
  have hown0 : ((w.alloc (.cells #[.int .i64 h0, .int .i64 h1, .int .i64 h2, .int .i64 h3, .int .i64 h4, .int .i64 h5, .int .u32 h6, .int .u32 h7, .int .u32 h8, .int .u64 h9, .int .u64 h10, .int .u64 h11, .int .u64 h12] 28)).alloc (.cells #[.int .u8 (h0 * 64 + h1 * 8 + h2), .int .u8 (h3), .int .u8 (h4 % 256), .int .u8 (h5 % 256)] 5)).ownsRow (w.heap.size + 1) 5 1 (.slice (some ⟨w.heap.size + 1, 0, none⟩) 4 4) 4 [.int .u8 (h0 * 64 + h1 * 8 + h2), .int .u8 (h3), .int .u8 (h4 % 256), .int .u8 (h5 % 256)] :=
    ⟨rfl, Or.inr ⟨w.heap.size + 1, 4, #[.int .u8 (h0 * 64 + h1 * 8 + h2), .int .u8 (h3), .int .u8 (h4 % 256), .int .u8 (h5 % 256)], rfl, Nat.le_refl _, by have := heap_alloc_new (w.alloc (.cells #[.int .i64 h0, .int .i64 h1, .int .i64 h2, .int .i64 h3, .int .i64 h4, .int .i64 h5, .int .u32 h6, .int .u32 h7, .int .u32 h8, .int .u64 h9, .int .u64 h10, .int .u64 h11, .int .u64 h12] 28)) (.cells #[.int .u8 (h0 * 64 + h1 * 8 + h2), .int .u8 (h3), .int .u8 (h4 % 256), .int .u8 (h5 % 256)] 5); rwa [World.size_alloc] at this, by decide, by decide, rfl, rfl⟩⟩
  refine wp_loop_rounds 4 ?_
  rw [rounds_succ]
  go_wp2_with fail
  refine (high4_any h6 (by omega) (by omega) _).mono ?_
  rintro e w1 ⟨rfl, rfl⟩
  have hn10 : Hid (((((w.alloc (.cells #[.int .i64 h0, .int .i64 h1, .int .i64 h2, .int .i64 h3, .int .i64 h4, .int .i64 h5, .int .u32 h6, .int .u32 h7, .int .u32 h8, .int .u64 h9, .int .u64 h10, .int .u64 h11, .int .u64 h12] 28)).alloc (.cells #[.int .u8 (h0 * 64 + h1 * 8 + h2), .int .u8 (h3), .int .u8 (h4 % 256), .int .u8 (h5 % 256)] 5)).alloc (.cells #[.int .u32 h6, .int .u32 h7, .int .u32 h8] 22)).alloc (.cells #[.int .u8 (h6 / 256 / 256 / 256 % 256), .int .u8 (h6 / 256 / 256 % 256), .int .u8 (h6 / 256 % 256), .int .u8 (h6 % 256)] 5)).heap[w.heap.size + 1 + 1 + 1]? = some (.cells #[.int .u8 (h6 / 256 / 256 / 256 % 256), .int .u8 (h6 / 256 / 256 % 256), .int .u8 (h6 / 256 % 256), .int .u8 (h6 % 256)] 5)) := hidI (by have := heap_alloc_new (((w.alloc (.cells #[.int .i64 h0, .int .i64 h1, .int .i64 h2, .int .i64 h3, .int .i64 h4, .int .i64 h5, .int .u32 h6, .int .u32 h7, .int .u32 h8, .int .u64 h9, .int .u64 h10, .int .u64 h11, .int .u64 h12] 28)).alloc (.cells #[.int .u8 (h0 * 64 + h1 * 8 + h2), .int .u8 (h3), .int .u8 (h4 % 256), .int .u8 (h5 % 256)] 5)).alloc (.cells #[.int .u32 h6, .int .u32 h7, .int .u32 h8] 22)) (.cells #[.int .u8 (h6 / 256 / 256 / 256 % 256), .int .u8 (h6 / 256 / 256 % 256), .int .u8 (h6 / 256 % 256), .int .u8 (h6 % 256)] 5); simp only [World.size_alloc] at this; exact this)
  go_wp2_with (at_builtin; refine wpList_append_lies _ rfl _ _ 40 rfl (w.heap.size + 1) 5 i0 _ 1 1 Tryz.underlying40 hi0 hz0 hz1 hz2 rfl (by decide) _ 4 _ rfl ((hown0.alloc _).alloc _) ⟨w.heap.size + 1 + 1 + 1, 0, none⟩ 4 4 [.int .u8 (h6 / 256 / 256 / 256 % 256), .int .u8 (h6 / 256 / 256 % 256), .int .u8 (h6 / 256 % 256), .int .u8 (h6 % 256)] rfl rfl (World.news_of_block (cs := #[.int .u8 (h6 / 256 / 256 / 256 % 256), .int .u8 (h6 / 256 / 256 % 256), .int .u8 (h6 / 256 % 256), .int .u8 (h6 % 256)]) (t := 5) (fr := (0, 0)) hn10.out) (by simp [Value.oneCell']) (by decide) (by decide) (by decide) ?hbase10 _ rfl ?hrest10; (case hbase10 => (first | omega | (simp only [World.size_alloc]; omega) | (simp; done) | (simp; omega))); intro g10 cap10 wr10 hown10 hgr10 hat10 hlt10)
  obtain ⟨hB10, bg10, ng10, lT10, lw10, hk10⟩ := after_append (w := w) (T := w.heap.size + 1 + 1) hgr10 hat10 rfl (by go_grown) (by omega) (by first | omega | (simp only [World.size_alloc]; omega) | (simp; done) | (simp; omega)) (by omega) (by first | omega | (simp only [World.size_alloc]; omega) | (simp; done) | (simp; omega))
  have kT1_1 : wr10.cell? ⟨w.heap.size + 1 + 1, 1, none⟩ = some (.int .u32 h7) := hk10 _ _ _ (by omega) (by simp [go_sem])
  have kT1_2 : wr10.cell? ⟨w.heap.size + 1 + 1, 2, none⟩ = some (.int .u32 h8) := hk10 _ _ _ (by omega) (by simp [go_sem])
  have kH_9 : wr10.cell? ⟨w.heap.size, 9, none⟩ = some (.int .u64 h9) := hk10 _ _ _ (by omega) (by simp [go_sem])
  have kH_10 : wr10.cell? ⟨w.heap.size, 10, none⟩ = some (.int .u64 h10) := hk10 _ _ _ (by omega) (by simp [go_sem])
  have kH_11 : wr10.cell? ⟨w.heap.size, 11, none⟩ = some (.int .u64 h11) := hk10 _ _ _ (by omega) (by simp [go_sem])
  have kH_12 : wr10.cell? ⟨w.heap.size, 12, none⟩ = some (.int .u64 h12) := hk10 _ _ _ (by omega) (by simp [go_sem])
  clear hgr10 hat10 hk10
  rw [rounds_succ]
  go_wp2_with fail
  refine (high4_any h7 (by omega) (by omega) _).mono ?_
  rintro e w1 ⟨rfl, rfl⟩
  have hn11 : Hid (((wr10).alloc (.cells #[.int .u8 (h7 / 256 / 256 / 256 % 256), .int .u8 (h7 / 256 / 256 % 256), .int .u8 (h7 / 256 % 256), .int .u8 (h7 % 256)] 5)).heap[wr10.heap.size]? = some (.cells #[.int .u8 (h7 / 256 / 256 / 256 % 256), .int .u8 (h7 / 256 / 256 % 256), .int .u8 (h7 / 256 % 256), .int .u8 (h7 % 256)] 5)) := hidI (by have := heap_alloc_new (wr10) (.cells #[.int .u8 (h7 / 256 / 256 / 256 % 256), .int .u8 (h7 / 256 / 256 % 256), .int .u8 (h7 / 256 % 256), .int .u8 (h7 % 256)] 5); exact this)
  go_wp2_with (at_builtin; refine wpList_append_lies _ rfl _ _ 40 rfl (w.heap.size + 1) 5 i0 _ 1 1 Tryz.underlying40 hi0 hz0 hz1 hz2 rfl (by decide) _ 8 _ rfl (hown10.alloc _) ⟨wr10.heap.size, 0, none⟩ 4 4 [.int .u8 (h7 / 256 / 256 / 256 % 256), .int .u8 (h7 / 256 / 256 % 256), .int .u8 (h7 / 256 % 256), .int .u8 (h7 % 256)] rfl rfl (World.news_of_block (cs := #[.int .u8 (h7 / 256 / 256 / 256 % 256), .int .u8 (h7 / 256 / 256 % 256), .int .u8 (h7 / 256 % 256), .int .u8 (h7 % 256)]) (t := 5) (fr := (0, 0)) hn11.out) (by simp [Value.oneCell']) (by decide) (by decide) (by decide) ?hbase11 _ rfl ?hrest11; (case hbase11 => (first | omega | (simp only [World.size_alloc]; omega) | (simp; done) | (simp; omega))); intro g11 cap11 wr11 hown11 hgr11 hat11 hlt11)
  obtain ⟨hB11, bg11, ng11, lT11, lw11, hk11⟩ := after_append (w := w) (T := w.heap.size + 1 + 1) hgr11 hat11 rfl (by go_grown) (by omega) (by first | omega | (simp only [World.size_alloc]; omega) | (simp; done) | (simp; omega)) (by omega) (by first | omega | (simp only [World.size_alloc]; omega) | (simp; done) | (simp; omega))
  replace kT1_2 : wr11.cell? ⟨w.heap.size + 1 + 1, 2, none⟩ = some (.int .u32 h8) := hk11 _ _ _ (by omega) (cell_later (by go_grown) kT1_2)
  replace kH_9 : wr11.cell? ⟨w.heap.size, 9, none⟩ = some (.int .u64 h9) := hk11 _ _ _ (by omega) (cell_later (by go_grown) kH_9)
  replace kH_10 : wr11.cell? ⟨w.heap.size, 10, none⟩ = some (.int .u64 h10) := hk11 _ _ _ (by omega) (cell_later (by go_grown) kH_10)
  replace kH_11 : wr11.cell? ⟨w.heap.size, 11, none⟩ = some (.int .u64 h11) := hk11 _ _ _ (by omega) (cell_later (by go_grown) kH_11)
  replace kH_12 : wr11.cell? ⟨w.heap.size, 12, none⟩ = some (.int .u64 h12) := hk11 _ _ _ (by omega) (cell_later (by go_grown) kH_12)
  clear hgr11 hat11 hk11
  clear kT1_1
  rw [rounds_succ]
  go_wp2_with fail
  refine (high4_any h8 (by omega) (by omega) _).mono ?_
  rintro e w1 ⟨rfl, rfl⟩
  have hn12 : Hid (((wr11).alloc (.cells #[.int .u8 (h8 / 256 / 256 / 256 % 256), .int .u8 (h8 / 256 / 256 % 256), .int .u8 (h8 / 256 % 256), .int .u8 (h8 % 256)] 5)).heap[wr11.heap.size]? = some (.cells #[.int .u8 (h8 / 256 / 256 / 256 % 256), .int .u8 (h8 / 256 / 256 % 256), .int .u8 (h8 / 256 % 256), .int .u8 (h8 % 256)] 5)) := hidI (by have := heap_alloc_new (wr11) (.cells #[.int .u8 (h8 / 256 / 256 / 256 % 256), .int .u8 (h8 / 256 / 256 % 256), .int .u8 (h8 / 256 % 256), .int .u8 (h8 % 256)] 5); exact this)
  go_wp2_with (at_builtin; refine wpList_append_lies _ rfl _ _ 40 rfl (w.heap.size + 1) 5 i0 _ 1 1 Tryz.underlying40 hi0 hz0 hz1 hz2 rfl (by decide) _ 12 _ rfl (hown11.alloc _) ⟨wr11.heap.size, 0, none⟩ 4 4 [.int .u8 (h8 / 256 / 256 / 256 % 256), .int .u8 (h8 / 256 / 256 % 256), .int .u8 (h8 / 256 % 256), .int .u8 (h8 % 256)] rfl rfl (World.news_of_block (cs := #[.int .u8 (h8 / 256 / 256 / 256 % 256), .int .u8 (h8 / 256 / 256 % 256), .int .u8 (h8 / 256 % 256), .int .u8 (h8 % 256)]) (t := 5) (fr := (0, 0)) hn12.out) (by simp [Value.oneCell']) (by decide) (by decide) (by decide) ?hbase12 _ rfl ?hrest12; (case hbase12 => (first | omega | (simp only [World.size_alloc]; omega) | (simp; done) | (simp; omega))); intro g12 cap12 wr12 hown12 hgr12 hat12 hlt12)
  obtain ⟨hB12, bg12, ng12, lT12, lw12, hk12⟩ := after_append (w := w) (T := w.heap.size + 1 + 1) hgr12 hat12 rfl (by go_grown) (by omega) (by first | omega | (simp only [World.size_alloc]; omega) | (simp; done) | (simp; omega)) (by omega) (by first | omega | (simp only [World.size_alloc]; omega) | (simp; done) | (simp; omega))
  replace kH_9 : wr12.cell? ⟨w.heap.size, 9, none⟩ = some (.int .u64 h9) := hk12 _ _ _ (by omega) (cell_later (by go_grown) kH_9)
  replace kH_10 : wr12.cell? ⟨w.heap.size, 10, none⟩ = some (.int .u64 h10) := hk12 _ _ _ (by omega) (cell_later (by go_grown) kH_10)
  replace kH_11 : wr12.cell? ⟨w.heap.size, 11, none⟩ = some (.int .u64 h11) := hk12 _ _ _ (by omega) (cell_later (by go_grown) kH_11)
  replace kH_12 : wr12.cell? ⟨w.heap.size, 12, none⟩ = some (.int .u64 h12) := hk12 _ _ _ (by omega) (cell_later (by go_grown) kH_12)
  clear hgr12 hat12 hk12
  clear kT1_2
  rw [rounds_succ]
  go_wp2_with fail
  refine wp_loop_rounds 5 ?_
  rw [rounds_succ]
  go_wp2_with fail
  refine (high8_any h9 (by omega) (by omega) _).mono ?_
  rintro e w1 ⟨rfl, rfl⟩
  have hn20 : Hid (((wr12.alloc (.cells #[.int .u64 h9, .int .u64 h10, .int .u64 h11, .int .u64 h12] 23)).alloc (.cells #[.int .u8 (h9 / 256 / 256 / 256 / 256 / 256 / 256 / 256), .int .u8 (h9 / 256 / 256 / 256 / 256 / 256 / 256 % 256), .int .u8 (h9 / 256 / 256 / 256 / 256 / 256 % 256), .int .u8 (h9 / 256 / 256 / 256 / 256 % 256), .int .u8 (h9 / 256 / 256 / 256 % 256), .int .u8 (h9 / 256 / 256 % 256), .int .u8 (h9 / 256 % 256), .int .u8 (h9 % 256)] 5)).heap[wr12.heap.size + 1]? = some (.cells #[.int .u8 (h9 / 256 / 256 / 256 / 256 / 256 / 256 / 256), .int .u8 (h9 / 256 / 256 / 256 / 256 / 256 / 256 % 256), .int .u8 (h9 / 256 / 256 / 256 / 256 / 256 % 256), .int .u8 (h9 / 256 / 256 / 256 / 256 % 256), .int .u8 (h9 / 256 / 256 / 256 % 256), .int .u8 (h9 / 256 / 256 % 256), .int .u8 (h9 / 256 % 256), .int .u8 (h9 % 256)] 5)) := hidI (by have := heap_alloc_new (wr12.alloc (.cells #[.int .u64 h9, .int .u64 h10, .int .u64 h11, .int .u64 h12] 23)) (.cells #[.int .u8 (h9 / 256 / 256 / 256 / 256 / 256 / 256 / 256), .int .u8 (h9 / 256 / 256 / 256 / 256 / 256 / 256 % 256), .int .u8 (h9 / 256 / 256 / 256 / 256 / 256 % 256), .int .u8 (h9 / 256 / 256 / 256 / 256 % 256), .int .u8 (h9 / 256 / 256 / 256 % 256), .int .u8 (h9 / 256 / 256 % 256), .int .u8 (h9 / 256 % 256), .int .u8 (h9 % 256)] 5); simp only [World.size_alloc] at this; exact this)
  go_wp2_with (at_builtin; refine wpList_append_lies _ rfl _ _ 40 rfl (w.heap.size + 1) 5 i0 _ 1 1 Tryz.underlying40 hi0 hz0 hz1 hz2 rfl (by decide) _ 16 _ rfl ((hown12.alloc _).alloc _) ⟨wr12.heap.size + 1, 0, none⟩ 8 8 [.int .u8 (h9 / 256 / 256 / 256 / 256 / 256 / 256 / 256), .int .u8 (h9 / 256 / 256 / 256 / 256 / 256 / 256 % 256), .int .u8 (h9 / 256 / 256 / 256 / 256 / 256 % 256), .int .u8 (h9 / 256 / 256 / 256 / 256 % 256), .int .u8 (h9 / 256 / 256 / 256 % 256), .int .u8 (h9 / 256 / 256 % 256), .int .u8 (h9 / 256 % 256), .int .u8 (h9 % 256)] rfl rfl (World.news_of_block (cs := #[.int .u8 (h9 / 256 / 256 / 256 / 256 / 256 / 256 / 256), .int .u8 (h9 / 256 / 256 / 256 / 256 / 256 / 256 % 256), .int .u8 (h9 / 256 / 256 / 256 / 256 / 256 % 256), .int .u8 (h9 / 256 / 256 / 256 / 256 % 256), .int .u8 (h9 / 256 / 256 / 256 % 256), .int .u8 (h9 / 256 / 256 % 256), .int .u8 (h9 / 256 % 256), .int .u8 (h9 % 256)]) (t := 5) (fr := (0, 0)) hn20.out) (by simp [Value.oneCell']) (by decide) (by decide) (by decide) ?hbase20 _ rfl ?hrest20; (case hbase20 => (first | omega | (simp only [World.size_alloc]; omega) | (simp; done) | (simp; omega))); intro g20 cap20 wr20 hown20 hgr20 hat20 hlt20)
  obtain ⟨hB20, bg20, ng20, lT20, lw20, hk20⟩ := after_append (w := w) (T := wr12.heap.size) hgr20 hat20 rfl (by go_grown) (by omega) (by first | omega | (simp only [World.size_alloc]; omega) | (simp; done) | (simp; omega)) (by omega) (by first | omega | (simp only [World.size_alloc]; omega) | (simp; done) | (simp; omega))
  have kT2_1 : wr20.cell? ⟨wr12.heap.size, 1, none⟩ = some (.int .u64 h10) := hk20 _ _ _ (by omega) (by simp [go_sem])
  have kT2_2 : wr20.cell? ⟨wr12.heap.size, 2, none⟩ = some (.int .u64 h11) := hk20 _ _ _ (by omega) (by simp [go_sem])
  have kT2_3 : wr20.cell? ⟨wr12.heap.size, 3, none⟩ = some (.int .u64 h12) := hk20 _ _ _ (by omega) (by simp [go_sem])
  clear hgr20 hat20 hk20
  rw [rounds_succ]
  go_wp2_with fail
  refine (high8_any h10 (by omega) (by omega) _).mono ?_
  rintro e w1 ⟨rfl, rfl⟩
  have hn21 : Hid (((wr20).alloc (.cells #[.int .u8 (h10 / 256 / 256 / 256 / 256 / 256 / 256 / 256), .int .u8 (h10 / 256 / 256 / 256 / 256 / 256 / 256 % 256), .int .u8 (h10 / 256 / 256 / 256 / 256 / 256 % 256), .int .u8 (h10 / 256 / 256 / 256 / 256 % 256), .int .u8 (h10 / 256 / 256 / 256 % 256), .int .u8 (h10 / 256 / 256 % 256), .int .u8 (h10 / 256 % 256), .int .u8 (h10 % 256)] 5)).heap[wr20.heap.size]? = some (.cells #[.int .u8 (h10 / 256 / 256 / 256 / 256 / 256 / 256 / 256), .int .u8 (h10 / 256 / 256 / 256 / 256 / 256 / 256 % 256), .int .u8 (h10 / 256 / 256 / 256 / 256 / 256 % 256), .int .u8 (h10 / 256 / 256 / 256 / 256 % 256), .int .u8 (h10 / 256 / 256 / 256 % 256), .int .u8 (h10 / 256 / 256 % 256), .int .u8 (h10 / 256 % 256), .int .u8 (h10 % 256)] 5)) := hidI (by have := heap_alloc_new (wr20) (.cells #[.int .u8 (h10 / 256 / 256 / 256 / 256 / 256 / 256 / 256), .int .u8 (h10 / 256 / 256 / 256 / 256 / 256 / 256 % 256), .int .u8 (h10 / 256 / 256 / 256 / 256 / 256 % 256), .int .u8 (h10 / 256 / 256 / 256 / 256 % 256), .int .u8 (h10 / 256 / 256 / 256 % 256), .int .u8 (h10 / 256 / 256 % 256), .int .u8 (h10 / 256 % 256), .int .u8 (h10 % 256)] 5); exact this)
  go_wp2_with (at_builtin; refine wpList_append_lies _ rfl _ _ 40 rfl (w.heap.size + 1) 5 i0 _ 1 1 Tryz.underlying40 hi0 hz0 hz1 hz2 rfl (by decide) _ 24 _ rfl (hown20.alloc _) ⟨wr20.heap.size, 0, none⟩ 8 8 [.int .u8 (h10 / 256 / 256 / 256 / 256 / 256 / 256 / 256), .int .u8 (h10 / 256 / 256 / 256 / 256 / 256 / 256 % 256), .int .u8 (h10 / 256 / 256 / 256 / 256 / 256 % 256), .int .u8 (h10 / 256 / 256 / 256 / 256 % 256), .int .u8 (h10 / 256 / 256 / 256 % 256), .int .u8 (h10 / 256 / 256 % 256), .int .u8 (h10 / 256 % 256), .int .u8 (h10 % 256)] rfl rfl (World.news_of_block (cs := #[.int .u8 (h10 / 256 / 256 / 256 / 256 / 256 / 256 / 256), .int .u8 (h10 / 256 / 256 / 256 / 256 / 256 / 256 % 256), .int .u8 (h10 / 256 / 256 / 256 / 256 / 256 % 256), .int .u8 (h10 / 256 / 256 / 256 / 256 % 256), .int .u8 (h10 / 256 / 256 / 256 % 256), .int .u8 (h10 / 256 / 256 % 256), .int .u8 (h10 / 256 % 256), .int .u8 (h10 % 256)]) (t := 5) (fr := (0, 0)) hn21.out) (by simp [Value.oneCell']) (by decide) (by decide) (by decide) ?hbase21 _ rfl ?hrest21; (case hbase21 => (first | omega | (simp only [World.size_alloc]; omega) | (simp; done) | (simp; omega))); intro g21 cap21 wr21 hown21 hgr21 hat21 hlt21)
  obtain ⟨hB21, bg21, ng21, lT21, lw21, hk21⟩ := after_append (w := w) (T := wr12.heap.size) hgr21 hat21 rfl (by go_grown) (by omega) (by first | omega | (simp only [World.size_alloc]; omega) | (simp; done) | (simp; omega)) (by omega) (by first | omega | (simp only [World.size_alloc]; omega) | (simp; done) | (simp; omega))
  replace kT2_2 : wr21.cell? ⟨wr12.heap.size, 2, none⟩ = some (.int .u64 h11) := hk21 _ _ _ (by omega) (cell_later (by go_grown) kT2_2)
  replace kT2_3 : wr21.cell? ⟨wr12.heap.size, 3, none⟩ = some (.int .u64 h12) := hk21 _ _ _ (by omega) (cell_later (by go_grown) kT2_3)
  clear hgr21 hat21 hk21
  clear kT2_1
  rw [rounds_succ]
  go_wp2_with fail
  refine (high8_any h11 (by omega) (by omega) _).mono ?_
  rintro e w1 ⟨rfl, rfl⟩
  have hn22 : Hid (((wr21).alloc (.cells #[.int .u8 (h11 / 256 / 256 / 256 / 256 / 256 / 256 / 256), .int .u8 (h11 / 256 / 256 / 256 / 256 / 256 / 256 % 256), .int .u8 (h11 / 256 / 256 / 256 / 256 / 256 % 256), .int .u8 (h11 / 256 / 256 / 256 / 256 % 256), .int .u8 (h11 / 256 / 256 / 256 % 256), .int .u8 (h11 / 256 / 256 % 256), .int .u8 (h11 / 256 % 256), .int .u8 (h11 % 256)] 5)).heap[wr21.heap.size]? = some (.cells #[.int .u8 (h11 / 256 / 256 / 256 / 256 / 256 / 256 / 256), .int .u8 (h11 / 256 / 256 / 256 / 256 / 256 / 256 % 256), .int .u8 (h11 / 256 / 256 / 256 / 256 / 256 % 256), .int .u8 (h11 / 256 / 256 / 256 / 256 % 256), .int .u8 (h11 / 256 / 256 / 256 % 256), .int .u8 (h11 / 256 / 256 % 256), .int .u8 (h11 / 256 % 256), .int .u8 (h11 % 256)] 5)) := hidI (by have := heap_alloc_new (wr21) (.cells #[.int .u8 (h11 / 256 / 256 / 256 / 256 / 256 / 256 / 256), .int .u8 (h11 / 256 / 256 / 256 / 256 / 256 / 256 % 256), .int .u8 (h11 / 256 / 256 / 256 / 256 / 256 % 256), .int .u8 (h11 / 256 / 256 / 256 / 256 % 256), .int .u8 (h11 / 256 / 256 / 256 % 256), .int .u8 (h11 / 256 / 256 % 256), .int .u8 (h11 / 256 % 256), .int .u8 (h11 % 256)] 5); exact this)
  go_wp2_with (at_builtin; refine wpList_append_lies _ rfl _ _ 40 rfl (w.heap.size + 1) 5 i0 _ 1 1 Tryz.underlying40 hi0 hz0 hz1 hz2 rfl (by decide) _ 32 _ rfl (hown21.alloc _) ⟨wr21.heap.size, 0, none⟩ 8 8 [.int .u8 (h11 / 256 / 256 / 256 / 256 / 256 / 256 / 256), .int .u8 (h11 / 256 / 256 / 256 / 256 / 256 / 256 % 256), .int .u8 (h11 / 256 / 256 / 256 / 256 / 256 % 256), .int .u8 (h11 / 256 / 256 / 256 / 256 % 256), .int .u8 (h11 / 256 / 256 / 256 % 256), .int .u8 (h11 / 256 / 256 % 256), .int .u8 (h11 / 256 % 256), .int .u8 (h11 % 256)] rfl rfl (World.news_of_block (cs := #[.int .u8 (h11 / 256 / 256 / 256 / 256 / 256 / 256 / 256), .int .u8 (h11 / 256 / 256 / 256 / 256 / 256 / 256 % 256), .int .u8 (h11 / 256 / 256 / 256 / 256 / 256 % 256), .int .u8 (h11 / 256 / 256 / 256 / 256 % 256), .int .u8 (h11 / 256 / 256 / 256 % 256), .int .u8 (h11 / 256 / 256 % 256), .int .u8 (h11 / 256 % 256), .int .u8 (h11 % 256)]) (t := 5) (fr := (0, 0)) hn22.out) (by simp [Value.oneCell']) (by decide) (by decide) (by decide) ?hbase22 _ rfl ?hrest22; (case hbase22 => (first | omega | (simp only [World.size_alloc]; omega) | (simp; done) | (simp; omega))); intro g22 cap22 wr22 hown22 hgr22 hat22 hlt22)
  obtain ⟨hB22, bg22, ng22, lT22, lw22, hk22⟩ := after_append (w := w) (T := wr12.heap.size) hgr22 hat22 rfl (by go_grown) (by omega) (by first | omega | (simp only [World.size_alloc]; omega) | (simp; done) | (simp; omega)) (by omega) (by first | omega | (simp only [World.size_alloc]; omega) | (simp; done) | (simp; omega))
  replace kT2_3 : wr22.cell? ⟨wr12.heap.size, 3, none⟩ = some (.int .u64 h12) := hk22 _ _ _ (by omega) (cell_later (by go_grown) kT2_3)
  clear hgr22 hat22 hk22
  clear kT2_2
  rw [rounds_succ]
  go_wp2_with fail
  refine (high8_any h12 (by omega) (by omega) _).mono ?_
  rintro e w1 ⟨rfl, rfl⟩
  have hn23 : Hid (((wr22).alloc (.cells #[.int .u8 (h12 / 256 / 256 / 256 / 256 / 256 / 256 / 256), .int .u8 (h12 / 256 / 256 / 256 / 256 / 256 / 256 % 256), .int .u8 (h12 / 256 / 256 / 256 / 256 / 256 % 256), .int .u8 (h12 / 256 / 256 / 256 / 256 % 256), .int .u8 (h12 / 256 / 256 / 256 % 256), .int .u8 (h12 / 256 / 256 % 256), .int .u8 (h12 / 256 % 256), .int .u8 (h12 % 256)] 5)).heap[wr22.heap.size]? = some (.cells #[.int .u8 (h12 / 256 / 256 / 256 / 256 / 256 / 256 / 256), .int .u8 (h12 / 256 / 256 / 256 / 256 / 256 / 256 % 256), .int .u8 (h12 / 256 / 256 / 256 / 256 / 256 % 256), .int .u8 (h12 / 256 / 256 / 256 / 256 % 256), .int .u8 (h12 / 256 / 256 / 256 % 256), .int .u8 (h12 / 256 / 256 % 256), .int .u8 (h12 / 256 % 256), .int .u8 (h12 % 256)] 5)) := hidI (by have := heap_alloc_new (wr22) (.cells #[.int .u8 (h12 / 256 / 256 / 256 / 256 / 256 / 256 / 256), .int .u8 (h12 / 256 / 256 / 256 / 256 / 256 / 256 % 256), .int .u8 (h12 / 256 / 256 / 256 / 256 / 256 % 256), .int .u8 (h12 / 256 / 256 / 256 / 256 % 256), .int .u8 (h12 / 256 / 256 / 256 % 256), .int .u8 (h12 / 256 / 256 % 256), .int .u8 (h12 / 256 % 256), .int .u8 (h12 % 256)] 5); exact this)
  go_wp2_with (at_builtin; refine wpList_append_lies _ rfl _ _ 40 rfl (w.heap.size + 1) 5 i0 _ 1 1 Tryz.underlying40 hi0 hz0 hz1 hz2 rfl (by decide) _ 40 _ rfl (hown22.alloc _) ⟨wr22.heap.size, 0, none⟩ 8 8 [.int .u8 (h12 / 256 / 256 / 256 / 256 / 256 / 256 / 256), .int .u8 (h12 / 256 / 256 / 256 / 256 / 256 / 256 % 256), .int .u8 (h12 / 256 / 256 / 256 / 256 / 256 % 256), .int .u8 (h12 / 256 / 256 / 256 / 256 % 256), .int .u8 (h12 / 256 / 256 / 256 % 256), .int .u8 (h12 / 256 / 256 % 256), .int .u8 (h12 / 256 % 256), .int .u8 (h12 % 256)] rfl rfl (World.news_of_block (cs := #[.int .u8 (h12 / 256 / 256 / 256 / 256 / 256 / 256 / 256), .int .u8 (h12 / 256 / 256 / 256 / 256 / 256 / 256 % 256), .int .u8 (h12 / 256 / 256 / 256 / 256 / 256 % 256), .int .u8 (h12 / 256 / 256 / 256 / 256 % 256), .int .u8 (h12 / 256 / 256 / 256 % 256), .int .u8 (h12 / 256 / 256 % 256), .int .u8 (h12 / 256 % 256), .int .u8 (h12 % 256)]) (t := 5) (fr := (0, 0)) hn23.out) (by simp [Value.oneCell']) (by decide) (by decide) (by decide) ?hbase23 _ rfl ?hrest23; (case hbase23 => (first | omega | (simp only [World.size_alloc]; omega) | (simp; done) | (simp; omega))); intro g23 cap23 wr23 hown23 hgr23 hat23 hlt23)
  obtain ⟨hB23, bg23, ng23, lT23, lw23, hk23⟩ := after_append (w := w) (T := wr12.heap.size) hgr23 hat23 rfl (by go_grown) (by omega) (by first | omega | (simp only [World.size_alloc]; omega) | (simp; done) | (simp; omega)) (by omega) (by first | omega | (simp only [World.size_alloc]; omega) | (simp; done) | (simp; omega))
  clear hgr23 hat23 hk23
  clear kT2_3
  rw [rounds_succ]
  go_wp2_with fail
  go_ret
  exact own_fresh hown23 rfl rfl hB23 (Nat.le_of_lt bg23)

end Go.Proofs.YtgifkanoghmijaaGreatDoor
