/- What Query makes of an answer's numbers. -/
import Derived.Test.YtgifkanoghmijaaGreatDoorAsked
import Derived.Test.YtgifkanoghmijaaGreatDoorLast
import Derived.Laws.CopyOwn
namespace Go.Proofs.YtgifkanoghmijaaGreatDoor
open Go.RowKit
attribute [local go_sem ↓] execOp_held

theorem build_answer (a b c e1 e2 e3 e4 e5 e6 e7 e8 e9 id p q r s : Int) (t : ByteArray) (u : Bool) (w : World) :
    (heldBuild 37 #[(0, .int .i64 a), (1, .int .i64 b), (2, .int .i64 c), (3, .int .i64 e1), (4, .int .i64 e2), (5, .int .i64 e3), (6, .int .i64 e4), (7, .int .i64 e5), (8, .int .i64 e6), (9, .int .i64 e7), (10, .int .i64 e8), (11, .int .i64 e9), (12, .int .u32 id), (13, .agg #[.int .i64 p, .int .i64 q]), (14, .agg #[.int .i64 r, .int .i64 s]), (15, .string t), (16, .bool u)]).run Tryz.prog w = .ok (.agg #[.int .i64 a, .int .i64 b, .int .i64 c, .int .i64 e1, .int .i64 e2, .int .i64 e3, .int .i64 e4, .int .i64 e5, .int .i64 e6, .int .i64 e7, .int .i64 e8, .int .i64 e9, .int .u32 id, .int .i64 p, .int .i64 q, .int .i64 r, .int .i64 s, .string t, .bool u]) w :=
  run_build w _ _ _ (by kernel_rfl)
attribute [local go_sem] build_answer
attribute [local go_sem ↓] execOp_stored

theorem store_answer (w : World) (b1 : Nat) (old : Array Value) (T : TypeId) (hg : w.heap[b1]? = some (.cells old T (0, 0))) (ho : old.size = 19) (a b c e1 e2 e3 e4 e5 e6 e7 e8 e9 id p q r s : Int) (t : ByteArray) (u : Bool) :
    (heldStore 37 (.pointer (some ⟨b1, 0, none⟩)) (.agg #[.int .i64 a, .int .i64 b, .int .i64 c, .int .i64 e1, .int .i64 e2, .int .i64 e3, .int .i64 e4, .int .i64 e5, .int .i64 e6, .int .i64 e7, .int .i64 e8, .int .i64 e9, .int .u32 id, .int .i64 p, .int .i64 q, .int .i64 r, .int .i64 s, .string t, .bool u])).run Tryz.prog w = .ok () (w.setRow b1 #[.int .i64 a, .int .i64 b, .int .i64 c, .int .i64 e1, .int .i64 e2, .int .i64 e3, .int .i64 e4, .int .i64 e5, .int .i64 e6, .int .i64 e7, .int .i64 e8, .int .i64 e9, .int .u32 id, .int .i64 p, .int .i64 q, .int .i64 r, .int .i64 s, .string t, .bool u]) :=
  run_storeVar_row w b1 T 37 old _ hg (by kernel_rfl) ho (by simp [Value.oneCell'])
theorem But_row {b1 : Nat} {w W : World} {_B : World → World → Prop} (h : ∀ b i, b < w.heap.size → b ≠ b1 → W.cell? ⟨b, i, none⟩ = w.cell? ⟨b, i, none⟩ ∧ W.frozen? ⟨b, i, none⟩ = w.frozen? ⟨b, i, none⟩) (cs : Array Value) :
    ∀ b i, b < w.heap.size → b ≠ b1 → (W.setRow b1 cs).cell? ⟨b, i, none⟩ = w.cell? ⟨b, i, none⟩ ∧ (W.setRow b1 cs).frozen? ⟨b, i, none⟩ = w.frozen? ⟨b, i, none⟩ := fun b i h1 h2 =>
  ⟨(World.cell?_of_block (w := W) (setRow_other W b1 b cs h2)).trans (h b i h1 h2).1, (World.frozen?_of_block (w := W) (setRow_other W b1 b cs h2)).trans (h b i h1 h2).2⟩
theorem same_row {R b1 : Nat} {w W : World} (hne : R ≠ b1) (cs : Array Value) (h : ∀ i, W.cell? ⟨R, i, none⟩ = w.cell? ⟨R, i, none⟩) : ∀ i, (W.setRow b1 cs).cell? ⟨R, i, none⟩ = w.cell? ⟨R, i, none⟩ := fun i =>
  (World.cell?_of_block (w := W) (setRow_other W b1 R cs hne)).trans (h i)
theorem cell_row {b0 b1 : Nat} {W : World} {v : Value} (hne : b0 ≠ b1) (cs : Array Value) (h : W.cell? ⟨b0, 0, none⟩ = some v) : (W.setRow b1 cs).cell? ⟨b0, 0, none⟩ = some v :=
  (World.cell?_of_block (w := W) (setRow_other W b1 b0 cs hne)).trans h
theorem size_row {b1 n : Nat} {W : World} (cs : Array Value) (h : n ≤ W.heap.size) : n ≤ (W.setRow b1 cs).heap.size := by
  simp only [World.setRow, Array.size_modify]; exact h

/-- What Query tells of an answer. -/
def AnsAt (n1 s1 n4 s4 x0 x1 x2 x3 x4 x5 x6 x7 _x8 x9 x10 : Int) (cs : Nat → Option Value) : Prop :=
  ∃ (n2 s2 n3 s3 n5 s5 d : Int) (t : ByteArray), (0 ≤ n2 ∧ n2 < 1000000000 ∧ s2 * 1000000000 + n2 = timeN x9) ∧ (0 ≤ n3 ∧ n3 < 1000000000 ∧ s3 * 1000000000 + n3 = timeN x10) ∧ (0 ≤ n5 ∧ n5 < 1000000000 ∧ s5 * 1000000000 + n5 = timeN x7) ∧
    cs 0 = some (.int .i64 (half (diff s2 s1 n2 n1 + diff s3 s4 n3 n4))) ∧ cs 1 = some (.int .i64 (mx0 (diff s4 s1 n4 n1 - diff s3 s2 n3 n2))) ∧ cs 2 = some (.int .i64 (minE (half (diff s2 s1 n2 n1 + diff s3 s4 n3 n4)) (mx0 (diff s4 s1 n4 n1 - diff s3 s2 n3 n2)))) ∧ cs 3 = some (.int .i64 (ivl x3)) ∧ cs 4 = some (.int .i64 (durS x4)) ∧ cs 5 = some (.int .i64 (durS x5)) ∧ cs 6 = some (.int .i64 d) ∧ cs 7 = some (.int .i64 (ivl x2)) ∧ cs 8 = some (.int .i64 (x0 / 8 % 8)) ∧ cs 9 = some (.int .i64 x1) ∧ cs 10 = some (.int .i64 (x0 / 64 % 4)) ∧ cs 11 = some (.int .i64 (eraN x10)) ∧ cs 12 = some (.int .u32 x6) ∧ cs 13 = some (.int .i64 (s5 - 62135596800)) ∧ cs 14 = some (.int .i64 n5) ∧ cs 15 = some (.int .i64 (s3 - 62135596800)) ∧ cs 16 = some (.int .i64 n3) ∧ cs 17 = some (.string t) ∧ cs 18 = some (.bool (decide (x0 / 8 % 8 < 5) && (x1 == 0)))

/-- All is as it was but the block b1. -/
def But (b1 : Nat) (w w' : World) : Prop := ∀ b i, b < w.heap.size → b ≠ b1 → w'.cell? ⟨b, i, none⟩ = w.cell? ⟨b, i, none⟩ ∧ w'.frozen? ⟨b, i, none⟩ = w.frozen? ⟨b, i, none⟩
theorem But.later {b1 : Nat} {w W w9 : World} (h : But b1 w W) (hs : w.heap.size ≤ W.heap.size) (hb : Below W.heap.size W w9) : But b1 w w9 := fun b i h1 h2 =>
  ⟨(hb.cell (p := ⟨b, i, none⟩) (Nat.lt_of_lt_of_le h1 hs)).trans (h b i h1 h2).1, (hb.frozen (p := ⟨b, i, none⟩) (Nat.lt_of_lt_of_le h1 hs)).trans (h b i h1 h2).2⟩
theorem But.set {b1 : Nat} {w W : World} (h : But b1 w W) (k : Nat) (v : Value) : But b1 w (W.setCell ⟨b1, k, none⟩ v) := fun b i h1 h2 => by
  have e : (⟨b1, k, none⟩ : Addr) ≠ ⟨b, i, none⟩ := by
    intro he
    injection he
    omega
  rw [World.cell?_setCell_other _ _ _ _ e, World.frozen?_setCell]
  exact h b i h1 h2
theorem same_later {R : Nat} {w W w9 : World} (lR : R < w.heap.size) (hs : w.heap.size ≤ W.heap.size) (hb : Below W.heap.size W w9) (h : ∀ i, W.cell? ⟨R, i, none⟩ = w.cell? ⟨R, i, none⟩) : ∀ i, w9.cell? ⟨R, i, none⟩ = w.cell? ⟨R, i, none⟩ := fun i =>
  (hb.cell (p := ⟨R, i, none⟩) (Nat.lt_of_lt_of_le lR hs)).trans (h i)
theorem same_set {R b1 k : Nat} {v : Value} {w W : World} (hne : R ≠ b1) (h : ∀ i, W.cell? ⟨R, i, none⟩ = w.cell? ⟨R, i, none⟩) : ∀ i, (W.setCell ⟨b1, k, none⟩ v).cell? ⟨R, i, none⟩ = w.cell? ⟨R, i, none⟩ := fun i => by
  have e : (⟨b1, k, none⟩ : Addr) ≠ ⟨R, i, none⟩ := by
    intro he
    injection he
    omega
  rw [World.cell?_setCell_other _ _ _ _ e]
  exact h i

theorem froz_both {W w : World} {b1 : Nat} (h : ∀ k, W.frozen? ⟨b1, k, none⟩ = false) (h' : ∀ k, w.frozen? ⟨b1, k, none⟩ = false) : ∀ k, W.frozen? ⟨b1, k, none⟩ = w.frozen? ⟨b1, k, none⟩ := fun k => (h k).trans (h' k).symm
theorem cell_set {W : World} {b0 b1 k : Nat} {u v : Value} (hne : b0 ≠ b1) (h : W.cell? ⟨b0, 0, none⟩ = some v) : (W.setCell ⟨b1, k, none⟩ u).cell? ⟨b0, 0, none⟩ = some v := by
  have e : (⟨b1, k, none⟩ : Addr) ≠ ⟨b0, 0, none⟩ := by
    intro he
    injection he
    omega
  rw [World.cell?_setCell_other _ _ _ _ e]
  exact h
theorem size_set {W : World} {n : Nat} {a : Addr} {u : Value} (h : n ≤ W.heap.size) : n ≤ (W.setCell a u).heap.size := by
  simp only [World.setCell, Array.size_modify]; exact h
theorem froz_set {W w : World} {b1 : Nat} {a : Addr} {u : Value} (h : ∀ k, W.frozen? ⟨b1, k, none⟩ = w.frozen? ⟨b1, k, none⟩) : ∀ k, (W.setCell a u).frozen? ⟨b1, k, none⟩ = w.frozen? ⟨b1, k, none⟩ := fun k => by
  rw [World.frozen?_setCell]; exact h k

theorem cset_off {w : World} {b k i : Nat} {v : Value} (h : k ≠ i) : (w.setCell ⟨b, k, none⟩ v).cell? ⟨b, i, none⟩ = w.cell? ⟨b, i, none⟩ := by
  apply World.cell?_setCell_other
  intro he
  injection he
  omega
theorem cset_same {w : World} {b k : Nat} {v : Value} (h : (w.cell? ⟨b, k, none⟩).isSome = true) : (w.setCell ⟨b, k, none⟩ v).cell? ⟨b, k, none⟩ = some v := by
  obtain ⟨u, hu⟩ := Option.isSome_iff_exists.1 h
  exact World.cell?_setCell_same _ _ _ hu

theorem But.row {b1 : Nat} {w W : World} (h : But b1 w W) (cs : Array Value) : But b1 w (W.setRow b1 cs) := But_row (_B := fun _ _ => True) h cs

/-- The closure has filled the answer. -/
def Filled (n1 s1 n4 s4 x0 x1 x2 x3 x4 x5 x6 x7 x8 x9 x10 : Int) (b1 : Nat) (w0 w w' : World) : Prop :=
  Below w0.heap.size w0 w' ∧ But b1 w w' ∧ AnsAt n1 s1 n4 s4 x0 x1 x2 x3 x4 x5 x6 x7 x8 x9 x10 (fun i => w'.cell? ⟨b1, i, none⟩) ∧ (∀ k, w'.frozen? ⟨b1, k, none⟩ = w.frozen? ⟨b1, k, none⟩)

/-- The closure has filled the answer (by the numbers themselves). -/
def FilledG (A0 A1 A2 A3 A4 A5 A6 A7 A8 st le er id p q r s : Int) (t : ByteArray) (T : TypeId) (b1 : Nat) (w0 w w' : World) : Prop :=
  Below w0.heap.size w0 w' ∧ But b1 w w' ∧ w'.heap[b1]? = some (.cells #[.int .i64 A0, .int .i64 A1, .int .i64 A2, .int .i64 A3, .int .i64 A4, .int .i64 A5, .int .i64 A6, .int .i64 A7, .int .i64 A8, .int .i64 st, .int .i64 le, .int .i64 er, .int .u32 id, .int .i64 p, .int .i64 q, .int .i64 r, .int .i64 s, .string t, .bool (decide (A8 < 5) && (st == 0))] T (0, 0))

set_option maxRecDepth 100000 in
set_option maxHeartbeats 40000000 in
theorem fill_gen (A0 A1 A2 A3 A4 A5 A6 A7 A8 st le er id n5 s5 n3 s3 : Int) (t : ByteArray) (R b0 b1 : Nat) (w0 w : World) (hB0 : Below w0.heap.size w0 w) (hb1 : w0.heap.size ≤ b1)
    (h01 : b0 ≠ b1) (hR1 : R ≠ b1) (k0 : w.cell? ⟨b0, 0, none⟩ = some (.pointer (some ⟨R, 0, none⟩)))
    (wst : IntKind.i64.wrap st = st) (wle : IntKind.i64.wrap le = le) (wer : IntKind.i64.wrap er = er) (p3 : 0 ≤ n3) (p3' : n3 < 1000000000) (p5 : 0 ≤ n5) (p5' : n5 < 1000000000) (r3 : 0 ≤ s3) (r3' : s3 ≤ 100000000000) (r5 : 0 ≤ s5) (r5' : s5 ≤ 100000000000)
    (kR0 : w.cell? ⟨R, 0, none⟩ = some (.int .i64 A0)) (kR1 : w.cell? ⟨R, 1, none⟩ = some (.int .i64 A1)) (kR14 : w.cell? ⟨R, 14, none⟩ = some (.int .i64 A3)) (kR15 : w.cell? ⟨R, 15, none⟩ = some (.int .i64 A8)) (kR16 : w.cell? ⟨R, 16, none⟩ = some (.int .u8 st)) (kR19 : w.cell? ⟨R, 19, none⟩ = some (.int .u8 er)) (kR20 : w.cell? ⟨R, 20, none⟩ = some (.int .u32 id)) (kR22 : w.cell? ⟨R, 22, none⟩ = some (.int .u64 n5)) (kR23 : w.cell? ⟨R, 23, none⟩ = some (.int .i64 s5)) (kR24 : w.cell? ⟨R, 24, none⟩ = some (.pointer none)) (kR32 : w.cell? ⟨R, 32, none⟩ = some (.int .i64 A4)) (kR33 : w.cell? ⟨R, 33, none⟩ = some (.int .i64 A5)) (kR34 : w.cell? ⟨R, 34, none⟩ = some (.int .i64 A6)) (kR35 : w.cell? ⟨R, 35, none⟩ = some (.int .u8 le)) (kR36 : w.cell? ⟨R, 36, none⟩ = some (.int .i64 A2)) (kR37 : w.cell? ⟨R, 37, none⟩ = some (.string t)) (kR38 : w.cell? ⟨R, 38, none⟩ = some (.int .i64 A7)) (kR41 : w.cell? ⟨R, 41, none⟩ = some (.int .u64 n3)) (kR42 : w.cell? ⟨R, 42, none⟩ = some (.int .i64 s3)) (kR43 : w.cell? ⟨R, 43, none⟩ = some (.pointer none))
    (old : Array Value) (T : TypeId) (hg : w.heap[b1]? = some (.cells old T (0, 0))) (ho : old.size = 19) :
    Calls Tryz.prog 28 #[.pointer (some ⟨b0, 0, none⟩), .pointer (some ⟨b1, 0, none⟩)] w (Tried (FilledG A0 A1 A2 A3 A4 A5 A6 A7 A8 st le er id (s5 - 62135596800) n5 (s3 - 62135596800) n3 t T b1 w0 w) (fun _ => False)) := by
  have lA : b1 < w.heap.size := (Array.getElem?_eq_some_iff.1 hg).1
  have KG := hidI hg
  have HO := hidI ho
  clear hg ho
  have lR := World.block_lt_of_cell? _ _ kR0
  have l0 := World.block_lt_of_cell? _ _ k0
  go_enter Tryz.func28, Tryz.ntmps28
  go_wp2_with fail
  have KG' : Hid (w.drew.heap[b1]? = some (.cells old T (0, 0))) := KG
  have lB : b1 < w.drew.heap.size := lA
  have i1 : Below w0.heap.size w0 w.drew := hB0.drew
  have i2 : ∀ i, w.drew.cell? ⟨R, i, none⟩ = w.cell? ⟨R, i, none⟩ := fun _ => rfl
  have i3 : w.drew.cell? ⟨b0, 0, none⟩ = some (.pointer (some ⟨R, 0, none⟩)) := k0
  have i4 : w.heap.size ≤ w.drew.heap.size := Nat.le_refl _
  have i5 : But b1 w w.drew := fun _ _ _ _ => ⟨rfl, rfl⟩
  go_region_held2? (fun w' => Below w0.heap.size w0 w' ∧ (∀ i, w'.cell? ⟨R, i, none⟩ = w.cell? ⟨R, i, none⟩) ∧ w'.cell? ⟨b0, 0, none⟩ = some (.pointer (some ⟨R, 0, none⟩)) ∧ w.heap.size ≤ w'.heap.size ∧ But b1 w w')
    (first | (with_reducible assumption) | (with_reducible exact ⟨i1, i2, i3, i4, i5⟩) | (go_split_ands; with_reducible exact ⟨keepBelow (by assumption) hb, same_later lR (by assumption) hb (by assumption), cell_later hb (by assumption), Nat.le_trans (by assumption) hb.size, But.later (by assumption) (by assumption) hb⟩) | (go_split_ands; exact ⟨below_setRow (by with_reducible assumption) hb1 _, same_row hR1 _ (by with_reducible assumption), cell_row h01 _ (by with_reducible assumption), size_row _ (by with_reducible assumption), But.row (by with_reducible assumption) _⟩))
    (first | (go_at_call 29; (first | (refine (plain_any n5 s5 p5 p5' r5 r5' _).mono ?_) | (refine (plain_any n3 s3 p3 p3' r3 r3' _).mono ?_)); rintro e w9 ⟨rfl, hb⟩; have KG' := hidI ((hb.block b1 lB).trans KG'.out); have lB := Nat.lt_of_lt_of_le lB hb.size) | (go_at_call 30; refine (kod_any R A8 st _ (by go_split_ands; exact (by simp only [*])) (by go_split_ands; exact (by simp only [*]))).mono ?_; rintro e w9' ⟨rfl, rfl⟩; have hst := store_answer w9 b1 old T KG'.out HO.out))
  go_split_ands
  clear hst
  go_wp2_with fail
  go_ret
  exact Or.inl ⟨rfl, by with_reducible assumption, by with_reducible assumption, setRow_heap w9 b1 _ _ T _ KG'.out⟩

end Go.Proofs.YtgifkanoghmijaaGreatDoor
