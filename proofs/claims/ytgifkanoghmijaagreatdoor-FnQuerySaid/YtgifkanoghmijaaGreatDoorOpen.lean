/- A header and a time by value: opened and shut. -/
import Derived.Test.YtgifkanoghmijaaGreatDoorRows
import Derived.Test.YtgifkanoghmijaaGreatDoorProg
import Derived.ChangeSame
import Derived.JoinedOf
import Derived.JoinedAt
import Derived.RowKit3
import Derived.Carry
import Derived.Lib.SmallJoins
namespace Go.Proofs.YtgifkanoghmijaaGreatDoor
open Go.ChangeShapes Go.WideShapes Go.ChangeAt Go.RowKit Go.Joins

theorem arr_time {cs : Array Value} (h : cs.size = 2) : ∃ c0 c1 : Value, cs = #[c0, c1] := by
  obtain ⟨l⟩ := cs
  match l, h with
  | [c0, c1], _ => exact ⟨_, _, rfl⟩
theorem lst_time {α : Type} {xs : List α} (h : xs.length = 2) : ∃ c0 c1 : α, xs = [c0, c1] := by
  match xs, h with
  | [c0, c1], _ => exact ⟨_, _, rfl⟩
set_option maxRecDepth 20000 in
set_option maxHeartbeats 1000000 in
theorem open_time {H : Type} {enc : TypeId × Value → H} {w : World} {base b0 : Nat} {spare : Nat → Bool} {held : Bool} {r : Reach} {v : Value} {d : DataW H} {p : List MemPlace}
    (hv : Value.okWide Tryz.prog w r b0 27 v) (h : DataW.Trod enc Tryz.prog w base spare held 27 v d p) :
    ∃ h0 h1 : Int, v = .agg #[.int .i64 h0, .int .i64 h1] ∧ d = .agg [.lit (.int .i64 h0), .lit (.int .i64 h1)] ∧ p = [] ∧ (Lit.int .i64 h0).wf = true ∧ (Lit.int .i64 h1).wf = true := by
  obtain ⟨cs, rfl, hsz⟩ := okWide_struct Tryz.underlying27 hv
  rw [show Tryz.prog.cellsOf 27 = 2 from by kernel_rfl] at hsz
  obtain ⟨c0, c1, rfl⟩ := arr_time hsz
  obtain ⟨fuel, hf⟩ := h
  obtain ⟨xs, n, -, hx, -, hl, hg⟩ := DataW.trod_struct Tryz.underlying27 hf
  obtain ⟨y0, y1, rfl⟩ := lst_time hl
  have qint : Tryz.prog.cellsOf 3 = 1 := by kernel_rfl
  have qint64 : Tryz.prog.cellsOf 2 = 1 := by kernel_rfl
  have g0 := hg 0 _ rfl
  obtain ⟨h0, e0, z0, w0⟩ := DataW.trod_int (k := .i64) Tryz.underlying2 (cs := [c0]) (x := y0) (by simpa [Value.cells, qint64] using g0)
  have g1 := hg 1 _ rfl
  obtain ⟨h1, e1, z1, w1⟩ := DataW.trod_int (k := .i64) Tryz.underlying3 (cs := [c1]) (x := y1) (by simpa [Value.cells, qint] using g1)
  clear hg g0 g1
  simp only [List.cons.injEq, and_true] at e0 e1
  subst e0 e1 z0 z1
  simp only [List.map_cons, List.map_nil, List.flatMap_cons, List.flatMap_nil, List.append_nil, Prod.mk.injEq] at hx
  exact ⟨h0, h1, rfl, hx.1, hx.2, w0, w1⟩

set_option maxRecDepth 20000 in
set_option maxHeartbeats 1000000 in
theorem shut_time {H : Type} (enc : TypeId × Value → H) (w : World) (base : Nat) (spare : Nat → Bool) (held : Bool) {h0 h1 : Int} (w0 : (Lit.int .i64 h0).wf = true) (w1 : (Lit.int .i64 h1).wf = true) :
    DataW.Trod enc Tryz.prog w base spare held 27 (.agg #[.int .i64 h0, .int .i64 h1]) (.agg [.lit (.int .i64 h0), .lit (.int .i64 h1)]) [] := by
  have qint : Tryz.prog.cellsOf 3 = 1 := by kernel_rfl
  have qint64 : Tryz.prog.cellsOf 2 = 1 := by kernel_rfl
  have h := trod_struct_mk (enc := enc) (P := Tryz.prog) (w := w) (base := base) (spare := spare) (held := held) (n := 1) (cs := [.int .i64 h0, .int .i64 h1]) (xs := [(.lit (.int .i64 h0), []), (.lit (.int .i64 h1), [])]) Tryz.underlying27 (by kernel_rfl) (by simp [DataW.trod, qint, qint64, Tryz.underlying3, Tryz.underlying2, w0, w1])
  exact ⟨2, by simpa [Value.cells] using h⟩

theorem arr_header {cs : Array Value} (h : cs.size = 13) : ∃ c0 c1 c2 c3 c4 c5 c6 c7 c8 c9 c10 c11 c12 : Value, cs = #[c0, c1, c2, c3, c4, c5, c6, c7, c8, c9, c10, c11, c12] := by
  obtain ⟨l⟩ := cs
  match l, h with
  | [c0, c1, c2, c3, c4, c5, c6, c7, c8, c9, c10, c11, c12], _ => exact ⟨_, _, _, _, _, _, _, _, _, _, _, _, _, rfl⟩
theorem lst_header {α : Type} {xs : List α} (h : xs.length = 13) : ∃ c0 c1 c2 c3 c4 c5 c6 c7 c8 c9 c10 c11 c12 : α, xs = [c0, c1, c2, c3, c4, c5, c6, c7, c8, c9, c10, c11, c12] := by
  match xs, h with
  | [c0, c1, c2, c3, c4, c5, c6, c7, c8, c9, c10, c11, c12], _ => exact ⟨_, _, _, _, _, _, _, _, _, _, _, _, _, rfl⟩
set_option maxRecDepth 20000 in
set_option maxHeartbeats 1000000 in
theorem open_header {H : Type} {enc : TypeId × Value → H} {w : World} {base b0 : Nat} {spare : Nat → Bool} {held : Bool} {r : Reach} {v : Value} {d : DataW H} {p : List MemPlace}
    (hv : Value.okWide Tryz.prog w r b0 25 v) (h : DataW.Trod enc Tryz.prog w base spare held 25 v d p) :
    ∃ h0 h1 h2 h3 h4 h5 h6 h7 h8 h9 h10 h11 h12 : Int, v = .agg #[.int .i64 h0, .int .i64 h1, .int .i64 h2, .int .i64 h3, .int .i64 h4, .int .i64 h5, .int .u32 h6, .int .u32 h7, .int .u32 h8, .int .u64 h9, .int .u64 h10, .int .u64 h11, .int .u64 h12] ∧ d = .agg [.lit (.int .i64 h0), .lit (.int .i64 h1), .lit (.int .i64 h2), .lit (.int .i64 h3), .lit (.int .i64 h4), .lit (.int .i64 h5), .lit (.int .u32 h6), .lit (.int .u32 h7), .lit (.int .u32 h8), .lit (.int .u64 h9), .lit (.int .u64 h10), .lit (.int .u64 h11), .lit (.int .u64 h12)] ∧ p = [] ∧ (Lit.int .i64 h0).wf = true ∧ (Lit.int .i64 h1).wf = true ∧ (Lit.int .i64 h2).wf = true ∧ (Lit.int .i64 h3).wf = true ∧ (Lit.int .i64 h4).wf = true ∧ (Lit.int .i64 h5).wf = true ∧ (Lit.int .u32 h6).wf = true ∧ (Lit.int .u32 h7).wf = true ∧ (Lit.int .u32 h8).wf = true ∧ (Lit.int .u64 h9).wf = true ∧ (Lit.int .u64 h10).wf = true ∧ (Lit.int .u64 h11).wf = true ∧ (Lit.int .u64 h12).wf = true := by
  obtain ⟨cs, rfl, hsz⟩ := okWide_struct Tryz.underlying25 hv
  rw [show Tryz.prog.cellsOf 25 = 13 from by kernel_rfl] at hsz
  obtain ⟨c0, c1, c2, c3, c4, c5, c6, c7, c8, c9, c10, c11, c12, rfl⟩ := arr_header hsz
  obtain ⟨fuel, hf⟩ := h
  obtain ⟨xs, n, -, hx, -, hl, hg⟩ := DataW.trod_struct Tryz.underlying25 hf
  obtain ⟨y0, y1, y2, y3, y4, y5, y6, y7, y8, y9, y10, y11, y12, rfl⟩ := lst_header hl
  have qint : Tryz.prog.cellsOf 3 = 1 := by kernel_rfl
  have quint32 : Tryz.prog.cellsOf 22 = 1 := by kernel_rfl
  have quint64 : Tryz.prog.cellsOf 23 = 1 := by kernel_rfl
  have g0 := hg 0 _ rfl
  obtain ⟨h0, e0, z0, w0⟩ := DataW.trod_int (k := .i64) Tryz.underlying3 (cs := [c0]) (x := y0) (by simpa [Value.cells, qint] using g0)
  have g1 := hg 1 _ rfl
  obtain ⟨h1, e1, z1, w1⟩ := DataW.trod_int (k := .i64) Tryz.underlying3 (cs := [c1]) (x := y1) (by simpa [Value.cells, qint] using g1)
  have g2 := hg 2 _ rfl
  obtain ⟨h2, e2, z2, w2⟩ := DataW.trod_int (k := .i64) Tryz.underlying3 (cs := [c2]) (x := y2) (by simpa [Value.cells, qint] using g2)
  have g3 := hg 3 _ rfl
  obtain ⟨h3, e3, z3, w3⟩ := DataW.trod_int (k := .i64) Tryz.underlying3 (cs := [c3]) (x := y3) (by simpa [Value.cells, qint] using g3)
  have g4 := hg 4 _ rfl
  obtain ⟨h4, e4, z4, w4⟩ := DataW.trod_int (k := .i64) Tryz.underlying3 (cs := [c4]) (x := y4) (by simpa [Value.cells, qint] using g4)
  have g5 := hg 5 _ rfl
  obtain ⟨h5, e5, z5, w5⟩ := DataW.trod_int (k := .i64) Tryz.underlying3 (cs := [c5]) (x := y5) (by simpa [Value.cells, qint] using g5)
  have g6 := hg 6 _ rfl
  obtain ⟨h6, e6, z6, w6⟩ := DataW.trod_int (k := .u32) Tryz.underlying22 (cs := [c6]) (x := y6) (by simpa [Value.cells, quint32] using g6)
  have g7 := hg 7 _ rfl
  obtain ⟨h7, e7, z7, w7⟩ := DataW.trod_int (k := .u32) Tryz.underlying22 (cs := [c7]) (x := y7) (by simpa [Value.cells, quint32] using g7)
  have g8 := hg 8 _ rfl
  obtain ⟨h8, e8, z8, w8⟩ := DataW.trod_int (k := .u32) Tryz.underlying22 (cs := [c8]) (x := y8) (by simpa [Value.cells, quint32] using g8)
  have g9 := hg 9 _ rfl
  obtain ⟨h9, e9, z9, w9⟩ := DataW.trod_int (k := .u64) Tryz.underlying23 (cs := [c9]) (x := y9) (by simpa [Value.cells, quint64] using g9)
  have g10 := hg 10 _ rfl
  obtain ⟨h10, e10, z10, w10⟩ := DataW.trod_int (k := .u64) Tryz.underlying23 (cs := [c10]) (x := y10) (by simpa [Value.cells, quint64] using g10)
  have g11 := hg 11 _ rfl
  obtain ⟨h11, e11, z11, w11⟩ := DataW.trod_int (k := .u64) Tryz.underlying23 (cs := [c11]) (x := y11) (by simpa [Value.cells, quint64] using g11)
  have g12 := hg 12 _ rfl
  obtain ⟨h12, e12, z12, w12⟩ := DataW.trod_int (k := .u64) Tryz.underlying23 (cs := [c12]) (x := y12) (by simpa [Value.cells, quint64] using g12)
  clear hg g0 g1 g2 g3 g4 g5 g6 g7 g8 g9 g10 g11 g12
  simp only [List.cons.injEq, and_true] at e0 e1 e2 e3 e4 e5 e6 e7 e8 e9 e10 e11 e12
  subst e0 e1 e2 e3 e4 e5 e6 e7 e8 e9 e10 e11 e12 z0 z1 z2 z3 z4 z5 z6 z7 z8 z9 z10 z11 z12
  simp only [List.map_cons, List.map_nil, List.flatMap_cons, List.flatMap_nil, List.append_nil, Prod.mk.injEq] at hx
  exact ⟨h0, h1, h2, h3, h4, h5, h6, h7, h8, h9, h10, h11, h12, rfl, hx.1, hx.2, w0, w1, w2, w3, w4, w5, w6, w7, w8, w9, w10, w11, w12⟩

set_option maxRecDepth 20000 in
set_option maxHeartbeats 1000000 in
theorem shut_header {H : Type} (enc : TypeId × Value → H) (w : World) (base : Nat) (spare : Nat → Bool) (held : Bool) {h0 h1 h2 h3 h4 h5 h6 h7 h8 h9 h10 h11 h12 : Int} (w0 : (Lit.int .i64 h0).wf = true) (w1 : (Lit.int .i64 h1).wf = true) (w2 : (Lit.int .i64 h2).wf = true) (w3 : (Lit.int .i64 h3).wf = true) (w4 : (Lit.int .i64 h4).wf = true) (w5 : (Lit.int .i64 h5).wf = true) (w6 : (Lit.int .u32 h6).wf = true) (w7 : (Lit.int .u32 h7).wf = true) (w8 : (Lit.int .u32 h8).wf = true) (w9 : (Lit.int .u64 h9).wf = true) (w10 : (Lit.int .u64 h10).wf = true) (w11 : (Lit.int .u64 h11).wf = true) (w12 : (Lit.int .u64 h12).wf = true) :
    DataW.Trod enc Tryz.prog w base spare held 25 (.agg #[.int .i64 h0, .int .i64 h1, .int .i64 h2, .int .i64 h3, .int .i64 h4, .int .i64 h5, .int .u32 h6, .int .u32 h7, .int .u32 h8, .int .u64 h9, .int .u64 h10, .int .u64 h11, .int .u64 h12]) (.agg [.lit (.int .i64 h0), .lit (.int .i64 h1), .lit (.int .i64 h2), .lit (.int .i64 h3), .lit (.int .i64 h4), .lit (.int .i64 h5), .lit (.int .u32 h6), .lit (.int .u32 h7), .lit (.int .u32 h8), .lit (.int .u64 h9), .lit (.int .u64 h10), .lit (.int .u64 h11), .lit (.int .u64 h12)]) [] := by
  have qint : Tryz.prog.cellsOf 3 = 1 := by kernel_rfl
  have quint32 : Tryz.prog.cellsOf 22 = 1 := by kernel_rfl
  have quint64 : Tryz.prog.cellsOf 23 = 1 := by kernel_rfl
  have h := trod_struct_mk (enc := enc) (P := Tryz.prog) (w := w) (base := base) (spare := spare) (held := held) (n := 1) (cs := [.int .i64 h0, .int .i64 h1, .int .i64 h2, .int .i64 h3, .int .i64 h4, .int .i64 h5, .int .u32 h6, .int .u32 h7, .int .u32 h8, .int .u64 h9, .int .u64 h10, .int .u64 h11, .int .u64 h12]) (xs := [(.lit (.int .i64 h0), []), (.lit (.int .i64 h1), []), (.lit (.int .i64 h2), []), (.lit (.int .i64 h3), []), (.lit (.int .i64 h4), []), (.lit (.int .i64 h5), []), (.lit (.int .u32 h6), []), (.lit (.int .u32 h7), []), (.lit (.int .u32 h8), []), (.lit (.int .u64 h9), []), (.lit (.int .u64 h10), []), (.lit (.int .u64 h11), []), (.lit (.int .u64 h12), [])]) Tryz.underlying25 (by kernel_rfl) (by simp [DataW.trod, qint, quint32, quint64, Tryz.underlying3, Tryz.underlying22, Tryz.underlying23, w0, w1, w2, w3, w4, w5, w6, w7, w8, w9, w10, w11, w12])
  exact ⟨2, by simpa [Value.cells] using h⟩

end Go.Proofs.YtgifkanoghmijaaGreatDoor
