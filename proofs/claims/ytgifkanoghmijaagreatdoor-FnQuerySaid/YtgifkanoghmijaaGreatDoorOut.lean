/- What a query of a header's bytes makes: its answer's numbers lie near the reference's, or there is none. -/
import Derived.Test.YtgifkanoghmijaaGreatDoorPl
import Derived.Test.YtgifkanoghmijaaGreatDoorOtherB
import Derived.Test.YtgifkanoghmijaaGreatDoorRow
namespace Go.Proofs.YtgifkanoghmijaaGreatDoor
open Go.RowKit

/-- The answer's numbers, each near what the reference reckons. -/
def AnsH (h0 h1 h3 h4 h5 h6 h7 h8 h11 h12 s1 n1 s4 n4 : Int) (cs : Array Value) : Prop :=
  ∃ (o r me rd rp tS tN : Int) (v6 v11 v13 v14 v17 : Value), cs = #[.int .i64 o, .int .i64 r, .int .i64 me, .int .i64 (ivl h5), .int .i64 rd, .int .i64 rp, v6, .int .i64 (ivl h4), .int .i64 h1, .int .i64 h3, .int .i64 h0, v11, .int .u32 h8, v13, v14, .int .i64 tS, .int .i64 tN, v17, .bool (h3 == 0)] ∧
    Hid ((-4 ≤ o - half (diff (sB h11) s1 (nB h11) n1 + diff (sB h12) s4 (nB h12) n4) ∧ o - half (diff (sB h11) s1 (nB h11) n1 + diff (sB h12) s4 (nB h12) n4) ≤ 4) ∧
    (-4 ≤ r - mx0 (diff s4 s1 n4 n1 - diff (sB h12) (sB h11) (nB h12) (nB h11)) ∧ r - mx0 (diff s4 s1 n4 n1 - diff (sB h12) (sB h11) (nB h12) (nB h11)) ≤ 4) ∧
    (0 ≤ me ∧ me ≤ 4500000000000000000 ∧ (mx0 (me - 4) ≤ diff s1 (sB h11) n1 (nB h11) ∨ mx0 (me - 4) ≤ diff (sB h12) s4 (nB h12) n4 ∨ mx0 (me - 4) ≤ 0)) ∧
    (0 ≤ rd - shortN h6 ∧ rd - shortN h6 ≤ 1) ∧ (0 ≤ rp - shortN h7 ∧ rp - shortN h7 ≤ 1) ∧
    (-4 ≤ diff tS (sB h12) tN (nB h12) - 0 ∧ diff tS (sB h12) tN (nB h12) - 0 ≤ 4) ∧ (0 ≤ tN ∧ tN < 1000000000 ∧ 600000000 ≤ tS ∧ tS ≤ 1900000000))

/-- What comes of a query: an answer if its origin is what was sent; else an error's number. -/
def Outcome (h0 h1 h3 h4 h5 h6 h7 h8 h10 h11 h12 s1 n1 s4 n4 T : Int) (cs : Array Value) (m : Int) : Prop :=
  (h10 = T ∧ m = 0 ∧ AnsH h0 h1 h3 h4 h5 h6 h7 h8 h11 h12 s1 n1 s4 n4 cs) ∨ (h10 ≠ T ∧ m ≠ 0)

theorem minE_bd (o r : Int) (h0 : -4500000000000000000 ≤ o) (h1 : o ≤ 4500000000000000000) (r0 : 0 ≤ r) : 0 ≤ minE o r ∧ minE o r ≤ 4500000000000000000 := by
  unfold minE; repeat' split
  all_goals omega

theorem bool_dead (h1 h3 : Int) (v : h1 = 3 ∨ h1 = 4) : (decide (h1 < 5) && (h3 == 0)) = (h3 == 0) := by
  rw [decide_eq_true (by omega)]; rfl

theorem ans_of {h0 h1 h2 h3 h4 h5 h6 h7 h8 h9 h10 h11 h12 s1 n1 s4 n4 : Int} {cs : Array Value} (p : ProperP h0 h1 h2 h3 h4 h5) (c11 : CurrentP h11) (c12 : CurrentP h12) (r1 : RecentP s1 n1) (r4 : RecentP s4 n4)
    (h : AnsV n1 (s1 + 62135596800) n4 (s4 + 62135596800) (h0 * 64 + h1 * 8 + h2) h3 h4 h5 h6 h7 h8 h9 h10 h11 h12 (.agg cs)) : AnsH h0 h1 h3 h4 h5 h6 h7 h8 h11 h12 s1 n1 s4 n4 cs := by
  obtain ⟨n2, s2, n3, s3, n5, s5, d, t, ⟨p2, p2', e2⟩, ⟨p3, p3', e3⟩, -, e⟩ := h
  injection e with e
  obtain ⟨p0, p0', pv, p1, p1', -⟩ := p
  have w0 : (h0 * 64 + h1 * 8 + h2) / 8 % 8 = h1 := by omega
  have w1 : (h0 * 64 + h1 * 8 + h2) / 64 % 4 = h0 := by omega
  rw [w0, w1, bool_dead h1 h3 pv] at e
  have L := plain_law h11 h12 s1 n1 s4 n4 n2 s2 n3 s3 c11 c12 e2 e3
  have t2 := near_b h11 n2 s2 c11 e2
  have t3 := near_b h12 n3 s3 c12 e3
  have b11 := sB_bd h11 c11
  have b12 := sB_bd h12 c12
  have m11 := nB_bd h11
  have m12 := nB_bd h12
  obtain ⟨q1, q2, q3, q4⟩ := r1
  obtain ⟨u1, u2, u3, u4⟩ := r4
  have hb := half_bd (diff s2 (s1 + 62135596800) n2 n1 + diff s3 (s4 + 62135596800) n3 n4) (by unfold diff; omega) (by unfold diff; omega)
  have hm := mx_bd (diff (s4 + 62135596800) (s1 + 62135596800) n4 n1 - diff s3 s2 n3 n2) (by unfold diff; omega)
  have mb := minE_bd _ (mx0 (diff (s4 + 62135596800) (s1 + 62135596800) n4 n1 - diff s3 s2 n3 n2)) hb.1 hb.2 hm.1
  exact ⟨_, _, _, _, _, _, _, _, _, _, _, _, e, hidI ⟨L.1, L.2.1, ⟨mb.1, mb.2, L.2.2.1⟩, durS_near h6, durS_near h7, L.2.2.2, p3, p3', by omega, by omega⟩⟩

/-- impl.Query of a header's bytes. -/
def QueryH (h0 h1 h3 h4 h5 h6 h7 h8 h10 h11 h12 s1 n1 s4 n4 T : Int) (w : World) (e : Ending) (w' : World) : Prop :=
  ∃ (cs : Array Value) (m : Int), e = .returned (.tuple #[.agg cs, .int .i64 m]) ∧ Hid (cs.size = 19 ∧ cs.all (·.oneCell') = true) ∧ Hid (Outcome h0 h1 h3 h4 h5 h6 h7 h8 h10 h11 h12 s1 n1 s4 n4 T cs m) ∧ Below w.heap.size w w'

theorem query_both (h0 h1 h2 h3 h4 h5 h6 h7 h8 h9 h10 h11 h12 s1 n1 s4 n4 T v : Int) (a : AnswerP h0 h1 h2 h3 h4 h5 h11 h12) (c11 : CurrentP h11) (c12 : CurrentP h12) (r1 : RecentP s1 n1) (r4 : RecentP s4 n4) (g4 : -20 ≤ h4 ∧ h4 ≤ 20) (g5 : -20 ≤ h5 ∧ h5 ≤ 20)
    (q6 : 0 ≤ h6 ∧ h6 < 4294967296) (q7 : 0 ≤ h7 ∧ h7 < 4294967296) (q8 : 0 ≤ h8 ∧ h8 < 4294967296) (q9 : 0 ≤ h9 ∧ h9 < 18446744073709551616) (q10 : 0 ≤ h10 ∧ h10 < 18446744073709551616) (q11 : 0 ≤ h11 ∧ h11 < 18446744073709551616) (q12 : 0 ≤ h12 ∧ h12 < 18446744073709551616) (g cap : Nat) (w : World)
    (hb : ∀ i, i < 48 → w.cell? ⟨g, i, none⟩ = some (.int .u8 (hf h0 h1 h2 h3 h4 h5 h6 h7 h8 h9 h10 h11 h12 i))) :
    Calls Tryz.prog 11 #[.slice (some ⟨g, 0, none⟩) 48 cap, .int .u64 T, .agg #[.int .i64 s1, .int .i64 n1], .agg #[.int .i64 s4, .int .i64 n4], .int .i64 v] w (QueryH h0 h1 h3 h4 h5 h6 h7 h8 h10 h11 h12 s1 n1 s4 n4 T w) := by
  have K := hidI (ok_hdr h0 h1 h2 h3 h4 h5 h6 h7 h8 h9 h10 h11 h12 a c11 c12 s1 n1 s4 n4 r1 r4 q6 q7 q8 q9 q10 q11 q12)
  obtain ⟨u1, u2, u3, u4⟩ := r1
  obtain ⟨v1, v2, v3, v4⟩ := r4
  by_cases hT : h10 = T
  · subst hT
    refine (implQuery_any _ n1 s1 n4 s4 v _ h3 h4 h5 h6 h7 h8 h9 h10 h11 h12 K g cap w u3 u4 v3 v4 (by omega) (by omega) (by omega) (by omega) hb).mono ?_
    rintro e w' ⟨x, m, rfl, hB, ⟨rfl, -, -, hA⟩ | ⟨rfl, hA, hx⟩⟩
    · obtain ⟨cs, rfl, hcs⟩ := ans_row hA
      exact ⟨cs, 0, rfl, hcs, hidI (Or.inl ⟨rfl, rfl, ans_of a.1 c11 c12 ⟨u1, u2, u3, u4⟩ ⟨v1, v2, v3, v4⟩ hA⟩), hB⟩
    · omega
  · refine (implQuery_other _ n1 s1 n4 s4 v _ h3 h4 h5 h6 h7 h8 h9 h10 h11 h12 T K g cap w (hidI hT) u3 u4 v3 v4 (by omega) (by omega) (by omega) (by omega) hb).mono ?_
    rintro e w' ⟨cs, m, rfl, h19, h1c, hm, hB⟩
    exact ⟨cs, m, rfl, hidI ⟨h19, h1c⟩, hidI (Or.inr ⟨hT, hm⟩), hB⟩

end Go.Proofs.YtgifkanoghmijaaGreatDoor
