/- The header's bytes are read back as the header's numbers. -/
import Derived.Test.YtgifkanoghmijaaGreatDoorBytes
import Derived.Test.YtgifkanoghmijaaGreatDoorZz
import Derived.Test.YtgifkanoghmijaaGreatDoorSpec
namespace Go.Proofs.YtgifkanoghmijaaGreatDoor
open Go.RowKit

def hf (h0 h1 h2 h3 h4 h5 h6 h7 h8 h9 h10 h11 h12 : Int) (i : Nat) : Int := (hdr h0 h1 h2 h3 h4 h5 h6 h7 h8 h9 h10 h11 h12).getD i 0

theorem cur_time (x : Int) (h : 2840140800 < x / 4294967296 ∧ x / 4294967296 < 4102444800) : 62000000000000000000 ≤ timeN x ∧ timeN x ≤ 65000000000000000000 := by
  have e : eraN x = 0 := by unfold eraN; rw [if_neg (by omega)]
  unfold timeN
  rw [e]
  unfold durN
  omega

section
variable (h0 h1 h2 h3 h4 h5 h6 h7 h8 h9 h10 h11 h12 : Int)
theorem hdr0 : be (hf h0 h1 h2 h3 h4 h5 h6 h7 h8 h9 h10 h11 h12) 0 1 = h0 * 64 + h1 * 8 + h2 := by
  simp [be, hf, hdr]
theorem hdr1 : be (hf h0 h1 h2 h3 h4 h5 h6 h7 h8 h9 h10 h11 h12) 1 1 = h3 := by
  simp [be, hf, hdr]
theorem hdr2 (q0 : -128 ≤ h4) (q1 : h4 ≤ 127) : IntKind.i8.wrap (be (hf h0 h1 h2 h3 h4 h5 h6 h7 h8 h9 h10 h11 h12) 2 1) = h4 := by
  simp [be, hf, hdr, IntKind.wrap, IntKind.bits, IntKind.signed]; omega
theorem hdr3 (q0 : -128 ≤ h5) (q1 : h5 ≤ 127) : IntKind.i8.wrap (be (hf h0 h1 h2 h3 h4 h5 h6 h7 h8 h9 h10 h11 h12) 3 1) = h5 := by
  simp [be, hf, hdr, IntKind.wrap, IntKind.bits, IntKind.signed]; omega
theorem hdr4 (q0 : 0 ≤ h6) (q1 : h6 < 4294967296) : be (hf h0 h1 h2 h3 h4 h5 h6 h7 h8 h9 h10 h11 h12) 4 4 = h6 := by
  simp [be, hf, hdr]; omega
theorem hdr10 (_q0 : 0 ≤ h12) (_q1 : h12 < 18446744073709551616) : be (hf h0 h1 h2 h3 h4 h5 h6 h7 h8 h9 h10 h11 h12) 40 8 = h12 := by
  simp [be, hf, hdr]; omega
theorem hdr5 (q0 : 0 ≤ h7) (q1 : h7 < 4294967296) : be (hf h0 h1 h2 h3 h4 h5 h6 h7 h8 h9 h10 h11 h12) 8 4 = h7 := by
  simp [be, hf, hdr]; omega
theorem hdr6 (q0 : 0 ≤ h8) (q1 : h8 < 4294967296) : be (hf h0 h1 h2 h3 h4 h5 h6 h7 h8 h9 h10 h11 h12) 12 4 = h8 := by
  simp [be, hf, hdr]; omega
theorem hdr7 (_q0 : 0 ≤ h9) (_q1 : h9 < 18446744073709551616) : be (hf h0 h1 h2 h3 h4 h5 h6 h7 h8 h9 h10 h11 h12) 16 8 = h9 := by
  simp [be, hf, hdr]; omega
theorem hdr8 (_q0 : 0 ≤ h10) (_q1 : h10 < 18446744073709551616) : be (hf h0 h1 h2 h3 h4 h5 h6 h7 h8 h9 h10 h11 h12) 24 8 = h10 := by
  simp [be, hf, hdr]; omega
theorem hdr9 (_q0 : 0 ≤ h11) (_q1 : h11 < 18446744073709551616) : be (hf h0 h1 h2 h3 h4 h5 h6 h7 h8 h9 h10 h11 h12) 32 8 = h11 := by
  simp [be, hf, hdr]; omega
theorem hf_bd (p : ProperP h0 h1 h2 h3 h4 h5) (_q6 : 0 ≤ h6 ∧ h6 < 4294967296) (_q7 : 0 ≤ h7 ∧ h7 < 4294967296) (_q8 : 0 ≤ h8 ∧ h8 < 4294967296) (q9 : 0 ≤ h9 ∧ h9 < 18446744073709551616) (q10 : 0 ≤ h10 ∧ h10 < 18446744073709551616) (q11 : 0 ≤ h11 ∧ h11 < 18446744073709551616) (q12 : 0 ≤ h12 ∧ h12 < 18446744073709551616) :
    ∀ i, i < 48 → 0 ≤ hf h0 h1 h2 h3 h4 h5 h6 h7 h8 h9 h10 h11 h12 i ∧ hf h0 h1 h2 h3 h4 h5 h6 h7 h8 h9 h10 h11 h12 i < 256 := by
  unfold ProperP at p
  intro i hi
  match i, hi with
  | 0, _ => simp [hf, hdr]; omega
  | 1, _ => simp [hf, hdr]; omega
  | 2, _ => simp [hf, hdr]; omega
  | 3, _ => simp [hf, hdr]; omega
  | 4, _ => simp [hf, hdr]; omega
  | 5, _ => simp [hf, hdr]; omega
  | 6, _ => simp [hf, hdr]; omega
  | 7, _ => simp [hf, hdr]; omega
  | 8, _ => simp [hf, hdr]; omega
  | 9, _ => simp [hf, hdr]; omega
  | 10, _ => simp [hf, hdr]; omega
  | 11, _ => simp [hf, hdr]; omega
  | 12, _ => simp [hf, hdr]; omega
  | 13, _ => simp [hf, hdr]; omega
  | 14, _ => simp [hf, hdr]; omega
  | 15, _ => simp [hf, hdr]; omega
  | 16, _ => simp [hf, hdr]; omega
  | 17, _ => simp [hf, hdr]; omega
  | 18, _ => simp [hf, hdr]; omega
  | 19, _ => simp [hf, hdr]; omega
  | 20, _ => simp [hf, hdr]; omega
  | 21, _ => simp [hf, hdr]; omega
  | 22, _ => simp [hf, hdr]; omega
  | 23, _ => simp [hf, hdr]; omega
  | 24, _ => simp [hf, hdr]; omega
  | 25, _ => simp [hf, hdr]; omega
  | 26, _ => simp [hf, hdr]; omega
  | 27, _ => simp [hf, hdr]; omega
  | 28, _ => simp [hf, hdr]; omega
  | 29, _ => simp [hf, hdr]; omega
  | 30, _ => simp [hf, hdr]; omega
  | 31, _ => simp [hf, hdr]; omega
  | 32, _ => simp [hf, hdr]; omega
  | 33, _ => simp [hf, hdr]; omega
  | 34, _ => simp [hf, hdr]; omega
  | 35, _ => simp [hf, hdr]; omega
  | 36, _ => simp [hf, hdr]; omega
  | 37, _ => simp [hf, hdr]; omega
  | 38, _ => simp [hf, hdr]; omega
  | 39, _ => simp [hf, hdr]; omega
  | 40, _ => simp [hf, hdr]; omega
  | 41, _ => simp [hf, hdr]; omega
  | 42, _ => simp [hf, hdr]; omega
  | 43, _ => simp [hf, hdr]; omega
  | 44, _ => simp [hf, hdr]; omega
  | 45, _ => simp [hf, hdr]; omega
  | 46, _ => simp [hf, hdr]; omega
  | 47, _ => simp [hf, hdr]; omega
  | n + 48, h => omega

theorem ok_hdr (a : AnswerP h0 h1 h2 h3 h4 h5 h11 h12) (c11 : CurrentP h11) (c12 : CurrentP h12) (s1 n1 s4 n4 : Int) (r1 : RecentP s1 n1) (r4 : RecentP s4 n4)
    (q6 : 0 ≤ h6 ∧ h6 < 4294967296) (q7 : 0 ≤ h7 ∧ h7 < 4294967296) (q8 : 0 ≤ h8 ∧ h8 < 4294967296) (q9 : 0 ≤ h9 ∧ h9 < 18446744073709551616) (q10 : 0 ≤ h10 ∧ h10 < 18446744073709551616) (q11 : 0 ≤ h11 ∧ h11 < 18446744073709551616) (q12 : 0 ≤ h12 ∧ h12 < 18446744073709551616) :
    Ok (hf h0 h1 h2 h3 h4 h5 h6 h7 h8 h9 h10 h11 h12) n1 (s1 + 62135596800) n4 (s4 + 62135596800) (h0 * 64 + h1 * 8 + h2) h3 h4 h5 h6 h7 h8 h9 h10 h11 h12 := by
  obtain ⟨p, a2, a12, a11⟩ := a
  have hb := hf_bd h0 h1 h2 h3 h4 h5 h6 h7 h8 h9 h10 h11 h12 p q6 q7 q8 q9 q10 q11 q12
  unfold ProperP at p
  unfold CurrentP at c11 c12
  unfold RecentP at r1 r4
  have t11 : 62000000000000000000 ≤ timeN h11 ∧ timeN h11 ≤ 65000000000000000000 := cur_time h11 c11
  have t12 : 62000000000000000000 ≤ timeN h12 ∧ timeN h12 ≤ 65000000000000000000 := cur_time h12 c12
  refine ⟨hdr0 .., hdr1 .., hdr2 (q0 := by omega) (q1 := by omega) .., hdr3 (q0 := by omega) (q1 := by omega) .., hdr4 (q0 := q6.1) (q1 := q6.2) .., hdr5 (q0 := q7.1) (q1 := q7.2) .., hdr6 (q0 := q8.1) (q1 := q8.2) .., hdr7 (_q0 := q9.1) (_q1 := q9.2) .., hdr8 (_q0 := q10.1) (_q1 := q10.2) .., hdr9 (_q0 := q11.1) (_q1 := q11.2) .., hdr10 (_q0 := q12.1) (_q1 := q12.2) .., hb, ?_, ?_, ?_, ?_, ?_, ?_, ?_, ?_, ?_, ?_, ?_, ?_, ?_, ?_, ?_, ?_, ?_, ?_, ?_, ?_, ?_, ?_, ?_, ?_, ?_, ?_, ?_, ?_, ?_, ?_, ?_, ?_, ?_, ?_, ?_⟩ <;> omega
end

end Go.Proofs.YtgifkanoghmijaaGreatDoor
