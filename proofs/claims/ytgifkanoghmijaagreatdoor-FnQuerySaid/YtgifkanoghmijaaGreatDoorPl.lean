/- The plain law of FnQuery: what is reckoned of an answer lies near what the reference reckons. -/
import Derived.Test.YtgifkanoghmijaaGreatDoorPow
import Derived.Test.YtgifkanoghmijaaGreatDoorQry
import Derived.Test.YtgifkanoghmijaaGreatDoorHdr
namespace Go.Proofs.YtgifkanoghmijaaGreatDoor
open Go.RowKit

/-- The seconds since 1970, and the nanoseconds, of a number of 64 bits, rounded down. -/
def sB (h : Int) : Int := h / 4294967296 - 2208988800
def nB (h : Int) : Int := fracN (h % 4294967296)

theorem nB_bd (h : Int) : 0 ≤ nB h ∧ nB h < 1000000000 := by
  unfold nB fracN; omega
theorem sB_bd (h : Int) (c : CurrentP h) : 631152000 < sB h ∧ sB h < 1893513600 := by
  unfold CurrentP at c; unfold sB; omega
theorem near_b (h n s : Int) (c : CurrentP h) (e : s * 1000000000 + n = timeN h) :
    0 ≤ s * 1000000000 + n - 62135596800000000000 - (sB h * 1000000000 + nB h) ∧ s * 1000000000 + n - 62135596800000000000 - (sB h * 1000000000 + nB h) ≤ 1 := by
  unfold CurrentP at c
  have he : eraN h = 0 := by unfold eraN; rw [if_neg (by omega)]
  rw [e]
  unfold timeN durN sB nB fracN
  rw [he]
  omega

theorem half_near (x y : Int) (h0 : 0 ≤ x - y) (h1 : x - y ≤ 2) : -1 ≤ half x - half y ∧ half x - half y ≤ 1 := by
  by_cases a : 0 ≤ x <;> by_cases b : 0 ≤ y
  · have := half_pos x a; have := half_pos y b; omega
  · have := half_pos x a; have := half_neg y (by omega); omega
  · have := half_neg x (by omega); have := half_pos y b; omega
  · have := half_neg x (by omega); have := half_neg y (by omega); omega
theorem mx_near (x y : Int) (h0 : -1 ≤ x - y) (h1 : x - y ≤ 1) : -1 ≤ mx0 x - mx0 y ∧ mx0 x - mx0 y ≤ 1 := by
  unfold mx0; split <;> split <;> omega

theorem durS_near (n : Int) : 0 ≤ durS n - shortN n ∧ durS n - shortN n ≤ 1 := by
  unfold durS shortN fracN; omega

/-- The least error of x and y lies below the greater of -x and y, but for one. -/
theorem minE_le (x y : Int) : minE (half (x + y)) (mx0 (x - y)) ≤ -x + 2 ∨ minE (half (x + y)) (mx0 (x - y)) ≤ y + 2 ∨ minE (half (x + y)) (mx0 (x - y)) ≤ 0 := by
  have hh : (2 * half (x + y) ≤ x + y ∧ x + y ≤ 2 * half (x + y) + 1 ∧ 0 ≤ x + y) ∨ (x + y ≤ 2 * half (x + y) ∧ 2 * half (x + y) ≤ x + y + 1 ∧ x + y < 0) := by
    by_cases h : 0 ≤ x + y
    · have := half_pos (x + y) h; omega
    · have := half_neg (x + y) (by omega); omega
  generalize half (x + y) = o at *
  unfold minE mx0
  repeat' split
  all_goals omega

theorem mx4_of (m a b : Int) (h : m ≤ a + 4 ∨ m ≤ b + 4 ∨ m ≤ 0) : mx0 (m - 4) ≤ a ∨ mx0 (m - 4) ≤ b ∨ mx0 (m - 4) ≤ 0 := by
  unfold mx0; split <;> omega

/-- All that the law holds of the answer's numbers. -/
theorem plain_law (h11 h12 s1 n1 s4 n4 n2 s2 n3 s3 : Int) (c11 : CurrentP h11) (c12 : CurrentP h12) (e2 : s2 * 1000000000 + n2 = timeN h11) (e3 : s3 * 1000000000 + n3 = timeN h12) :
    (-4 ≤ half (diff s2 (s1 + 62135596800) n2 n1 + diff s3 (s4 + 62135596800) n3 n4) - half (diff (sB h11) s1 (nB h11) n1 + diff (sB h12) s4 (nB h12) n4) ∧ half (diff s2 (s1 + 62135596800) n2 n1 + diff s3 (s4 + 62135596800) n3 n4) - half (diff (sB h11) s1 (nB h11) n1 + diff (sB h12) s4 (nB h12) n4) ≤ 4) ∧
    (-4 ≤ mx0 (diff (s4 + 62135596800) (s1 + 62135596800) n4 n1 - diff s3 s2 n3 n2) - mx0 (diff s4 s1 n4 n1 - diff (sB h12) (sB h11) (nB h12) (nB h11)) ∧ mx0 (diff (s4 + 62135596800) (s1 + 62135596800) n4 n1 - diff s3 s2 n3 n2) - mx0 (diff s4 s1 n4 n1 - diff (sB h12) (sB h11) (nB h12) (nB h11)) ≤ 4) ∧
    (mx0 (minE (half (diff s2 (s1 + 62135596800) n2 n1 + diff s3 (s4 + 62135596800) n3 n4)) (mx0 (diff (s4 + 62135596800) (s1 + 62135596800) n4 n1 - diff s3 s2 n3 n2)) - 4) ≤ diff s1 (sB h11) n1 (nB h11) ∨ mx0 (minE (half (diff s2 (s1 + 62135596800) n2 n1 + diff s3 (s4 + 62135596800) n3 n4)) (mx0 (diff (s4 + 62135596800) (s1 + 62135596800) n4 n1 - diff s3 s2 n3 n2)) - 4) ≤ diff (sB h12) s4 (nB h12) n4 ∨ mx0 (minE (half (diff s2 (s1 + 62135596800) n2 n1 + diff s3 (s4 + 62135596800) n3 n4)) (mx0 (diff (s4 + 62135596800) (s1 + 62135596800) n4 n1 - diff s3 s2 n3 n2)) - 4) ≤ 0) ∧
    (-4 ≤ diff (s3 - 62135596800) (sB h12) n3 (nB h12) - 0 ∧ diff (s3 - 62135596800) (sB h12) n3 (nB h12) - 0 ≤ 4) := by
  obtain ⟨u, u'⟩ := near_b h11 n2 s2 c11 e2
  obtain ⟨v, v'⟩ := near_b h12 n3 s3 c12 e3
  clear e2 e3 c11 c12
  generalize sB h11 = sb at *
  generalize sB h12 = sc at *
  generalize nB h11 = nb at *
  generalize nB h12 = nc at *
  have p := half_near (diff s2 (s1 + 62135596800) n2 n1 + diff s3 (s4 + 62135596800) n3 n4) (diff sb s1 nb n1 + diff sc s4 nc n4) (by unfold diff; omega) (by unfold diff; omega)
  have q := mx_near (diff (s4 + 62135596800) (s1 + 62135596800) n4 n1 - diff s3 s2 n3 n2) (diff s4 s1 n4 n1 - diff sc sb nc nb) (by unfold diff; omega) (by unfold diff; omega)
  have r := minE_le (diff s2 (s1 + 62135596800) n2 n1) (diff s3 (s4 + 62135596800) n3 n4)
  have e : diff s2 (s1 + 62135596800) n2 n1 - diff s3 (s4 + 62135596800) n3 n4 = diff (s4 + 62135596800) (s1 + 62135596800) n4 n1 - diff s3 s2 n3 n2 := by unfold diff; omega
  rw [e] at r
  refine ⟨by omega, by omega, mx4_of _ _ _ ?_, by unfold diff; omega⟩
  rcases r with r | r | r
  · left; unfold diff at r ⊢; omega
  · right; left; unfold diff at r ⊢; omega
  · right; right; exact r

end Go.Proofs.YtgifkanoghmijaaGreatDoor
