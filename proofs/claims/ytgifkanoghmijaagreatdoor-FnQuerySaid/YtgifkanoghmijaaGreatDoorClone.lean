/- slices.Clone of forty-eight bytes. -/
import Derived.Test.YtgifkanoghmijaaGreatDoorBytes
namespace Go.Proofs.YtgifkanoghmijaaGreatDoor
open Go.RowKit

set_option maxRecDepth 100000 in
set_option maxHeartbeats 1000000 in
theorem clone_any (g cap : Nat) (l : List Int) (hl : l.length = 48) (w : World) (hc : ∀ i, i < l.length → w.cell? ⟨g, i, none⟩ = some (.int .u8 (l.getD i 0))) :
    Calls Tryz.prog 40 #[.slice (some ⟨g, 0, none⟩) 48 cap] w (Fresh l w) := by
  have q := fun (w : World) (a : Option Addr) (n c n' c' : Nat) => Lib.run_eql_slice_nil (P := Tryz.prog) w 40 _ a n c n' c' Tryz.underlying40
  have HC := hidI hc
  have HL := hidI hl
  clear hc hl
  have hn : Hid (∀ j u, (l.map (Value.int .u8))[j]? = some u → (w.alloc (.cells #[] 5)).cell? ((⟨g, 0, none⟩ : Addr).add j) = some u) := hidI (fun j u hj => by
    have hlt : j < l.length := by
      have := (List.getElem?_eq_some_iff.1 hj).1
      simpa using this
    have hadd : (⟨g, 0, none⟩ : Addr).add j = ⟨g, j, none⟩ := by unfold Addr.add; split <;> simp_all
    rw [hadd]
    rw [List.getElem?_map, List.getElem?_eq_getElem hlt] at hj
    have hk := HC.out j hlt
    rw [List.getD, List.getElem?_eq_getElem hlt] at hk
    simp only [Option.map_some, Option.some.injEq] at hj
    subst hj
    have := World.block_lt_of_cell? _ _ hk
    rw [World.cell?_alloc_lt _ _ _ this]
    exact hk)
  have h1 : Hid (∀ u ∈ l.map (Value.int .u8), u.oneCell' = true) := hidI (by intro u hu; obtain ⟨x, -, rfl⟩ := List.mem_map.1 hu; rfl)
  obtain ⟨i0, hi0, hz0, hz1, hz2⟩ := info_parts info5
  go_enter Tryz.func40, Tryz.ntmps40
  go_wp2_with (at_builtin; refine wpList_append_lies _ rfl _ _ 40 rfl w.heap.size 5 i0 _ 1 1 Tryz.underlying40 hi0 hz0 hz1 hz2 rfl (by decide) _ 0 _ rfl (World.ownsRow_made w #[] 0 (Nat.le_refl _) (Nat.zero_le _) rfl) ⟨g, 0, none⟩ 48 cap (l.map (Value.int .u8)) rfl (by rw [List.length_map, HL.out]) hn.out h1.out (by decide) (by decide) (by decide) (by simp) _ rfl ?hrest; intro g1 cap1 w1 hown hgr hat hlt)
  have hgr' : (w.alloc (.cells #[] 5)).grownBy w1 (some w.heap.size) := hgr
  have hat' : some w.heap.size = some g1 ∨ g1 = (w.alloc (.cells #[] 5)).heap.size := hat
  clear hgr hat
  rw [World.size_alloc] at hat'
  have hB : Below w.heap.size w w1 := ((Below.refl _ w).alloc (Nat.le_refl _) _).grown hgr' (by rw [World.size_alloc]; omega) (fun k hk => by injection hk; omega)
  go_ret
  refine own_fresh hown rfl HL.out hB ?_
  rcases hat' with h | h
  · injection h; omega
  · omega

/-- Forty-eight bytes in new memory, by a function of their places. -/
def Fresh48 (f : Nat → Int) (w : World) (e : Ending) (w' : World) : Prop :=
  ∃ g c : Nat, e = .returned (.slice (some ⟨g, 0, none⟩) 48 (c + 48)) ∧ c + 48 ≤ maxLen ∧ Below w.heap.size w w' ∧ w.heap.size ≤ g ∧ ∀ i, i < 48 → w'.cell? ⟨g, i, none⟩ = some (.int .u8 (f i))

theorem fresh48 {l : List Int} (hl : l.length = 48) {w w' : World} {e : Ending} (h : Fresh l w e w') : Fresh48 (fun i => l.getD i 0) w e w' := by
  obtain ⟨g, cap, rfl, hB, hg, -, h1, h2, hk⟩ := h
  rw [hl] at h1 hk ⊢
  exact ⟨g, cap - 48, by rw [Nat.sub_add_cancel h1], by omega, hB, hg, hk⟩

theorem clone48 (g cap : Nat) (f : Nat → Int) (w : World) (hc : ∀ i, i < 48 → w.cell? ⟨g, i, none⟩ = some (.int .u8 (f i))) :
    Calls Tryz.prog 40 #[.slice (some ⟨g, 0, none⟩) 48 cap] w (Fresh48 f w) := by
  have hl : ((List.range 48).map f).length = 48 := by rw [List.length_map, List.length_range]
  have hg : ∀ i, i < 48 → ((List.range 48).map f).getD i 0 = f i := fun i hi => by
    rw [List.getD, List.getElem?_map, List.getElem?_range hi]; rfl
  refine (clone_any g cap ((List.range 48).map f) hl w (fun i hi => by rw [hl] at hi; rw [hg i hi]; exact hc i hi)).mono ?_
  intro e w' h
  obtain ⟨g', c', h1, h2, h3, h4, h5⟩ := fresh48 hl h
  exact ⟨g', c', h1, h2, h3, h4, fun i hi => (h5 i hi).trans (congrArg (fun x => some (Value.int .u8 x)) (hg i hi))⟩

end Go.Proofs.YtgifkanoghmijaaGreatDoor
