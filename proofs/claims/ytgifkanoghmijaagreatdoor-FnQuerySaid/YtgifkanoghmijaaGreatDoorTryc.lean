/- impl.try: what a closure that returns true, or panics, makes of it. -/
import Derived.Test.YtgifkanoghmijaaGreatDoorNum
import Derived.Defers
import Derived.Recover
namespace Go.Proofs.YtgifkanoghmijaaGreatDoor
open Go.RowKit

theorem catch_panics (p : Addr) (x : Bool) (u : TypeId) (pv : Value) (older : List PanicEntry) (w : World) (hc : w.cell? p = some (.bool x)) (hz : w.frozen? p = false) :
    CallsD Tryz.prog 42 #[.pointer (some p)] (.panicking ({ v := .iface u pv, recovered := false } :: older)) w fun e u' w' =>
      e = .returned (.tuple #[]) ∧ u' = .panicking ({ v := .iface u pv, recovered := true } :: older) ∧ w' = w.setCell p (.bool false) := by
  refine callsD_of_wpS Tryz.func42 rfl fun c₀ cs hu => ?_
  apply wpS_seq
  apply wpS_region
  simp [wpOpsS, go_sem, recoverD, hu, Tryz.ntmps42, Exit.thenS]
  refine wpS_cond (t := true) (by simp [Act.eval, Array.replicate]) ?_
  simp only [if_true]
  apply wpS_region
  simp [wpOpsS, go_sem, hc, hz, bodyPostS, results, Tryz.results42]

theorem catch_idle (p : Addr) (w : World) :
    CallsD Tryz.prog 42 #[.pointer (some p)] .returning w fun e u' w' => e = .returned (.tuple #[]) ∧ u' = .returning ∧ w' = w := by
  refine callsD_of_wpS Tryz.func42 rfl fun c₀ cs hu => ?_
  apply wpS_seq
  apply wpS_region
  simp [wpOpsS, go_sem, recoverD, hu, Tryz.ntmps42, Exit.thenS]
  refine wpS_cond (t := false) (by simp [Act.eval, Array.replicate]) ?_
  simp only [Bool.false_eq_true, if_false]
  refine wpS_of_wp (wp_skip ?_)
  cases c₀
  simp_all [bodyPostS, results, Tryz.results42]

/-- What a closure leaves that is tried: true, or a panic. -/
def Tried (A B : World → Prop) (e : Ending) (w' : World) : Prop :=
  (e = .returned (.bool true) ∧ A w') ∨ ((∃ u v, e = .panicked [{ v := .iface u v, recovered := false }]) ∧ B w')

set_option maxRecDepth 20000 in
theorem try_any (F : Nat) (cap : Array Value) (A B : World → Prop) (w : World)
    (hcf : ∀ w, (callFunc F cap).run Tryz.prog w = .ok (.enter F cap) w)
    (h : Calls Tryz.prog F cap (w.alloc (.cells #[.bool false] 4)) (Tried A B))
    (hA : ∀ w', A w' → w'.cell? ⟨w.heap.size, 0, none⟩ = some (.bool false) ∧ w'.frozen? ⟨w.heap.size, 0, none⟩ = false) (hB : ∀ w', B w' → w'.cell? ⟨w.heap.size, 0, none⟩ = some (.bool false) ∧ w'.frozen? ⟨w.heap.size, 0, none⟩ = false) :
    Calls Tryz.prog 27 #[.func (.func F) #[] cap] w fun e w' => ∃ w2, (A w2 ∧ e = .returned (.bool true) ∧ w' = w2.setCell ⟨w.heap.size, 0, none⟩ (.bool true)) ∨ (B w2 ∧ e = .returned (.bool false) ∧ w' = w2.setCell ⟨w.heap.size, 0, none⟩ (.bool false)) := by
  have hmf : ∀ (fn : Fn) (first cap : Array Value) (w : World), (Instr.makeFunc fn first cap).run Tryz.prog w = .ok (.func fn first cap) w := fun _ _ _ _ => rfl
  go_enter_defers Tryz.func27, Tryz.ntmps27
  have HH := hidI h
  have HA := hidI hA
  have HBB := hidI hB
  clear h hA hB
  go_wp2_with fail
  refine HH.out.mono ?_
  rintro e w2 (⟨rfl, hA⟩ | ⟨⟨u, v, rfl⟩, hB⟩)
  · obtain ⟨hc, hz⟩ := HA.out _ hA
    have HA' := hidI hA
    clear hA
    go_wp2_with fail
    refine leaves_cons (f := 42) (args := #[.pointer (some ⟨w.heap.size, 0, none⟩)]) (by simp) (by simp [go_sem]) ?_
    refine (catch_idle ⟨w.heap.size, 0, none⟩ _).mono ?_
    rintro e u' w'' ⟨rfl, rfl, rfl⟩
    simp [Leaves, settle, results, Tryz.results27, go_sem, hc]
    exact ⟨w2, HA'.out, rfl⟩
  · obtain ⟨hc, hz⟩ := HBB.out _ hB
    have HA' := hidI hB
    clear hB
    go_wp2_with fail
    refine leaves_cons (f := 42) (args := #[.pointer (some ⟨w.heap.size, 0, none⟩)]) (by simp) (by simp [go_sem]) ?_
    refine (catch_panics ⟨w.heap.size, 0, none⟩ false u v [] _ hc hz).mono ?_
    rintro e u' w'' ⟨rfl, rfl, rfl⟩
    simp [Leaves, settle, results, Tryz.results27, go_sem, hc]
    exact ⟨w2, HA'.out, rfl⟩

theorem cf_asked (cap : Array Value) (w : World) : (callFunc 38 cap).run Tryz.prog w = .ok (.enter 38 cap) w := by
  kernel_rfl
theorem cf_query (cap : Array Value) (w : World) : (callFunc 28 cap).run Tryz.prog w = .ok (.enter 28 cap) w := by
  kernel_rfl
theorem cf_valid (cap : Array Value) (w : World) : (callFunc 33 cap).run Tryz.prog w = .ok (.enter 33 cap) w := by
  kernel_rfl

end Go.Proofs.YtgifkanoghmijaaGreatDoor
