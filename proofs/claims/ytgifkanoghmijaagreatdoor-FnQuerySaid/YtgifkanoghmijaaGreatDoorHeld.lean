/- A struct literal, and a store of a whole struct, held under names of their own: so that a walk goes by their laws and does not lay them open cell by cell. -/
import Derived.Test.YtgifkanoghmijaaGreatDoorProg
import Derived.WalkKit
import Derived.Laws.Tables
namespace Go.Proofs.YtgifkanoghmijaaGreatDoor
open Go.RowKit

/-- A struct literal. -/
def heldBuild (t : TypeId) (parts : Array (Nat × Value)) : Sem Value := Instr.build t parts
/-- A store. -/
def heldStore (t : TypeId) (a x : Value) : Sem Unit := Instr.storeAt t a x

theorem execOp_held (ρ : Operand → Value) (dst : Option Tmp) (t : TypeId) (parts : Array (Nat × Operand)) (ty : TypeId) (pos : String) (after : Array Edge) (guard : Option (Nat × Bool)) :
    execOp ρ { dst, op := .build t parts, type := ty, pos, after, guard } = (do pure (.value (← heldBuild t (parts.map fun (i, x) => (i, ρ x))))) := rfl
theorem execOp_stored (ρ : Operand → Value) (dst : Option Tmp) (t : TypeId) (a x : Operand) (ty : TypeId) (pos : String) (after : Array Edge) (guard : Option (Nat × Bool)) :
    execOp ρ { dst, op := .store t a x, type := ty, pos, after, guard } = (do heldStore t (ρ a) (ρ x); pure .skip) := rfl

end Go.Proofs.YtgifkanoghmijaaGreatDoor
