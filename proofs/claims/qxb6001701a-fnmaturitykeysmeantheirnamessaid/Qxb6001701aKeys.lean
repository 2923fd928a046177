import Derived.Test.Qxb6001701aRows
import Derived.WalkKit
import Derived.ProofKit
import Derived.WalkSpells
import Derived.WalkLawsBesides
import Derived.Deep.RegionHeld3
namespace Go.Proofs.Qxb6001701a.keysWalks
open Go.ChangeShapes Go.WideShapes Go.ChangeAt Go.RowKit

/-! ### zzMaturity: a block of four pointers, each nil or not as its flag says -/
def Four (w : World) (g : Nat) (q : Nat → Option Addr) : Prop :=
  w.cell? ⟨g, 0, none⟩ = some (.pointer (q 0)) ∧ w.cell? ⟨g, 1, none⟩ = some (.pointer (q 1)) ∧ w.cell? ⟨g, 2, none⟩ = some (.pointer (q 2)) ∧ w.cell? ⟨g, 3, none⟩ = some (.pointer (q 3))

def pick (a b c d : Option Addr) : Nat → Option Addr | 0 => a | 1 => b | 2 => c | _ => d

theorem maturity_end {w w' : World} {a0 a1 a2 a3 : Bool} (q0 q1 q2 q3 : Option Addr) (e : Ending) (he : e = .returned (.pointer (some ⟨w.heap.size, 0, none⟩)))
    (h0 : w'.cell? ⟨w.heap.size, 0, none⟩ = some (.pointer q0)) (h1 : w'.cell? ⟨w.heap.size, 1, none⟩ = some (.pointer q1)) (h2 : w'.cell? ⟨w.heap.size, 2, none⟩ = some (.pointer q2)) (h3 : w'.cell? ⟨w.heap.size, 3, none⟩ = some (.pointer q3))
    (i0 : q0.isSome = a0) (i1 : q1.isSome = a1) (i2 : q2.isSome = a2) (i3 : q3.isSome = a3) (hs : w.heap.size < w'.heap.size) (hb : Below w.heap.size w w') :
    ∃ q : Nat → Option Addr, e = .returned (.pointer (some ⟨w.heap.size, 0, none⟩)) ∧ Four w' w.heap.size q ∧ (q 0).isSome = a0 ∧ (q 1).isSome = a1 ∧ (q 2).isSome = a2 ∧ (q 3).isSome = a3 ∧ w.heap.size < w'.heap.size ∧ Below w.heap.size w w' :=
  ⟨pick q0 q1 q2 q3, he, ⟨h0, h1, h2, h3⟩, i0, i1, i2, i3, hs, hb⟩

set_option maxHeartbeats 2000000 in
theorem maturity_any (a0 a1 a2 a3 : Bool) (w : World) :
    Calls Try.prog 11 #[.bool a0, .bool a1, .bool a2, .bool a3] w fun e w' => ∃ q : Nat → Option Addr, e = .returned (.pointer (some ⟨w.heap.size, 0, none⟩)) ∧ Four w' w.heap.size q ∧
      (q 0).isSome = a0 ∧ (q 1).isSome = a1 ∧ (q 2).isSome = a2 ∧ (q 3).isSome = a3 ∧ w.heap.size < w'.heap.size ∧ Below w.heap.size w w' := by
  cases a0 <;> cases a1 <;> cases a2 <;> cases a3
  all_goals
    go_enter Try.func11, Try.ntmps11
    go_wp2
    go_ret
    exact maturity_end _ _ _ _ _ rfl (by simp [go_sem]; rfl) (by simp [go_sem]; rfl) (by simp [go_sem]; rfl) (by simp [go_sem]; rfl) rfl rfl rfl rfl (by simp; try omega) (by repeat (first | exact Below.refl _ _ | (refine Below.alloc ?_ (by simp; try omega) _)))
end Go.Proofs.Qxb6001701a.keysWalks
