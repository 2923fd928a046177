import Derived.Test.Qxb6001701aKeys
import Derived.Outline
namespace Go.Proofs.Qxb6001701a.keysWalks
open Go.ChangeShapes Go.WideShapes Go.ChangeAt Go.RowKit

/-! ### The four keys, by number: name, later, on -/
def nm : Nat → ByteArray | 0 => ⟨#[111, 110, 95, 111, 114, 95, 97, 102, 116, 101, 114]⟩ | 1 => ⟨#[97, 102, 116, 101, 114]⟩ | 2 => ⟨#[111, 110, 95, 111, 114, 95, 98, 101, 102, 111, 114, 101]⟩ | _ => ⟨#[98, 101, 102, 111, 114, 101]⟩
def lat : Nat → Bool | 0 => true | 1 => true | _ => false
def on : Nat → Bool | 0 => true | 2 => true | _ => false

/-- Block g holds the four keyed tests. -/
def KeyRow (w : World) (g : Nat) (q : Nat → Option Addr) : Prop :=
  ∀ i, i < 4 → w.cell? ⟨g, i * 4, none⟩ = some (.string (nm i)) ∧ w.cell? ⟨g, i * 4 + 1, none⟩ = some (.pointer (q i)) ∧ w.cell? ⟨g, i * 4 + 2, none⟩ = some (.bool (lat i)) ∧ w.cell? ⟨g, i * 4 + 3, none⟩ = some (.bool (on i))
/-- Block g holds the four names. -/
def NameRow (w : World) (g : Nat) : Prop := ∀ i, i < 4 → w.cell? ⟨g, i, none⟩ = some (.string (nm i))
/-- Block g holds the four tests. -/
def TestRow (w : World) (g : Nat) (q : Nat → Option Addr) : Prop :=
  ∀ i, i < 4 → w.cell? ⟨g, i * 3, none⟩ = some (.pointer (q i)) ∧ w.cell? ⟨g, i * 3 + 1, none⟩ = some (.bool (lat i)) ∧ w.cell? ⟨g, i * 3 + 2, none⟩ = some (.bool (on i))

theorem four_cases {p : Nat → Prop} (h0 : p 0) (h1 : p 1) (h2 : p 2) (h3 : p 3) : ∀ i, i < 4 → p i := by
  intro i hi
  match i, hi with
  | 0, _ => exact h0
  | 1, _ => exact h1
  | 2, _ => exact h2
  | 3, _ => exact h3

def keyCells (q : Nat → Option Addr) : Array Value :=
  #[.string (nm 0), .pointer (q 0), .bool true, .bool true, .string (nm 1), .pointer (q 1), .bool true, .bool false, .string (nm 2), .pointer (q 2), .bool false, .bool true, .string (nm 3), .pointer (q 3), .bool false, .bool false]

theorem keyRow_new (w : World) (q : Nat → Option Addr) : KeyRow (w.alloc (.cells (keyCells q) 56)) w.heap.size q :=
  four_cases ⟨by simp [keyCells], by simp [keyCells], by simp [keyCells]; rfl, by simp [keyCells]; rfl⟩ ⟨by simp [keyCells], by simp [keyCells], by simp [keyCells]; rfl, by simp [keyCells]; rfl⟩
    ⟨by simp [keyCells], by simp [keyCells], by simp [keyCells]; rfl, by simp [keyCells]; rfl⟩ ⟨by simp [keyCells], by simp [keyCells], by simp [keyCells]; rfl, by simp [keyCells]; rfl⟩

theorem keys_any (b : Nat) (q : Nat → Option Addr) (w : World) (hq : Four w b q) :
    Calls Try.prog 21 #[.pointer (some ⟨b, 0, none⟩)] w fun e w' => e = .returned (.slice (some ⟨w.heap.size, 0, none⟩) 4 4) ∧ KeyRow w' w.heap.size q ∧ w'.heap.size = w.heap.size + 1 ∧ Below w.heap.size w w' := by
  obtain ⟨h0, h1, h2, h3⟩ := hq
  go_enter Try.func21, Try.ntmps21
  go_wp2
  go_region_held3 (fun w' => w'.cell? ⟨b, 0, none⟩ = some (.pointer (q 0)) ∧ w'.cell? ⟨b, 1, none⟩ = some (.pointer (q 1)) ∧ w'.cell? ⟨b, 2, none⟩ = some (.pointer (q 2)) ∧ w'.cell? ⟨b, 3, none⟩ = some (.pointer (q 3))) (go_keep) (fail)
  go_wp2
  go_ret
  exact ⟨rfl, keyRow_new w q, by simp, ((Below.refl _ _).alloc (Nat.le_refl _) _).drew⟩
end Go.Proofs.Qxb6001701a.keysWalks
