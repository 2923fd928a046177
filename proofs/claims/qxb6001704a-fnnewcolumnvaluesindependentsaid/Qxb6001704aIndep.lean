import Derived.Test.Qxb6001704aShape
import Derived.Maps.OwnOps
namespace Go.Proofs.Qxb6001704a.colWalks
open Go.ChangeShapes Go.WideShapes Go.ChangeAt Go.RowKit Go.Maps

/-! ### One column's map, with the one key -/
def keyK : Lit := .string [107]
def D1 (x : Int) : DataW Unit := .map [(keyK, .lit (.int .u32 x))]
theorem put_D1 (x : Int) : (DataW.map [] : DataW Unit).put keyK (.lit (.int .u32 x)) = D1 x := rfl
theorem same_keyK : keyK.sameKey keyK = true := by decide
theorem has_D1 (x : Int) : Maps.has (D1 x) keyK = true := by simp [D1, Maps.has, same_keyK]
theorem size_D1 (x : Int) : Maps.size (D1 x) = 1 := rfl
theorem at_D1 (x : Int) (z : DataW Unit) : (D1 x).atKey keyK z = .lit (.int .u32 x) := by simp [D1, DataW.atKey, same_keyK]

theorem law : Keyed Try.prog 9 := string_keyed Try.underlying9
theorem key_of : keyOf Try.prog 9 (.string ⟨#[107]⟩) = some keyK := Go.WideMaps.keyOf_string_mk Try.underlying9 (by unfold maxLen; show 1 ≤ _; omega)
theorem zero22 (w : World) : (zeroValue 22).run Try.prog w = .ok (.int .u32 0) w := by kernel_rfl

theorem frozen_of_val {w : World} {S M : Nat} {l : Int} (h : w.heap[S]? = some (valObj M l)) (j : Nat) : w.frozen? ⟨S, j, none⟩ = false := by
  simp [World.frozen?, h, valObj]

theorem setLast_any (w : World) (S M : Nat) (l x : Int) (hS : w.heap[S]? = some (valObj M l)) :
    Calls Try.prog 20 #[.pointer (some ⟨S, 0, none⟩), .int .u32 x] w fun e w' => e = .returned (.tuple #[]) ∧ w' = w.setCell ⟨S, 2, none⟩ (.int .u32 x) := by
  obtain ⟨c0, c1, c2, c3⟩ := cells_of_val hS
  have f2 := frozen_of_val hS 2
  clear hS
  go_enter Try.func20, Try.ntmps20
  go_wp2
  go_end0
  exact ⟨rfl, rfl⟩

theorem put_any (w : World) (S M : Nat) (l x : Int) (hx : (Lit.int .u32 x).wf = true) (hS : w.heap[S]? = some (valObj M l)) (hM : w.ownsMap Try.prog 9 (plainElem Try.prog 22) M 0 (.map [] : DataW Unit)) :
    Calls Try.prog 21 #[.pointer (some ⟨S, 0, none⟩), .string ⟨#[107]⟩, .int .u32 x] w fun e w' => e = .returned (.tuple #[]) ∧ w'.ownsMap Try.prog 9 (plainElem Try.prog 22) M 1 (D1 x) ∧ w.grownBy w' (some M) := by
  obtain ⟨c0, c1, c2, c3⟩ := cells_of_val hS
  clear hS
  go_enter Try.func21, Try.ntmps21
  go_wp2_with (at_mapUpdate; refine wpList_mapUpdate_own _ rfl _ _ _ 54 rfl 9 22 law Try.underlying54 _ M 0 _ rfl hM (by unfold maxLen; omega) _ _ _ rfl rfl key_of _ [] (plainElem_int Try.underlying22 hx) ?_; intro w1 hown1 hgrow1)
  go_end0
  exact ⟨rfl, hown1, hgrow1⟩

theorem get_any (w : World) (S M : Nat) (l x : Int) (hS : w.heap[S]? = some (valObj M l)) (hM : w.ownsMap Try.prog 9 (plainElem Try.prog 22) M 1 (D1 x)) :
    Calls Try.prog 22 #[.pointer (some ⟨S, 0, none⟩), .string ⟨#[107]⟩] w fun e w' => e = .returned (.tuple #[.int .u32 x, .bool true]) ∧ w = w' := by
  obtain ⟨c0, c1, c2, c3⟩ := cells_of_val hS
  clear hS
  go_enter Try.func22, Try.ntmps22
  go_wp2_with (at_lookup; refine wpList_lookup_own_ok_int _ rfl _ _ 54 rfl 9 22 .u32 law Try.underlying54 Try.underlying22 (zero22 _) M 1 _ rfl hM _ _ rfl key_of ?_; intro c hat hwc)
  have hc : c = x := by
    rw [at_D1] at hat
    simpa using hat.symm
  clear hat
  go_ret2
  refine ⟨?_, rfl⟩
  subst hc
  simp [has_D1]
end Go.Proofs.Qxb6001704a.colWalks
