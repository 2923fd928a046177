import Derived.Test.Qxb6001704aRows
import Derived.WalkKit
import Derived.ProofKit
import Derived.OpenShut
import Derived.WalkSpells
import Derived.WalkLawsBesides
namespace Go.Proofs.Qxb6001704a.widthWalks
open Go.ChangeShapes Go.WideShapes Go.ChangeAt Go.RowKit
set_option linter.unusedVariables false

theorem width_1 (a : Int) (w : World) (h1 : 0 ≤ a) (h2 : a < 256) : Calls Try.prog 9 #[.int .u32 a] w fun e w' => e = .returned (.int .i64 1) ∧ w = w' := by
  go_enter Try.func9, Try.ntmps9
  go_wp2
  go_ret
  exact ⟨rfl, rfl⟩
theorem width_2 (a : Int) (w : World) (h1 : 256 ≤ a) (h2 : a < 65536) : Calls Try.prog 9 #[.int .u32 a] w fun e w' => e = .returned (.int .i64 2) ∧ w = w' := by
  go_enter Try.func9, Try.ntmps9
  go_wp2
  go_ret
  exact ⟨rfl, rfl⟩
theorem width_4 (a : Int) (w : World) (h1 : 65536 ≤ a) (h2 : a < 4294967296) : Calls Try.prog 9 #[.int .u32 a] w fun e w' => e = .returned (.int .i64 4) ∧ w = w' := by
  go_enter Try.func9, Try.ntmps9
  go_wp2
  go_ret
  exact ⟨rfl, rfl⟩
theorem walk1 (a : Int) (h1 : 0 ≤ a) (h2 : a < 256) (w : World) :
    Calls Try.prog 3 #[.int .u32 a] w fun e w' => e = .returned (.bool true) ∧ Grown w w' := by
  have d0 : (a / 256 != 0) = false := by simp; omega
  go_enter Try.func3, Try.ntmps3
  go_wp2_with (go_at_call 9; refine (width_1 a _ h1 h2).mono ?_; rintro e w' ⟨rfl, rfl⟩)
  refine wp_loop_rounds 1 ?_
  rw [rounds_succ]
  go_wp2
  go_ret
  exact ⟨rfl, Grown.refl _⟩
theorem walk2 (a : Int) (h1 : 256 ≤ a) (h2 : a < 65536) (w : World) :
    Calls Try.prog 3 #[.int .u32 a] w fun e w' => e = .returned (.bool true) ∧ Grown w w' := by
  have d0 : (a / 256 != 0) = true := by simp; omega
  have d1 : (a / 256 / 256 != 0) = false := by simp; omega
  go_enter Try.func3, Try.ntmps3
  go_wp2_with (go_at_call 9; refine (width_2 a _ h1 h2).mono ?_; rintro e w' ⟨rfl, rfl⟩)
  refine wp_loop_rounds 2 ?_
  rw [rounds_succ]
  go_wp2
  rw [rounds_succ]
  go_wp2
  go_ret
  exact ⟨rfl, Grown.refl _⟩
theorem walk3 (a : Int) (h1 : 65536 ≤ a) (h2 : a < 16777216) (w : World) :
    Calls Try.prog 3 #[.int .u32 a] w fun e w' => e = .returned (.bool true) ∧ Grown w w' := by
  have d0 : (a / 256 != 0) = true := by simp; omega
  have d1 : (a / 256 / 256 != 0) = true := by simp; omega
  have d2 : (a / 256 / 256 / 256 != 0) = false := by simp; omega
  go_enter Try.func3, Try.ntmps3
  go_wp2_with (go_at_call 9; refine (width_4 a _ (by omega) (by omega)).mono ?_; rintro e w' ⟨rfl, rfl⟩)
  refine wp_loop_rounds 3 ?_
  rw [rounds_succ]
  go_wp2
  rw [rounds_succ]
  go_wp2
  rw [rounds_succ]
  go_wp2
  go_ret
  exact ⟨rfl, Grown.refl _⟩
theorem walk4 (a : Int) (h1 : 16777216 ≤ a) (h2 : a < 4294967296) (w : World) :
    Calls Try.prog 3 #[.int .u32 a] w fun e w' => e = .returned (.bool true) ∧ Grown w w' := by
  have d0 : (a / 256 != 0) = true := by simp; omega
  have d1 : (a / 256 / 256 != 0) = true := by simp; omega
  have d2 : (a / 256 / 256 / 256 != 0) = true := by simp; omega
  have d3 : (a / 256 / 256 / 256 / 256 != 0) = false := by simp; omega
  go_enter Try.func3, Try.ntmps3
  go_wp2_with (go_at_call 9; refine (width_4 a _ (by omega) (by omega)).mono ?_; rintro e w' ⟨rfl, rfl⟩)
  refine wp_loop_rounds 4 ?_
  rw [rounds_succ]
  go_wp2
  rw [rounds_succ]
  go_wp2
  rw [rounds_succ]
  go_wp2
  rw [rounds_succ]
  go_wp2
  go_ret
  exact ⟨rfl, Grown.refl _⟩
end Go.Proofs.Qxb6001704a.widthWalks
