import Derived.Test.Qxb6001701aKeys3
namespace Go.Proofs.Qxb6001701a.keysWalks
open Go.ChangeShapes Go.WideShapes Go.ChangeAt Go.RowKit
set_option linter.unusedSimpArgs false

/-! ### The plain law -/
theorem less_self : ∀ l : List UInt8, Op.bytesLess l l = false
  | [] => by simp [Op.bytesLess]
  | a :: l => by simp [Op.bytesLess, less_self l]
theorem less_eq (a b : ByteArray) : (Op.bytesLess a.toList b.toList && (a.toList == b.toList)) = false := by
  cases h : (a.toList == b.toList)
  · simp
  · have e : a.toList = b.toList := by simpa using h
    rw [e, less_self]; rfl

/-- What the test under key number i means. -/
def mean (i : Nat) (e lt eq : Bool) : Bool := if e = true then lat i else match i with | 0 => !lt | 1 => !(lt || eq) | 2 => lt || eq | _ => lt
def M (i : Nat) (due date : ByteArray) : Bool := mean i due.toList.isEmpty (Op.bytesLess due.toList date.toList) (due.toList == date.toList)

theorem nm_0_0 : ((nm 0).toList == [111, 110, 95, 111, 114, 95, 97, 102, 116, 101, 114]) = true := by rw [ByteArray.toList_eq]; rfl
theorem nm_0_1 : ((nm 0).toList == [97, 102, 116, 101, 114]) = false := by rw [ByteArray.toList_eq]; rfl
theorem nm_0_2 : ((nm 0).toList == [111, 110, 95, 111, 114, 95, 98, 101, 102, 111, 114, 101]) = false := by rw [ByteArray.toList_eq]; rfl
theorem nm_0_3 : ((nm 0).toList == [98, 101, 102, 111, 114, 101]) = false := by rw [ByteArray.toList_eq]; rfl
theorem nm_1_0 : ((nm 1).toList == [111, 110, 95, 111, 114, 95, 97, 102, 116, 101, 114]) = false := by rw [ByteArray.toList_eq]; rfl
theorem nm_1_1 : ((nm 1).toList == [97, 102, 116, 101, 114]) = true := by rw [ByteArray.toList_eq]; rfl
theorem nm_1_2 : ((nm 1).toList == [111, 110, 95, 111, 114, 95, 98, 101, 102, 111, 114, 101]) = false := by rw [ByteArray.toList_eq]; rfl
theorem nm_1_3 : ((nm 1).toList == [98, 101, 102, 111, 114, 101]) = false := by rw [ByteArray.toList_eq]; rfl
theorem nm_2_0 : ((nm 2).toList == [111, 110, 95, 111, 114, 95, 97, 102, 116, 101, 114]) = false := by rw [ByteArray.toList_eq]; rfl
theorem nm_2_1 : ((nm 2).toList == [97, 102, 116, 101, 114]) = false := by rw [ByteArray.toList_eq]; rfl
theorem nm_2_2 : ((nm 2).toList == [111, 110, 95, 111, 114, 95, 98, 101, 102, 111, 114, 101]) = true := by rw [ByteArray.toList_eq]; rfl
theorem nm_2_3 : ((nm 2).toList == [98, 101, 102, 111, 114, 101]) = false := by rw [ByteArray.toList_eq]; rfl
theorem nm_3_0 : ((nm 3).toList == [111, 110, 95, 111, 114, 95, 97, 102, 116, 101, 114]) = false := by rw [ByteArray.toList_eq]; rfl
theorem nm_3_1 : ((nm 3).toList == [97, 102, 116, 101, 114]) = false := by rw [ByteArray.toList_eq]; rfl
theorem nm_3_2 : ((nm 3).toList == [111, 110, 95, 111, 114, 95, 98, 101, 102, 111, 114, 101]) = false := by rw [ByteArray.toList_eq]; rfl
theorem nm_3_3 : ((nm 3).toList == [98, 101, 102, 111, 114, 101]) = true := by rw [ByteArray.toList_eq]; rfl

theorem meets_0 (q : Option Addr) (due date : ByteArray) (w : World) :
    Calls Try.prog 13 #[.agg #[.pointer q, .bool (lat 0), .bool (on 0)], .string due, .string date] w fun e w' => e = .returned (.bool (M 0 due date)) ∧ w' = w.alloc (.cells #[.pointer q, .bool (lat 0), .bool (on 0)] 37) := by
  show Calls Try.prog 13 #[.agg #[.pointer q, .bool true, .bool true], .string due, .string date] w fun e w' => e = .returned (.bool (M 0 due date)) ∧ w' = w.alloc (.cells #[.pointer q, .bool true, .bool true] 37)
  have hne := less_eq due date
  unfold M
  cases hE : due.toList.isEmpty <;> cases hL : Op.bytesLess due.toList date.toList <;> cases hQ : (due.toList == date.toList)
  all_goals first | (rw [hL, hQ] at hne; refine absurd hne ?_; decide) | skip
  all_goals
    clear hne
    go_enter Try.func13, Try.ntmps13
    go_wp2
    go_ret
    exact ⟨rfl, rfl⟩
theorem meaning_0 (due date : ByteArray) (w : World) :
    Calls Try.prog 14 #[.string (nm 0), .string due, .string date] w fun e w' => e = .returned (.bool (M 0 due date)) ∧ w = w' := by
  have k0 := nm_0_0
  have k1 := nm_0_1
  have k2 := nm_0_2
  have k3 := nm_0_3
  unfold M
  cases hE : due.toList.isEmpty <;> cases hL : Op.bytesLess due.toList date.toList <;> cases hQ : (due.toList == date.toList)
  all_goals
    go_enter Try.func14, Try.ntmps14
    go_wp2
    go_ret
    exact ⟨rfl, rfl⟩

theorem meets_1 (q : Option Addr) (due date : ByteArray) (w : World) :
    Calls Try.prog 13 #[.agg #[.pointer q, .bool (lat 1), .bool (on 1)], .string due, .string date] w fun e w' => e = .returned (.bool (M 1 due date)) ∧ w' = w.alloc (.cells #[.pointer q, .bool (lat 1), .bool (on 1)] 37) := by
  show Calls Try.prog 13 #[.agg #[.pointer q, .bool true, .bool false], .string due, .string date] w fun e w' => e = .returned (.bool (M 1 due date)) ∧ w' = w.alloc (.cells #[.pointer q, .bool true, .bool false] 37)
  have hne := less_eq due date
  unfold M
  cases hE : due.toList.isEmpty <;> cases hL : Op.bytesLess due.toList date.toList <;> cases hQ : (due.toList == date.toList)
  all_goals first | (rw [hL, hQ] at hne; refine absurd hne ?_; decide) | skip
  all_goals
    clear hne
    go_enter Try.func13, Try.ntmps13
    go_wp2
    go_ret
    exact ⟨rfl, rfl⟩
theorem meaning_1 (due date : ByteArray) (w : World) :
    Calls Try.prog 14 #[.string (nm 1), .string due, .string date] w fun e w' => e = .returned (.bool (M 1 due date)) ∧ w = w' := by
  have k0 := nm_1_0
  have k1 := nm_1_1
  have k2 := nm_1_2
  have k3 := nm_1_3
  unfold M
  cases hE : due.toList.isEmpty <;> cases hL : Op.bytesLess due.toList date.toList <;> cases hQ : (due.toList == date.toList)
  all_goals
    go_enter Try.func14, Try.ntmps14
    go_wp2
    go_ret
    exact ⟨rfl, rfl⟩

theorem meets_2 (q : Option Addr) (due date : ByteArray) (w : World) :
    Calls Try.prog 13 #[.agg #[.pointer q, .bool (lat 2), .bool (on 2)], .string due, .string date] w fun e w' => e = .returned (.bool (M 2 due date)) ∧ w' = w.alloc (.cells #[.pointer q, .bool (lat 2), .bool (on 2)] 37) := by
  show Calls Try.prog 13 #[.agg #[.pointer q, .bool false, .bool true], .string due, .string date] w fun e w' => e = .returned (.bool (M 2 due date)) ∧ w' = w.alloc (.cells #[.pointer q, .bool false, .bool true] 37)
  have hne := less_eq due date
  unfold M
  cases hE : due.toList.isEmpty <;> cases hL : Op.bytesLess due.toList date.toList <;> cases hQ : (due.toList == date.toList)
  all_goals first | (rw [hL, hQ] at hne; refine absurd hne ?_; decide) | skip
  all_goals
    clear hne
    go_enter Try.func13, Try.ntmps13
    go_wp2
    go_ret
    exact ⟨rfl, rfl⟩
theorem meaning_2 (due date : ByteArray) (w : World) :
    Calls Try.prog 14 #[.string (nm 2), .string due, .string date] w fun e w' => e = .returned (.bool (M 2 due date)) ∧ w = w' := by
  have k0 := nm_2_0
  have k1 := nm_2_1
  have k2 := nm_2_2
  have k3 := nm_2_3
  unfold M
  cases hE : due.toList.isEmpty <;> cases hL : Op.bytesLess due.toList date.toList <;> cases hQ : (due.toList == date.toList)
  all_goals
    go_enter Try.func14, Try.ntmps14
    go_wp2
    go_ret
    exact ⟨rfl, rfl⟩

theorem meets_3 (q : Option Addr) (due date : ByteArray) (w : World) :
    Calls Try.prog 13 #[.agg #[.pointer q, .bool (lat 3), .bool (on 3)], .string due, .string date] w fun e w' => e = .returned (.bool (M 3 due date)) ∧ w' = w.alloc (.cells #[.pointer q, .bool (lat 3), .bool (on 3)] 37) := by
  show Calls Try.prog 13 #[.agg #[.pointer q, .bool false, .bool false], .string due, .string date] w fun e w' => e = .returned (.bool (M 3 due date)) ∧ w' = w.alloc (.cells #[.pointer q, .bool false, .bool false] 37)
  have hne := less_eq due date
  unfold M
  cases hE : due.toList.isEmpty <;> cases hL : Op.bytesLess due.toList date.toList <;> cases hQ : (due.toList == date.toList)
  all_goals first | (rw [hL, hQ] at hne; refine absurd hne ?_; decide) | skip
  all_goals
    clear hne
    go_enter Try.func13, Try.ntmps13
    go_wp2
    go_ret
    exact ⟨rfl, rfl⟩
theorem meaning_3 (due date : ByteArray) (w : World) :
    Calls Try.prog 14 #[.string (nm 3), .string due, .string date] w fun e w' => e = .returned (.bool (M 3 due date)) ∧ w = w' := by
  have k0 := nm_3_0
  have k1 := nm_3_1
  have k2 := nm_3_2
  have k3 := nm_3_3
  unfold M
  cases hE : due.toList.isEmpty <;> cases hL : Op.bytesLess due.toList date.toList <;> cases hQ : (due.toList == date.toList)
  all_goals
    go_enter Try.func14, Try.ntmps14
    go_wp2
    go_ret
    exact ⟨rfl, rfl⟩
end Go.Proofs.Qxb6001701a.keysWalks
