import Derived.Test.Qxb6001701aDigits
namespace Go.Proofs.Qxb6001701a.digitsWalks
open Go.ChangeShapes Go.WideShapes Go.ChangeAt Go.RowKit

theorem zzdigits_any (s : ByteArray) (p : Nat) (w : World) (hs : s.size ≤ 1048576) (hp : p ≤ s.size) :
    Calls Try.prog 17 #[.string s, .int .i64 p] w fun e w' => ∃ m c : Nat, RunEnd s p m ∧ m = p + c ∧ e = .returned (.tuple #[.int .i64 m, .int .i64 c]) ∧ Below w.heap.size w w' := by
  go_enter Try.func17, Try.ntmps17
  go_wp2_with (go_at_call 22; refine (digits_any s p w.heap.size _ hs hp ?h1 ?h2 ?h3).mono ?_; (case h1 => simp); (case h2 => simp); (case h3 => simp [go_sem]); rintro e w1 ⟨m, c, hr, hm, rfl, hc, hb⟩; have HM : Hid (m = p + c) := hm; clear hm)
  go_ret2
  exact ⟨m, c, hr, HM.out, rfl, ((Below.refl _ _).alloc (Nat.le_refl _) _).trans hb⟩

theorem isDigit_yes (n : Int) (w : World) (h1 : 48 ≤ n) (h2 : n ≤ 57) : Calls Try.prog 18 #[.int .u8 n] w fun e w' => e = .returned (.bool true) ∧ w = w' := by
  go_enter Try.func18, Try.ntmps18
  go_wp2
  go_ret
  exact ⟨rfl, rfl⟩
theorem isDigit_no (n : Int) (w : World) (h : ¬ (48 ≤ n ∧ n ≤ 57)) : Calls Try.prog 18 #[.int .u8 n] w fun e w' => e = .returned (.bool false) ∧ w = w' := by
  by_cases h1 : 48 ≤ n
  · have h2 : ¬ n ≤ 57 := by omega
    go_enter Try.func18, Try.ntmps18
    go_wp2
    go_ret
    exact ⟨rfl, rfl⟩
  · go_enter Try.func18, Try.ntmps18
    go_wp2
    go_ret
    exact ⟨rfl, rfl⟩
theorem bytes_yes (s : ByteArray) (p : Int) (w : World) (h : s.size ≤ 1048576) : Calls Try.prog 16 #[.string s, .int .i64 p] w fun e w' => e = .returned (.bool true) ∧ w = w' := by
  go_enter Try.func16, Try.ntmps16
  go_wp2
  go_ret
  exact ⟨rfl, rfl⟩
theorem bytes_no (s : ByteArray) (p : Int) (w : World) (h : ¬ s.size ≤ 1048576) : Calls Try.prog 16 #[.string s, .int .i64 p] w fun e w' => e = .returned (.bool false) ∧ w = w' := by
  go_enter Try.func16, Try.ntmps16
  go_wp2
  go_ret
  exact ⟨rfl, rfl⟩

theorem run_again {s : ByteArray} {p m m' c' : Nat} (h : RunEnd s p m) (h' : RunEnd s m m') (hc : m' = m + c') : m = m' ∧ c' = 0 := by
  have : ¬ m < m' := fun hlt => h.2.2.2 (h'.2.2.1 m (Nat.le_refl _) hlt)
  have := h'.1
  omega
end Go.Proofs.Qxb6001701a.digitsWalks
