import Derived.Test.Qxb6001701aDigits2
namespace Go.Proofs.Qxb6001701a.digitsWalks
open Go.ChangeShapes Go.WideShapes Go.ChangeAt Go.RowKit

set_option maxHeartbeats 1000000 in
theorem walk_in (s : ByteArray) (p : Nat) (w : World) (hs : s.size ≤ 1048576) (hp : p ≤ s.size) :
    Calls Try.prog 6 #[.string s, .int .i64 p] w fun e w' => e = .returned (.bool true) ∧ Below w.heap.size w w' := by
  go_enter Try.func6, Try.ntmps6
  go_wp2_with (first | (go_at_call 16; refine (bytes_yes _ _ _ hs).mono ?_; rintro e w' ⟨rfl, rfl⟩) | (go_at_call 17; refine (zzdigits_any s p _ hs hp).mono ?_; rintro e w1 ⟨m, c, hr, hm, rfl, hb⟩; have m1 : m ≤ p + c := Nat.le_of_eq hm; have m2 : p + c ≤ m := Nat.le_of_eq hm.symm; have m3 : m ≤ s.size := hr.2.1; have f1 : decide (m < p) = false := (by simp; omega); have f2 : decide (s.size < m) = false := (by simp; omega); have m4 : ((c : Int) != (m : Int) - (p : Int)) = false := (by simp; omega); clear hm))
  go_loopw [7] (fun i wr => ∃ k : Nat, p ≤ k ∧ k ≤ m ∧ i = .int .i64 k ∧ Below w.heap.size w wr) (fun i _ => m - (intOf i).toNat)
  case atStart => exact ⟨p, by omega, by omega, rfl, hb⟩
  case round =>
    clear m1 m2 m4 hb
    obtain ⟨k, hk1, hk2, rfl, hb⟩ := hrel
    by_cases hlt : k < m
    · obtain ⟨hks, d1, d2⟩ := hr.2.2.1 k hk1 hlt
      go_wp2_with (go_at_call 18; refine (isDigit_yes _ _ d1 d2).mono ?_; rintro e w' ⟨rfl, rfl⟩)
      go_roundw
      case rel => exact ⟨k + 1, by omega, by omega, by go_num, hb⟩
      case measure => simp [intOf]; omega
    · have HR : Hid (RunEnd s p m) := hr
      by_cases hms : m < s.size
      · have hnd : ¬ (48 ≤ ((s[m]'hms).toNat : Int) ∧ ((s[m]'hms).toNat : Int) ≤ 57) := fun h => hr.2.2.2 ⟨hms, h⟩
        have HN : Hid (¬ (48 ≤ ((s[m]'hms).toNat : Int) ∧ ((s[m]'hms).toNat : Int) ≤ 57)) := hnd
        clear hr hnd
        go_wp2_with (go_at_call 18; refine (isDigit_no _ _ HN.out).mono ?_; rintro e w' ⟨rfl, rfl⟩)
        refine (zzdigits_any s m _ hs m3).mono ?_
        rintro e w2 ⟨m', c', hr', hm', rfl, hb'⟩
        obtain ⟨rfl, rfl⟩ := run_again HR.out hr' hm'
        clear hr' hm' HN hlt
        go_wp2
        go_ret
        exact ⟨rfl, hb.trans (hb'.mono hb.size)⟩
      · clear hr
        go_wp2_with fail
        refine (zzdigits_any s m _ hs m3).mono ?_
        rintro e w2 ⟨m', c', hr', hm', rfl, hb'⟩
        obtain ⟨rfl, rfl⟩ := run_again HR.out hr' hm'
        clear hr' hm' hlt
        go_wp2
        go_ret
        exact ⟨rfl, hb.trans (hb'.mono hb.size)⟩
end Go.Proofs.Qxb6001701a.digitsWalks
