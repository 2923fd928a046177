import Derived.Test.Qxb6603097aClone2
namespace Go.Proofs.Qxb6603097a.filterWalks
open Go.ChangeShapes Go.WideShapes Go.ChangeAt Go.RowKit
set_option linter.unusedVariables false

def AddRes (w : World) (e : Ending) (w' : World) : Prop := ∃ r : Int, e = .returned (.int .i64 r) ∧ 0 ≤ r ∧ r ≤ 3000000 ∧ w = w'

theorem addBytes_any (w : World) (t n : Int) (h0 : 0 ≤ t) (h1 : t ≤ 3000000) (h2 : 0 ≤ n) :
    Calls Try.prog 17 #[.int .i64 t, .int .i64 n] w fun e w' => AddRes w e w' := by
  by_cases c1 : 1048576 < n
  · go_enter Try.func17, Try.ntmps17
    go_wp2
    go_ret
    exact ⟨1048577, rfl, by omega, by omega, rfl⟩
  · by_cases c2 : 1048576 < t
    · go_enter Try.func17, Try.ntmps17
      go_wp2
      go_ret
      exact ⟨1048577, rfl, by omega, by omega, rfl⟩
    · go_enter Try.func17, Try.ntmps17
      go_wp2
      go_ret
      exact ⟨t + n, rfl, by omega, by omega, rfl⟩

set_option maxHeartbeats 2000000 in
theorem hdrBytes_any (w : World) (t : Int) (ao : Option Addr) (n cap : Nat) (h0 : 0 ≤ t) (h1 : t ≤ 3000000) (hn : n ≤ maxLen) (h : HdrIn w ao n) :
    Calls Try.prog 29 #[.int .i64 t, .slice ao n cap] w fun e w' => AddRes w e w' := by
  unfold maxLen at hn
  obtain ⟨_, b, o, g1, g2⟩ := h
  by_cases hz : n = 0
  · subst hz
    go_enter Try.func29, Try.ntmps29
    go_wp2
    refine wp_loop_rounds 1 ?_
    rw [rounds_succ]
    go_wp2
    go_ret
    exact ⟨t, rfl, h0, h1, rfl⟩
  · obtain rfl := g1 (by omega)
    clear g1 hz
    go_enter Try.func29, Try.ntmps29
    go_wp2
    go_loopw [0, 5] (fun x i wr => ∃ (k : Nat) (t : Int), k ≤ n ∧ i = .int .i64 k ∧ x = .int .i64 t ∧ 0 ≤ t ∧ t ≤ 3000000 ∧ w = wr) (fun _ i _ => n - (intOf i).toNat)
    case atStart => exact ⟨0, t, by omega, rfl, rfl, h0, h1, rfl⟩
    case round =>
      clear h0 h1
      obtain ⟨k, t, hk, rfl, rfl, h0, h1, rfl⟩ := hrel
      by_cases hlt : k < n
      · obtain ⟨key, sa, sl, sc, a1, a2, hkey, hsl, _, b', o', s1, s2⟩ := g2 k hlt
        clear g2
        unfold maxLen at hkey hsl
        by_cases hs0 : sl = 0
        · subst hs0
          clear s1 s2
          go_wp2_with (go_at_call 17; refine (addBytes_any _ _ _ (by assumption) (by assumption) (by omega)).mono ?_; rintro e w' ⟨r, rfl, r0, r1, rfl⟩)
          refine wp_loop_rounds 1 ?_
          rw [rounds_succ]
          go_wp2
          · go_ret
            exact ⟨r, rfl, r0, r1, rfl⟩
          · go_roundw
            case rel => exact ⟨k + 1, r, by omega, by go_num, rfl, r0, r1, by first | rfl | trivial⟩
            case measure => simp [intOf]; omega
        · obtain rfl := s1 (by omega)
          clear s1 hs0
          go_wp2_with (go_at_call 17; refine (addBytes_any _ _ _ (by assumption) (by assumption) (by omega)).mono ?_; rintro e w' ⟨r, rfl, r0, r1, rfl⟩)
          go_loopw [0, 7] (fun x j wr => ∃ (q : Nat) (t : Int), q ≤ sl ∧ j = .int .i64 q ∧ x = .int .i64 t ∧ 0 ≤ t ∧ t ≤ 3000000 ∧ w = wr) (fun _ j _ => sl - (intOf j).toNat)
          case atStart => exact ⟨0, r, by omega, rfl, rfl, r0, r1, rfl⟩
          case round =>
            obtain ⟨q, t2, hq, rfl, rfl, p0, p1, rfl⟩ := hrel
            by_cases hqt : q < sl
            · obtain ⟨v, hv, hvs⟩ := s2 q hqt
              clear s2
              unfold maxLen at hvs
              go_wp2_with (go_at_call 17; refine (addBytes_any _ _ _ (by assumption) (by assumption) (by omega)).mono ?_; rintro e w' ⟨r, rfl, r0, r1, rfl⟩)
              · go_ret
                exact ⟨r, rfl, r0, r1, rfl⟩
              · go_roundw
                case rel => exact ⟨q + 1, r, by omega, by go_num, rfl, r0, r1, by first | rfl | trivial⟩
                case measure => simp [intOf]; omega
            · clear s2
              by_cases hbig : 1048576 < t2
              · go_wp2
                go_ret
                exact ⟨t2, rfl, p0, p1, rfl⟩
              · go_wp2
                go_roundw
                case rel => exact ⟨k + 1, t2, by omega, by go_num, rfl, p0, p1, by first | rfl | trivial⟩
                case measure => simp [intOf]; omega
      · clear g2
        go_wp2
        go_ret
        exact ⟨t, rfl, h0, h1, rfl⟩
end Go.Proofs.Qxb6603097a.filterWalks
