import Derived.Test.Qxb6603097aBytes
namespace Go.Proofs.Qxb6603097a.filterWalks
open Go.ChangeShapes Go.WideShapes Go.ChangeAt Go.RowKit
set_option linter.unusedVariables false

def ZzRes (P : Prop) (w : World) (e : Ending) (w' : World) : Prop := ∃ b : Bool, e = .returned (.bool b) ∧ (b = true → P) ∧ w = w'

theorem zz_no (P : Prop) (w : World) : ZzRes P w (.returned (.bool false)) w := ⟨false, rfl, fun h => (by cases h), rfl⟩

def HdrRd (w : World) (b o n : Nat) : Prop := ∀ i, i < n → ∃ (key : ByteArray) (sa : Option Addr) (sl sc : Nat),
    w.cell? ⟨b, o + i * 2, none⟩ = some (.string key) ∧ w.cell? ⟨b, o + i * 2 + 1, none⟩ = some (.slice sa sl sc) ∧ key.size ≤ maxLen ∧ sl ≤ maxLen ∧ StrIn w sa sl

theorem small_step {w : World} {b o k sl : Nat} {sa : Option Addr} {sc : Nat} (h : ∀ i sa sl sc, i < k → w.cell? ⟨b, o + i * 2 + 1, none⟩ = some (.slice sa sl sc) → sl ≤ 1048576)
    (hc : w.cell? ⟨b, o + k * 2 + 1, none⟩ = some (.slice sa sl sc)) (hs : sl ≤ 1048576) : ∀ i sa sl sc, i < k + 1 → w.cell? ⟨b, o + i * 2 + 1, none⟩ = some (.slice sa sl sc) → sl ≤ 1048576 := by
  intro i sa' sl' sc' hi hc'
  by_cases e : i = k
  · subst e
    rw [hc] at hc'
    simp at hc'
    omega
  · exact h i sa' sl' sc' (by omega) hc'

set_option maxRecDepth 100000 in
set_option maxHeartbeats 4000000 in
theorem zz_00 (w : World) (h op role : Int) (key0 val0 : ByteArray) (ka : Option Addr) (kn kc : Nat) (x1 : Option Addr) (cap1 : Nat) (x2 : Option Addr) (cap2 : Nat) (hk0 : key0.size ≤ maxLen) (hv0 : val0.size ≤ maxLen) (hkn : kn ≤ maxLen) :
    Calls Try.prog 7 #[.int .u8 h, .string key0, .string val0, .int .u8 op, .int .u8 role, .slice ka kn kc, .slice x1 0 cap1, .slice x2 0 cap2] w fun e w' => ZzRes (kn ≤ 1048576 ∧ HdrSmall w x1 0 ∧ HdrSmall w x2 0) w e w' := by
  unfold maxLen at *
  by_cases c0 : key0.size + val0.size + kn ≤ 1048576
  · go_enter Try.func7, Try.ntmps7
    go_wp2
    refine wp_loop_rounds 1 ?_
    rw [rounds_succ]
    go_wp2
    refine wp_loop_rounds 1 ?_
    rw [rounds_succ]
    go_wp2
    go_ret
    exact ⟨true, rfl, fun _ => ⟨by omega, ⟨by omega, fun _ _ _ _ _ _ _ h => by omega⟩, ⟨by omega, fun _ _ _ _ _ _ _ h => by omega⟩⟩, rfl⟩
  · go_enter Try.func7, Try.ntmps7
    go_wp2
    all_goals
      go_ret
      exact zz_no _ _
set_option maxRecDepth 100000 in
set_option maxHeartbeats 4000000 in
theorem zz_10 (w : World) (h op role : Int) (key0 val0 : ByteArray) (ka : Option Addr) (kn kc : Nat) (b1 o1 n1 cap1 : Nat) (x2 : Option Addr) (cap2 : Nat) (hk0 : key0.size ≤ maxLen) (hv0 : val0.size ≤ maxLen) (hkn : kn ≤ maxLen) (hn1 : n1 ≤ maxLen) (g1 : HdrRd w b1 o1 n1) :
    Calls Try.prog 7 #[.int .u8 h, .string key0, .string val0, .int .u8 op, .int .u8 role, .slice ka kn kc, .slice (some ⟨b1, o1, none⟩) n1 cap1, .slice x2 0 cap2] w fun e w' => ZzRes (kn ≤ 1048576 ∧ HdrSmall w (some ⟨b1, o1, none⟩) n1 ∧ HdrSmall w x2 0) w e w' := by
  unfold maxLen at *
  by_cases c0 : key0.size + val0.size + kn + n1 ≤ 1048576
  · go_enter Try.func7, Try.ntmps7
    go_wp2
    go_loop [17, 18] (fun x i => ∃ (k : Nat) (z : Int), k ≤ n1 ∧ i = .int .i64 k ∧ x = .int .i64 z ∧ 0 ≤ z ∧ z ≤ 1048576 ∧ (∀ i sa sl sc, i < k → w.cell? ⟨b1, o1 + i * 2 + 1, none⟩ = some (.slice sa sl sc) → sl ≤ 1048576)) (fun _ i => n1 - (intOf i).toNat)
    case atStart => exact ⟨0, _, by omega, rfl, rfl, by omega, by omega, fun i sa sl sc hi => by omega⟩
    case round =>
      obtain ⟨k, z1, hk, rfl, rfl, hz0, hz1, hsm1⟩ := hrel
      have HS1 : Hid (∀ i sa sl sc, i < k → w.cell? ⟨b1, o1 + i * 2 + 1, none⟩ = some (.slice sa sl sc) → sl ≤ 1048576) := hsm1
      clear hsm1
      by_cases hlt : k < n1
      · obtain ⟨key, sa, sl, sc, a1, a2, hkey, hsl, _, b', o', s1, s2⟩ := g1 k hlt
        clear g1
        unfold maxLen at hkey hsl
        by_cases c1 : z1 + key.size + sl ≤ 1048576
        · have HN : Hid (∀ i sa sl sc, i < k + 1 → w.cell? ⟨b1, o1 + i * 2 + 1, none⟩ = some (.slice sa sl sc) → sl ≤ 1048576) := small_step HS1.out a2 (by omega)
          clear HS1
          by_cases hs0 : sl = 0
          · subst hs0
            clear s1 s2
            go_wp2
            refine wp_loop_rounds 1 ?_
            rw [rounds_succ]
            go_wp2
            go_round
            case rel => exact ⟨k + 1, _, by omega, by go_num, rfl, by omega, by omega, HN.out⟩
            case measure => simp [intOf]; omega
          · obtain rfl := s1 (by omega)
            clear s1 hs0
            go_wp2
            go_loop [17, 19] (fun x j => ∃ (q : Nat) (z : Int), q ≤ sl ∧ j = .int .i64 q ∧ x = .int .i64 z ∧ 0 ≤ z ∧ z ≤ 1048576) (fun _ j => sl - (intOf j).toNat)
            case atStart => exact ⟨0, _, by omega, rfl, rfl, by omega, by omega⟩
            case round =>
              clear hz0 hz1 c1
              obtain ⟨q, z, hq, rfl, rfl, hz0, hz1⟩ := hrel
              by_cases hqt : q < sl
              · obtain ⟨v, hv, hvs⟩ := s2 q hqt
                clear s2
                unfold maxLen at hvs
                by_cases c3 : z + v.size ≤ 1048576
                · go_wp2
                  go_round
                  case rel => exact ⟨q + 1, _, by omega, by go_num, rfl, by omega, by omega⟩
                  case measure => simp [intOf]; omega
                · go_wp2
                  all_goals
                    go_ret
                    exact zz_no _ _
              · clear s2
                go_wp2
                go_round
                case rel => exact ⟨k + 1, _, by omega, by go_num, rfl, by omega, by omega, HN.out⟩
                case measure => simp [intOf]; omega
        · clear s1 s2 HS1
          go_wp2
          all_goals
            go_ret
            exact zz_no _ _
      · have e1 : k = n1 := by omega
        have HF1 : Hid (∀ i sa sl sc, i < n1 → w.cell? ⟨b1, o1 + i * 2 + 1, none⟩ = some (.slice sa sl sc) → sl ≤ 1048576) := by have := HS1.out; rw [e1] at this; exact this
        clear HS1 e1
        go_wp2
        refine wp_loop_rounds 1 ?_
        rw [rounds_succ]
        go_wp2
        go_ret
        exact ⟨true, rfl, fun _ => ⟨by omega, ⟨by omega, fun b o i sa sl sc e hi hc => by cases e; exact HF1.out i sa sl sc hi hc⟩, ⟨by omega, fun _ _ _ _ _ _ _ h => by omega⟩⟩, rfl⟩
  · clear g1
    go_enter Try.func7, Try.ntmps7
    go_wp2
    all_goals
      go_ret
      exact zz_no _ _
set_option maxRecDepth 100000 in
set_option maxHeartbeats 4000000 in
theorem zz_01 (w : World) (h op role : Int) (key0 val0 : ByteArray) (ka : Option Addr) (kn kc : Nat) (x1 : Option Addr) (cap1 : Nat) (b2 o2 n2 cap2 : Nat) (hk0 : key0.size ≤ maxLen) (hv0 : val0.size ≤ maxLen) (hkn : kn ≤ maxLen) (hn2 : n2 ≤ maxLen) (g2 : HdrRd w b2 o2 n2) :
    Calls Try.prog 7 #[.int .u8 h, .string key0, .string val0, .int .u8 op, .int .u8 role, .slice ka kn kc, .slice x1 0 cap1, .slice (some ⟨b2, o2, none⟩) n2 cap2] w fun e w' => ZzRes (kn ≤ 1048576 ∧ HdrSmall w x1 0 ∧ HdrSmall w (some ⟨b2, o2, none⟩) n2) w e w' := by
  unfold maxLen at *
  by_cases c0 : key0.size + val0.size + kn ≤ 1048576
  · go_enter Try.func7, Try.ntmps7
    go_wp2
    refine wp_loop_rounds 1 ?_
    rw [rounds_succ]
    by_cases cm : ((key0.size : Int) + val0.size + kn) + n2 ≤ 1048576
    · go_wp2
      go_loop [17, 20] (fun x i => ∃ (k : Nat) (z : Int), k ≤ n2 ∧ i = .int .i64 k ∧ x = .int .i64 z ∧ 0 ≤ z ∧ z ≤ 1048576 ∧ (∀ i sa sl sc, i < k → w.cell? ⟨b2, o2 + i * 2 + 1, none⟩ = some (.slice sa sl sc) → sl ≤ 1048576)) (fun _ i => n2 - (intOf i).toNat)
      case atStart => exact ⟨0, _, by omega, rfl, rfl, by omega, by omega, fun i sa sl sc hi => by omega⟩
      case round =>
        obtain ⟨k, z2, hk, rfl, rfl, hz0, hz1, hsm2⟩ := hrel
        have HS2 : Hid (∀ i sa sl sc, i < k → w.cell? ⟨b2, o2 + i * 2 + 1, none⟩ = some (.slice sa sl sc) → sl ≤ 1048576) := hsm2
        clear hsm2
        by_cases hlt : k < n2
        · obtain ⟨key, sa, sl, sc, a1, a2, hkey, hsl, _, b', o', s1, s2⟩ := g2 k hlt
          clear g2
          unfold maxLen at hkey hsl
          by_cases c1 : z2 + key.size + sl ≤ 1048576
          · have HN : Hid (∀ i sa sl sc, i < k + 1 → w.cell? ⟨b2, o2 + i * 2 + 1, none⟩ = some (.slice sa sl sc) → sl ≤ 1048576) := small_step HS2.out a2 (by omega)
            clear HS2
            by_cases hs0 : sl = 0
            · subst hs0
              clear s1 s2
              go_wp2
              refine wp_loop_rounds 1 ?_
              rw [rounds_succ]
              go_wp2
              go_round
              case rel => exact ⟨k + 1, _, by omega, by go_num, rfl, by omega, by omega, HN.out⟩
              case measure => simp [intOf]; omega
            · obtain rfl := s1 (by omega)
              clear s1 hs0
              go_wp2
              go_loop [17, 21] (fun x j => ∃ (q : Nat) (z : Int), q ≤ sl ∧ j = .int .i64 q ∧ x = .int .i64 z ∧ 0 ≤ z ∧ z ≤ 1048576) (fun _ j => sl - (intOf j).toNat)
              case atStart => exact ⟨0, _, by omega, rfl, rfl, by omega, by omega⟩
              case round =>
                clear hz0 hz1 c1
                obtain ⟨q, z, hq, rfl, rfl, hz0, hz1⟩ := hrel
                by_cases hqt : q < sl
                · obtain ⟨v, hv, hvs⟩ := s2 q hqt
                  clear s2
                  unfold maxLen at hvs
                  by_cases c3 : z + v.size ≤ 1048576
                  · go_wp2
                    go_round
                    case rel => exact ⟨q + 1, _, by omega, by go_num, rfl, by omega, by omega⟩
                    case measure => simp [intOf]; omega
                  · go_wp2
                    all_goals
                      go_ret
                      exact zz_no _ _
                · clear s2
                  go_wp2
                  go_round
                  case rel => exact ⟨k + 1, _, by omega, by go_num, rfl, by omega, by omega, HN.out⟩
                  case measure => simp [intOf]; omega
          · clear s1 s2 HS2
            go_wp2
            all_goals
              go_ret
              exact zz_no _ _
        · have e2 : k = n2 := by omega
          have HF2 : Hid (∀ i sa sl sc, i < n2 → w.cell? ⟨b2, o2 + i * 2 + 1, none⟩ = some (.slice sa sl sc) → sl ≤ 1048576) := by have := HS2.out; rw [e2] at this; exact this
          clear HS2 e2
          go_wp2
          go_ret
          exact ⟨true, rfl, fun _ => ⟨by omega, ⟨by omega, fun _ _ _ _ _ _ _ h => by omega⟩, ⟨by omega, fun b o i sa sl sc e hi hc => by cases e; exact HF2.out i sa sl sc hi hc⟩⟩, rfl⟩
    · go_wp2
      all_goals
        go_ret
        exact zz_no _ _
  · clear g2
    go_enter Try.func7, Try.ntmps7
    go_wp2
    all_goals
      go_ret
      exact zz_no _ _
set_option maxRecDepth 100000 in
set_option maxHeartbeats 4000000 in
theorem zz_11 (w : World) (h op role : Int) (key0 val0 : ByteArray) (ka : Option Addr) (kn kc : Nat) (b1 o1 n1 cap1 : Nat) (b2 o2 n2 cap2 : Nat) (hk0 : key0.size ≤ maxLen) (hv0 : val0.size ≤ maxLen) (hkn : kn ≤ maxLen) (hn1 : n1 ≤ maxLen) (g1 : HdrRd w b1 o1 n1) (hn2 : n2 ≤ maxLen) (g2 : HdrRd w b2 o2 n2) :
    Calls Try.prog 7 #[.int .u8 h, .string key0, .string val0, .int .u8 op, .int .u8 role, .slice ka kn kc, .slice (some ⟨b1, o1, none⟩) n1 cap1, .slice (some ⟨b2, o2, none⟩) n2 cap2] w fun e w' => ZzRes (kn ≤ 1048576 ∧ HdrSmall w (some ⟨b1, o1, none⟩) n1 ∧ HdrSmall w (some ⟨b2, o2, none⟩) n2) w e w' := by
  unfold maxLen at *
  by_cases c0 : key0.size + val0.size + kn + n1 ≤ 1048576
  · go_enter Try.func7, Try.ntmps7
    go_wp2
    go_loop [17, 18] (fun x i => ∃ (k : Nat) (z : Int), k ≤ n1 ∧ i = .int .i64 k ∧ x = .int .i64 z ∧ 0 ≤ z ∧ z ≤ 1048576 ∧ (∀ i sa sl sc, i < k → w.cell? ⟨b1, o1 + i * 2 + 1, none⟩ = some (.slice sa sl sc) → sl ≤ 1048576)) (fun _ i => n1 - (intOf i).toNat)
    case atStart => exact ⟨0, _, by omega, rfl, rfl, by omega, by omega, fun i sa sl sc hi => by omega⟩
    case round =>
      obtain ⟨k, z1, hk, rfl, rfl, hz0, hz1, hsm1⟩ := hrel
      have HS1 : Hid (∀ i sa sl sc, i < k → w.cell? ⟨b1, o1 + i * 2 + 1, none⟩ = some (.slice sa sl sc) → sl ≤ 1048576) := hsm1
      clear hsm1
      by_cases hlt : k < n1
      · obtain ⟨key, sa, sl, sc, a1, a2, hkey, hsl, _, b', o', s1, s2⟩ := g1 k hlt
        clear g1 g2
        unfold maxLen at hkey hsl
        by_cases c1 : z1 + key.size + sl ≤ 1048576
        · have HN : Hid (∀ i sa sl sc, i < k + 1 → w.cell? ⟨b1, o1 + i * 2 + 1, none⟩ = some (.slice sa sl sc) → sl ≤ 1048576) := small_step HS1.out a2 (by omega)
          clear HS1
          by_cases hs0 : sl = 0
          · subst hs0
            clear s1 s2
            go_wp2
            refine wp_loop_rounds 1 ?_
            rw [rounds_succ]
            go_wp2
            go_round
            case rel => exact ⟨k + 1, _, by omega, by go_num, rfl, by omega, by omega, HN.out⟩
            case measure => simp [intOf]; omega
          · obtain rfl := s1 (by omega)
            clear s1 hs0
            go_wp2
            go_loop [17, 19] (fun x j => ∃ (q : Nat) (z : Int), q ≤ sl ∧ j = .int .i64 q ∧ x = .int .i64 z ∧ 0 ≤ z ∧ z ≤ 1048576) (fun _ j => sl - (intOf j).toNat)
            case atStart => exact ⟨0, _, by omega, rfl, rfl, by omega, by omega⟩
            case round =>
              clear hz0 hz1 c1
              obtain ⟨q, z, hq, rfl, rfl, hz0, hz1⟩ := hrel
              by_cases hqt : q < sl
              · obtain ⟨v, hv, hvs⟩ := s2 q hqt
                clear s2
                unfold maxLen at hvs
                by_cases c3 : z + v.size ≤ 1048576
                · go_wp2
                  go_round
                  case rel => exact ⟨q + 1, _, by omega, by go_num, rfl, by omega, by omega⟩
                  case measure => simp [intOf]; omega
                · go_wp2
                  all_goals
                    go_ret
                    exact zz_no _ _
              · clear s2
                go_wp2
                go_round
                case rel => exact ⟨k + 1, _, by omega, by go_num, rfl, by omega, by omega, HN.out⟩
                case measure => simp [intOf]; omega
        · clear s1 s2 HS1
          go_wp2
          all_goals
            go_ret
            exact zz_no _ _
      · have e1 : k = n1 := by omega
        have HF1 : Hid (∀ i sa sl sc, i < n1 → w.cell? ⟨b1, o1 + i * 2 + 1, none⟩ = some (.slice sa sl sc) → sl ≤ 1048576) := by have := HS1.out; rw [e1] at this; exact this
        clear HS1 e1
        by_cases cm : z1 + n2 ≤ 1048576
        · go_wp2
          go_loop [17, 20] (fun x i => ∃ (k : Nat) (z : Int), k ≤ n2 ∧ i = .int .i64 k ∧ x = .int .i64 z ∧ 0 ≤ z ∧ z ≤ 1048576 ∧ (∀ i sa sl sc, i < k → w.cell? ⟨b2, o2 + i * 2 + 1, none⟩ = some (.slice sa sl sc) → sl ≤ 1048576)) (fun _ i => n2 - (intOf i).toNat)
          case atStart => exact ⟨0, _, by omega, rfl, rfl, by omega, by omega, fun i sa sl sc hi => by omega⟩
          case round =>
            obtain ⟨k, z2, hk, rfl, rfl, hz0, hz1, hsm2⟩ := hrel
            have HS2 : Hid (∀ i sa sl sc, i < k → w.cell? ⟨b2, o2 + i * 2 + 1, none⟩ = some (.slice sa sl sc) → sl ≤ 1048576) := hsm2
            clear hsm2
            by_cases hlt : k < n2
            · obtain ⟨key, sa, sl, sc, a1, a2, hkey, hsl, _, b', o', s1, s2⟩ := g2 k hlt
              clear g2
              unfold maxLen at hkey hsl
              by_cases c1 : z2 + key.size + sl ≤ 1048576
              · have HN : Hid (∀ i sa sl sc, i < k + 1 → w.cell? ⟨b2, o2 + i * 2 + 1, none⟩ = some (.slice sa sl sc) → sl ≤ 1048576) := small_step HS2.out a2 (by omega)
                clear HS2
                by_cases hs0 : sl = 0
                · subst hs0
                  clear s1 s2
                  go_wp2
                  refine wp_loop_rounds 1 ?_
                  rw [rounds_succ]
                  go_wp2
                  go_round
                  case rel => exact ⟨k + 1, _, by omega, by go_num, rfl, by omega, by omega, HN.out⟩
                  case measure => simp [intOf]; omega
                · obtain rfl := s1 (by omega)
                  clear s1 hs0
                  go_wp2
                  go_loop [17, 21] (fun x j => ∃ (q : Nat) (z : Int), q ≤ sl ∧ j = .int .i64 q ∧ x = .int .i64 z ∧ 0 ≤ z ∧ z ≤ 1048576) (fun _ j => sl - (intOf j).toNat)
                  case atStart => exact ⟨0, _, by omega, rfl, rfl, by omega, by omega⟩
                  case round =>
                    clear hz0 hz1 c1
                    obtain ⟨q, z, hq, rfl, rfl, hz0, hz1⟩ := hrel
                    by_cases hqt : q < sl
                    · obtain ⟨v, hv, hvs⟩ := s2 q hqt
                      clear s2
                      unfold maxLen at hvs
                      by_cases c3 : z + v.size ≤ 1048576
                      · go_wp2
                        go_round
                        case rel => exact ⟨q + 1, _, by omega, by go_num, rfl, by omega, by omega⟩
                        case measure => simp [intOf]; omega
                      · go_wp2
                        all_goals
                          go_ret
                          exact zz_no _ _
                    · clear s2
                      go_wp2
                      go_round
                      case rel => exact ⟨k + 1, _, by omega, by go_num, rfl, by omega, by omega, HN.out⟩
                      case measure => simp [intOf]; omega
              · clear s1 s2 HS2
                go_wp2
                all_goals
                  go_ret
                  exact zz_no _ _
            · have e2 : k = n2 := by omega
              have HF2 : Hid (∀ i sa sl sc, i < n2 → w.cell? ⟨b2, o2 + i * 2 + 1, none⟩ = some (.slice sa sl sc) → sl ≤ 1048576) := by have := HS2.out; rw [e2] at this; exact this
              clear HS2 e2
              go_wp2
              go_ret
              exact ⟨true, rfl, fun _ => ⟨by omega, ⟨by omega, fun b o i sa sl sc e hi hc => by cases e; exact HF1.out i sa sl sc hi hc⟩, ⟨by omega, fun b o i sa sl sc e hi hc => by cases e; exact HF2.out i sa sl sc hi hc⟩⟩, rfl⟩
        · go_wp2
          all_goals
            go_ret
            exact zz_no _ _
  · clear g1 g2
    go_enter Try.func7, Try.ntmps7
    go_wp2
    all_goals
      go_ret
      exact zz_no _ _
end Go.Proofs.Qxb6603097a.filterWalks
