import Derived.Test.Qxb6603097aZz
import Derived.Test.Qxb6603097aHolds
namespace Go.Proofs.Qxb6603097a.filterWalks
open Go.ChangeShapes Go.WideShapes Go.ChangeAt Go.RowKit Go.Maps
set_option linter.unusedVariables false

theorem hdrIn_below {w w' : World} {ao : Option Addr} {n : Nat} (h : HdrIn w ao n) (hb : Below w.heap.size w w') : HdrIn w' ao n := by
  obtain ⟨h0, b, o, h1, h2⟩ := h
  refine ⟨h0, b, o, h1, fun i hi => ?_⟩
  obtain ⟨key, sa, sl, sc, a1, a2, c1, c2, hs⟩ := h2 i hi
  exact ⟨key, sa, sl, sc, by rw [hb.cell (lt_of_cell a1)]; exact a1, by rw [hb.cell (lt_of_cell a2)]; exact a2, c1, c2, strIn_below hs hb⟩
theorem hdrSmall_below {w w' : World} {ao : Option Addr} {n : Nat} (h : HdrIn w ao n) (hs : HdrSmall w ao n) (hb : Below w.heap.size w w') : HdrSmall w' ao n := by
  refine ⟨hs.1, fun b o i sa sl sc e hi hc => ?_⟩
  obtain ⟨_, b', o', h1, h2⟩ := h
  have e' := h1 (by omega)
  rw [e] at e'
  simp only [Option.some.injEq, Addr.mk.injEq, and_true] at e'
  obtain ⟨rfl, rfl⟩ := e'
  obtain ⟨key, sa', sl', sc', _, a2, _⟩ := h2 i hi
  refine hs.2 b o i sa sl sc e hi ?_
  rw [hb.cell (lt_of_cell a2)] at hc
  exact hc
theorem hdrUp_below {w w' : World} {lo : Nat} {ao : Option Addr} {n : Nat} (h : HdrUp w lo ao n) (hb : Below w.heap.size w w') : HdrUp w' lo ao n := by
  obtain ⟨h0, g, hg, h1, h2⟩ := h
  refine ⟨h0, g, hg, h1, fun i hi => ?_⟩
  obtain ⟨key, sa, sl, sc, a1, a2, c1, c2, hs⟩ := h2 i hi
  exact ⟨key, sa, sl, sc, by rw [hb.cell (lt_of_cell a1)]; exact a1, by rw [hb.cell (lt_of_cell a2)]; exact a2, c1, c2, strUp_below hs hb⟩

theorem hdr_rd {w : World} {ao : Option Addr} {n : Nat} (h : HdrIn w ao n) (hz : ¬ n = 0) : ∃ b o, ao = some ⟨b, o, none⟩ ∧ HdrRd w b o n := by
  obtain ⟨_, b, o, h1, h2⟩ := h
  exact ⟨b, o, h1 (by omega), h2⟩

theorem zzb_any (w : World) (h op role : Int) (key val : ByteArray) (ka : Option Addr) (kn kc : Nat) (a1 : Option Addr) (n1 cap1 : Nat) (a2 : Option Addr) (n2 cap2 : Nat) (hk : key.size ≤ maxLen) (hv : val.size ≤ maxLen) (hkn : kn ≤ maxLen)
    (hn1 : n1 ≤ maxLen) (hn2 : n2 ≤ maxLen) (g1 : HdrIn w a1 n1) (g2 : HdrIn w a2 n2) :
    Calls Try.prog 7 #[.int .u8 h, .string key, .string val, .int .u8 op, .int .u8 role, .slice ka kn kc, .slice a1 n1 cap1, .slice a2 n2 cap2] w fun e w' => ZzRes (kn ≤ 1048576 ∧ HdrSmall w a1 n1 ∧ HdrSmall w a2 n2) w e w' := by
  by_cases z1 : n1 = 0
  · subst z1
    by_cases z2 : n2 = 0
    · subst z2
      exact zz_00 w h op role key val ka kn kc a1 cap1 a2 cap2 hk hv hkn
    · obtain ⟨b2, o2, rfl, r2⟩ := hdr_rd g2 z2
      exact zz_01 w h op role key val ka kn kc a1 cap1 b2 o2 n2 cap2 hk hv hkn hn2 r2
  · obtain ⟨b1, o1, rfl, r1⟩ := hdr_rd g1 z1
    by_cases z2 : n2 = 0
    · subst z2
      exact zz_10 w h op role key val ka kn kc b1 o1 n1 cap1 a2 cap2 hk hv hkn hn1 r1
    · obtain ⟨b2, o2, rfl, r2⟩ := hdr_rd g2 z2
      exact zz_11 w h op role key val ka kn kc b1 o1 n1 cap1 b2 o2 n2 cap2 hk hv hkn hn1 r1 hn2 r2

theorem args_any (w : World) (key val : ByteArray) (ka : Option Addr) (kn kc : Nat) (a1 : Option Addr) (n1 cap1 : Nat) (a2 : Option Addr) (n2 cap2 : Nat) (hk : key.size ≤ maxLen) (hv : val.size ≤ maxLen) (hkn : kn ≤ maxLen)
    (hn1 : n1 ≤ maxLen) (hn2 : n2 ≤ maxLen) (g1 : HdrIn w a1 n1) (g2 : HdrIn w a2 n2) :
    Calls Try.prog 8 #[.string key, .string val, .slice ka kn kc, .slice a1 n1 cap1, .slice a2 n2 cap2] w fun e w' => AddRes w e w' := by
  unfold maxLen at hk hv hkn
  go_enter Try.func8, Try.ntmps8
  go_wp2_with fail
  refine (addBytes_any _ _ _ (by omega) (by omega) (by omega)).mono ?_
  rintro e w' ⟨t1, rfl, p0, p1, rfl⟩
  go_wp2_with fail
  refine (addBytes_any _ _ _ p0 p1 (by omega)).mono ?_
  rintro e w' ⟨t2, rfl, q0, q1, rfl⟩
  go_wp2_with fail
  refine (addBytes_any _ _ _ q0 q1 (by omega)).mono ?_
  rintro e w' ⟨t3, rfl, r0, r1, rfl⟩
  go_wp2_with fail
  refine (hdrBytes_any _ _ _ _ _ r0 r1 hn1 g1).mono ?_
  rintro e w' ⟨t4, rfl, s0, s1, rfl⟩
  go_wp2_with fail
  refine (hdrBytes_any _ _ _ _ _ s0 s1 hn2 g2).mono ?_
  rintro e w' ⟨t5, rfl, u0, u1, rfl⟩
  go_wp2
  go_ret
  exact ⟨t5, rfl, u0, u1, rfl⟩
end Go.Proofs.Qxb6603097a.filterWalks
