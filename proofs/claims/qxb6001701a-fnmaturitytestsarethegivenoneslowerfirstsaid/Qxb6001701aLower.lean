import Derived.Test.Qxb6001701aTests
import Derived.Lib.Builder
namespace Go.Proofs.Qxb6001701a.keysWalks
open Go.ChangeShapes Go.WideShapes Go.ChangeAt Go.RowKit
set_option linter.unusedSimpArgs false

theorem K_pre (q : Nat → Option Addr) (k m : Nat) (h : k ≤ m) : ∃ l, K q m = K q k ++ l := by
  induction m with
  | zero => exact ⟨[], by simp [show k = 0 by omega]⟩
  | succ m ih =>
    by_cases e : k = m + 1
    · exact ⟨[], by simp [e]⟩
    · obtain ⟨l, hl⟩ := ih (by omega)
      cases hq : q m with
      | none => exact ⟨l, by rw [K_no hq]; exact hl⟩
      | some a => exact ⟨l ++ [m], by rw [K_yes hq, hl]; simp⟩
theorem K_idx {q : Nat → Option Addr} {k : Nat} {a : Addr} (h : q k = some a) (hk : k < 4) : (K q 4)[(K q k).length]? = some k := by
  obtain ⟨l, hl⟩ := K_pre q (k + 1) 4 (by omega)
  rw [hl, K_yes h]; simp
theorem K_lt {q : Nat → Option Addr} {k : Nat} {a : Addr} (h : q k = some a) (hk : k < 4) : (K q k).length < (K q 4).length := by
  have := K_idx h hk
  exact (List.getElem?_eq_some_iff.mp this).1
theorem K_sorted (q : Nat → Option Addr) (m i : Nat) (h : (K q 4)[m + 1]? = some i) (hl : lat i = true) : ∃ i', (K q 4)[m]? = some i' ∧ lat i' = true := by
  revert h hl
  simp only [K]
  rcases q 0 with _ | a0 <;> rcases q 1 with _ | a1 <;> rcases q 2 with _ | a2 <;> rcases q 3 with _ | a3 <;>
    (simp only [Option.isSome_none, Option.isSome_some, Bool.false_eq_true, if_true, if_false, List.nil_append, List.cons_append]
     match m with
     | 0 => simp; try (rintro rfl; simp [lat])
     | 1 => simp; try (rintro rfl; simp [lat])
     | 2 => simp; try (rintro rfl; simp [lat])
     | m + 3 => simp)

theorem four_below {w w' : World} {g B : Nat} {q : Nat → Option Addr} (h : Four w g q) (hb : Below B w w') (hg : g < B) : Four w' g q := by
  obtain ⟨h0, h1, h2, h3⟩ := h
  refine ⟨?_, ?_, ?_, ?_⟩ <;> (rw [hb.cell (by exact hg)]; assumption)

theorem K_ne {q : Nat → Option Addr} {a0 a1 a2 a3 : Bool} (i0 : (q 0).isSome = a0) (i1 : (q 1).isSome = a1) (i2 : (q 2).isSome = a2) (i3 : (q 3).isSome = a3) (hne : (a0 || a1 || a2 || a3) = true) : K q 4 ≠ [] := by
  subst i0; subst i1; subst i2; subst i3
  revert hne
  simp only [K]
  rcases q 0 with _ | a0 <;> rcases q 1 with _ | a1 <;> rcases q 2 with _ | a2 <;> rcases q 3 with _ | a3 <;> simp

theorem opt_cases (o : Option Addr) : o = none ∨ ∃ a, o = some a := by cases o <;> simp

theorem isSome52 : (Try.prog.info? 52).isSome = true := by kernel_rfl
theorem info32 : ∃ j, Try.prog.info? 52 = some j := Option.isSome_iff_exists.mp isSome52
theorem neq_ptr (w : World) (a : Addr) : (binOp .neq 32 (.pointer (some a)) (.pointer (some a))).run Try.prog w = .ok (.bool false) w := by
  obtain ⟨j, hj⟩ := info32
  exact Lib.run_neq_ptr_same w a Try.underlying32 hj

/-- What the two loops read, in the world that they run in. -/
def Reads (w : World) (q : Nat → Option Addr) (A g T : Nat) : Prop := Four w A q ∧ OutRow w g q (K q 4) ∧ TestRow w T q

theorem reads_of {w1 w2 w3 : World} {q : Nat → Option Addr} {g : Nat} (hout : OutRow w2 g q (K q 4)) (hg2 : g < w2.heap.size) (hb2 : Below (w1.alloc (.cells #[.pointer (q 0), .pointer (q 1), .pointer (q 2), .pointer (q 3)] 35)).drew.heap.size (w1.alloc (.cells #[.pointer (q 0), .pointer (q 1), .pointer (q 2), .pointer (q 3)] 35)).drew w2)
    (htr : TestRow w3 (w2.heap.size + 1 + 1) q) (hb3 : Below w2.heap.size w2 w3) : Reads w3 q w1.heap.size g (w2.heap.size + 1 + 1) := by
  have hsz := hb2.size
  simp at hsz
  have hA : Four (w1.alloc (.cells #[.pointer (q 0), .pointer (q 1), .pointer (q 2), .pointer (q 3)] 35)).drew w1.heap.size q := ⟨by simp, by simp, by simp, by simp⟩
  refine ⟨four_below (four_below hA hb2 (by simp)) hb3 (by omega), ?_, htr⟩
  intro j i hj
  obtain ⟨h0, h1, h2⟩ := hout j i hj
  refine ⟨?_, ?_, ?_⟩ <;> (rw [hb3.cell (by exact hg2)]; assumption)

set_option maxHeartbeats 4000000 in
theorem walk_some (a0 a1 a2 a3 : Bool) (hne : (a0 || a1 || a2 || a3) = true) (w : World) :
    Calls Try.prog 5 #[.bool a0, .bool a1, .bool a2, .bool a3] w fun e w' => e = .returned (.bool true) ∧ Below w.heap.size w w' := by
  have hnp := neq_ptr
  go_enter Try.func5, Try.ntmps5
  go_wp2_with (go_at_call 11; refine (maturity_any a0 a1 a2 a3 _).mono ?_; rintro e w1 ⟨q, rfl, hq, i0, i1, i2, i3, hs1, hb1⟩)
  have hK := K_ne i0 i1 i2 i3 hne
  clear i0 i1 i2 i3 hne
  obtain ⟨q0, q1, q2, q3⟩ := hq
  go_region_held3 (fun w' => w'.cell? ⟨w.heap.size, 0, none⟩ = some (.pointer (q 0)) ∧ w'.cell? ⟨w.heap.size, 1, none⟩ = some (.pointer (q 1)) ∧ w'.cell? ⟨w.heap.size, 2, none⟩ = some (.pointer (q 2)) ∧ w'.cell? ⟨w.heap.size, 3, none⟩ = some (.pointer (q 3))) (go_keep) (fail)
  go_wp2_with (first | (go_at_call 15; refine (tests_some w.heap.size q _ ?hq hK).mono ?_; (case hq => assumption); rintro e w2 ⟨g, cap, rfl, hout, hg1, hg2, hb2⟩) | (go_at_call 12; refine (zzkeys_any w.heap.size q w2 ?hq2).mono ?_; (case hq2 => exact four_below (by assumption) hb2 (by simp; omega)); rintro e w3 ⟨rfl, hnm, htr, hs3, hb3⟩))
  have hR := reads_of hout hg2 hb2 htr hb3
  have hsz2 := hb2.size
  simp at hsz2
  have hB3 : Below w.heap.size w w3 := (((hb1.alloc (by omega) _).drew).trans (hb2.mono (by simp; omega))).trans (hb3.mono (by omega))
  clear hout hg1 hg2 hb2 htr hb3 hnm hb1 q0 q1 q2 q3
  clear hsz2 hs3
  go_loopw [14, 15] (fun j i wr => ∃ k : Nat, k ≤ 4 ∧ i = .int .i64 k ∧ j = .int .i64 ((K q k).length : Nat) ∧ Reads wr q w1.heap.size g (w2.heap.size + 1 + 1) ∧ Below w.heap.size w wr) (fun _ i _ => 4 - (intOf i).toNat)
  case atStart => exact ⟨0, by omega, rfl, rfl, hR, hB3⟩
  case round =>
    clear hR hB3
    obtain ⟨k, hk4, rfl, rfl, hR, hB⟩ := hrel
    have hl4 := K_le q 4
    by_cases hlt : k < 4
    · have hsp : k = 0 ∨ k = 1 ∨ k = 2 ∨ k = 3 := by omega
      rcases hsp with rfl | rfl | rfl | rfl
      · obtain ⟨f0, f1, f2, f3⟩ := hR.1
        have hl := K_le q 0
        rcases opt_cases (q 0) with hqk | ⟨ad, hqk⟩
        · rw [hqk] at f0
          have R : (K q (0 + 1)).length = (K q 0).length := by rw [K_no hqk]
          clear f1 f2 f3
          have HR : Hid (Reads wr q w1.heap.size g (w2.heap.size + 1 + 1)) := hR
          clear hR hqk
          go_wp2
          go_roundw
          case rel => exact ⟨0 + 1, by omega, rfl, by rw [R], HR.out, hB⟩
          case measure => simp [intOf]
        · rw [hqk] at f0
          have R : (K q (0 + 1)).length = (K q 0).length + 1 := by rw [K_yes hqk]; simp
          have hlt2 := K_lt hqk (by omega)
          obtain ⟨c0, c1, c2⟩ := hR.2.1 _ _ (K_idx hqk (by omega))
          obtain ⟨t0, t1, t2⟩ := hR.2.2 0 (by omega)
          simp only [Nat.zero_mul, Nat.one_mul, Nat.zero_add, Nat.reduceMul, Nat.reduceAdd] at t0 t1 t2
          rw [hqk] at c0 t0
          clear f1 f2 f3 t0
          have HR : Hid (Reads wr q w1.heap.size g (w2.heap.size + 1 + 1)) := hR
          have Hr : Hid ((K q (0 + 1)).length = (K q 0).length + 1) := R
          clear hR hqk R
          have b1 : (0 : Int) ≤ ((K q 0).length : Int) := by omega
          have b2 : ((K q 0).length : Int) < ((K q 4).length : Int) := by omega
          go_wp2
          go_region_held3 (fun w' => w'.cell? ⟨w1.heap.size, 0, none⟩ = some (.pointer (some ad)) ∧ w'.cell? ⟨g, (K q 0).length * 3, none⟩ = some (.pointer (some ad)) ∧ w'.cell? ⟨g, (K q 0).length * 3 + 1, none⟩ = some (.bool (lat 0)) ∧ w'.cell? ⟨g, (K q 0).length * 3 + 2, none⟩ = some (.bool (on 0)) ∧ w'.cell? ⟨w2.heap.size + 1 + 1, 1, none⟩ = some (.bool (lat 0)) ∧ w'.cell? ⟨w2.heap.size + 1 + 1, 2, none⟩ = some (.bool (on 0))) (go_keep) (fail)
          go_wp2
          go_roundw
          case rel => exact ⟨0 + 1, by omega, rfl, by rw [Hr.out]; go_num, HR.out, hB.drew⟩
          case measure => simp [intOf]
      · obtain ⟨f0, f1, f2, f3⟩ := hR.1
        have hl := K_le q 1
        rcases opt_cases (q 1) with hqk | ⟨ad, hqk⟩
        · rw [hqk] at f1
          have R : (K q (1 + 1)).length = (K q 1).length := by rw [K_no hqk]
          clear f0 f2 f3
          have HR : Hid (Reads wr q w1.heap.size g (w2.heap.size + 1 + 1)) := hR
          clear hR hqk
          go_wp2
          go_roundw
          case rel => exact ⟨1 + 1, by omega, rfl, by rw [R], HR.out, hB⟩
          case measure => simp [intOf]
        · rw [hqk] at f1
          have R : (K q (1 + 1)).length = (K q 1).length + 1 := by rw [K_yes hqk]; simp
          have hlt2 := K_lt hqk (by omega)
          obtain ⟨c0, c1, c2⟩ := hR.2.1 _ _ (K_idx hqk (by omega))
          obtain ⟨t0, t1, t2⟩ := hR.2.2 1 (by omega)
          simp only [Nat.zero_mul, Nat.one_mul, Nat.zero_add, Nat.reduceMul, Nat.reduceAdd] at t0 t1 t2
          rw [hqk] at c0 t0
          clear f0 f2 f3 t0
          have HR : Hid (Reads wr q w1.heap.size g (w2.heap.size + 1 + 1)) := hR
          have Hr : Hid ((K q (1 + 1)).length = (K q 1).length + 1) := R
          clear hR hqk R
          have b1 : (0 : Int) ≤ ((K q 1).length : Int) := by omega
          have b2 : ((K q 1).length : Int) < ((K q 4).length : Int) := by omega
          go_wp2
          go_region_held3 (fun w' => w'.cell? ⟨w1.heap.size, 1, none⟩ = some (.pointer (some ad)) ∧ w'.cell? ⟨g, (K q 1).length * 3, none⟩ = some (.pointer (some ad)) ∧ w'.cell? ⟨g, (K q 1).length * 3 + 1, none⟩ = some (.bool (lat 1)) ∧ w'.cell? ⟨g, (K q 1).length * 3 + 2, none⟩ = some (.bool (on 1)) ∧ w'.cell? ⟨w2.heap.size + 1 + 1, 4, none⟩ = some (.bool (lat 1)) ∧ w'.cell? ⟨w2.heap.size + 1 + 1, 5, none⟩ = some (.bool (on 1))) (go_keep) (fail)
          go_wp2
          go_roundw
          case rel => exact ⟨1 + 1, by omega, rfl, by rw [Hr.out]; go_num, HR.out, hB.drew⟩
          case measure => simp [intOf]
      · obtain ⟨f0, f1, f2, f3⟩ := hR.1
        have hl := K_le q 2
        rcases opt_cases (q 2) with hqk | ⟨ad, hqk⟩
        · rw [hqk] at f2
          have R : (K q (2 + 1)).length = (K q 2).length := by rw [K_no hqk]
          clear f0 f1 f3
          have HR : Hid (Reads wr q w1.heap.size g (w2.heap.size + 1 + 1)) := hR
          clear hR hqk
          go_wp2
          go_roundw
          case rel => exact ⟨2 + 1, by omega, rfl, by rw [R], HR.out, hB⟩
          case measure => simp [intOf]
        · rw [hqk] at f2
          have R : (K q (2 + 1)).length = (K q 2).length + 1 := by rw [K_yes hqk]; simp
          have hlt2 := K_lt hqk (by omega)
          obtain ⟨c0, c1, c2⟩ := hR.2.1 _ _ (K_idx hqk (by omega))
          obtain ⟨t0, t1, t2⟩ := hR.2.2 2 (by omega)
          simp only [Nat.zero_mul, Nat.one_mul, Nat.zero_add, Nat.reduceMul, Nat.reduceAdd] at t0 t1 t2
          rw [hqk] at c0 t0
          clear f0 f1 f3 t0
          have HR : Hid (Reads wr q w1.heap.size g (w2.heap.size + 1 + 1)) := hR
          have Hr : Hid ((K q (2 + 1)).length = (K q 2).length + 1) := R
          clear hR hqk R
          have b1 : (0 : Int) ≤ ((K q 2).length : Int) := by omega
          have b2 : ((K q 2).length : Int) < ((K q 4).length : Int) := by omega
          go_wp2
          go_region_held3 (fun w' => w'.cell? ⟨w1.heap.size, 2, none⟩ = some (.pointer (some ad)) ∧ w'.cell? ⟨g, (K q 2).length * 3, none⟩ = some (.pointer (some ad)) ∧ w'.cell? ⟨g, (K q 2).length * 3 + 1, none⟩ = some (.bool (lat 2)) ∧ w'.cell? ⟨g, (K q 2).length * 3 + 2, none⟩ = some (.bool (on 2)) ∧ w'.cell? ⟨w2.heap.size + 1 + 1, 7, none⟩ = some (.bool (lat 2)) ∧ w'.cell? ⟨w2.heap.size + 1 + 1, 8, none⟩ = some (.bool (on 2))) (go_keep) (fail)
          go_wp2
          go_roundw
          case rel => exact ⟨2 + 1, by omega, rfl, by rw [Hr.out]; go_num, HR.out, hB.drew⟩
          case measure => simp [intOf]
      · obtain ⟨f0, f1, f2, f3⟩ := hR.1
        have hl := K_le q 3
        rcases opt_cases (q 3) with hqk | ⟨ad, hqk⟩
        · rw [hqk] at f3
          have R : (K q (3 + 1)).length = (K q 3).length := by rw [K_no hqk]
          clear f0 f1 f2
          have HR : Hid (Reads wr q w1.heap.size g (w2.heap.size + 1 + 1)) := hR
          clear hR hqk
          go_wp2
          go_roundw
          case rel => exact ⟨3 + 1, by omega, rfl, by rw [R], HR.out, hB⟩
          case measure => simp [intOf]
        · rw [hqk] at f3
          have R : (K q (3 + 1)).length = (K q 3).length + 1 := by rw [K_yes hqk]; simp
          have hlt2 := K_lt hqk (by omega)
          obtain ⟨c0, c1, c2⟩ := hR.2.1 _ _ (K_idx hqk (by omega))
          obtain ⟨t0, t1, t2⟩ := hR.2.2 3 (by omega)
          simp only [Nat.zero_mul, Nat.one_mul, Nat.zero_add, Nat.reduceMul, Nat.reduceAdd] at t0 t1 t2
          rw [hqk] at c0 t0
          clear f0 f1 f2 t0
          have HR : Hid (Reads wr q w1.heap.size g (w2.heap.size + 1 + 1)) := hR
          have Hr : Hid ((K q (3 + 1)).length = (K q 3).length + 1) := R
          clear hR hqk R
          have b1 : (0 : Int) ≤ ((K q 3).length : Int) := by omega
          have b2 : ((K q 3).length : Int) < ((K q 4).length : Int) := by omega
          go_wp2
          go_region_held3 (fun w' => w'.cell? ⟨w1.heap.size, 3, none⟩ = some (.pointer (some ad)) ∧ w'.cell? ⟨g, (K q 3).length * 3, none⟩ = some (.pointer (some ad)) ∧ w'.cell? ⟨g, (K q 3).length * 3 + 1, none⟩ = some (.bool (lat 3)) ∧ w'.cell? ⟨g, (K q 3).length * 3 + 2, none⟩ = some (.bool (on 3)) ∧ w'.cell? ⟨w2.heap.size + 1 + 1, 10, none⟩ = some (.bool (lat 3)) ∧ w'.cell? ⟨w2.heap.size + 1 + 1, 11, none⟩ = some (.bool (on 3))) (go_keep) (fail)
          go_wp2
          go_roundw
          case rel => exact ⟨3 + 1, by omega, rfl, by rw [Hr.out]; go_num, HR.out, hB.drew⟩
          case measure => simp [intOf]
    · have e4 : k = 4 := by omega
      subst e4
      clear hlt hk4
      have hO := hR.2.1
      clear hR
      go_wp2
      go_loop [16] (fun i => ∃ m : Nat, 1 ≤ m ∧ m ≤ 4 ∧ i = .int .i64 m) (fun i => 5 - (intOf i).toNat)
      case atStart => exact ⟨1, by omega, by omega, rfl⟩
      case round =>
        obtain ⟨m, hm1, hm4, rfl⟩ := hrel
        by_cases hlt : m < (K q 4).length
        · have hsp : m = 1 ∨ m = 2 ∨ m = 3 := by omega
          rcases hsp with rfl | rfl | rfl
          · obtain ⟨x, hx⟩ : ∃ x, (K q 4)[1]? = some x := ⟨_, List.getElem?_eq_getElem hlt⟩
            have c1 := (hO _ _ hx).2.1
            simp only [Nat.zero_mul, Nat.one_mul, Nat.zero_add, Nat.reduceMul, Nat.reduceAdd] at c1
            cases hlx : lat x
            · rw [hlx] at c1
              clear hO hx hlx
              go_wp2
              go_round
              case rel => exact ⟨1 + 1, by omega, by omega, rfl⟩
              case measure => simp [intOf]
            · rw [hlx] at c1
              obtain ⟨y, hy, hly⟩ := K_sorted q 0 x hx hlx
              have c0 := (hO _ _ hy).2.1
              simp only [Nat.zero_mul, Nat.one_mul, Nat.zero_add, Nat.reduceMul, Nat.reduceAdd] at c0
              rw [hly] at c0
              clear hO hx hlx hy hly
              go_wp2
              go_round
              case rel => exact ⟨1 + 1, by omega, by omega, rfl⟩
              case measure => simp [intOf]
          · obtain ⟨x, hx⟩ : ∃ x, (K q 4)[2]? = some x := ⟨_, List.getElem?_eq_getElem hlt⟩
            have c1 := (hO _ _ hx).2.1
            simp only [Nat.zero_mul, Nat.one_mul, Nat.zero_add, Nat.reduceMul, Nat.reduceAdd] at c1
            cases hlx : lat x
            · rw [hlx] at c1
              clear hO hx hlx
              go_wp2
              go_round
              case rel => exact ⟨2 + 1, by omega, by omega, rfl⟩
              case measure => simp [intOf]
            · rw [hlx] at c1
              obtain ⟨y, hy, hly⟩ := K_sorted q 1 x hx hlx
              have c0 := (hO _ _ hy).2.1
              simp only [Nat.zero_mul, Nat.one_mul, Nat.zero_add, Nat.reduceMul, Nat.reduceAdd] at c0
              rw [hly] at c0
              clear hO hx hlx hy hly
              go_wp2
              go_round
              case rel => exact ⟨2 + 1, by omega, by omega, rfl⟩
              case measure => simp [intOf]
          · obtain ⟨x, hx⟩ : ∃ x, (K q 4)[3]? = some x := ⟨_, List.getElem?_eq_getElem hlt⟩
            have c1 := (hO _ _ hx).2.1
            simp only [Nat.zero_mul, Nat.one_mul, Nat.zero_add, Nat.reduceMul, Nat.reduceAdd] at c1
            cases hlx : lat x
            · rw [hlx] at c1
              clear hO hx hlx
              go_wp2
              go_round
              case rel => exact ⟨3 + 1, by omega, by omega, rfl⟩
              case measure => simp [intOf]
            · rw [hlx] at c1
              obtain ⟨y, hy, hly⟩ := K_sorted q 2 x hx hlx
              have c0 := (hO _ _ hy).2.1
              simp only [Nat.zero_mul, Nat.one_mul, Nat.zero_add, Nat.reduceMul, Nat.reduceAdd] at c0
              rw [hly] at c0
              clear hO hx hlx hy hly
              go_wp2
              go_round
              case rel => exact ⟨3 + 1, by omega, by omega, rfl⟩
              case measure => simp [intOf]
        · clear hO
          go_wp2
          go_ret
          exact ⟨rfl, hB⟩
end Go.Proofs.Qxb6001701a.keysWalks
