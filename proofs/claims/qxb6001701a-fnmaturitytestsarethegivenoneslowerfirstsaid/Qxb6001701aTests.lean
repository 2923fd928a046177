import Derived.Test.Qxb6001701aKeys3
namespace Go.Proofs.Qxb6001701a.keysWalks
open Go.ChangeShapes Go.WideShapes Go.ChangeAt Go.RowKit
set_option linter.unusedSimpArgs false

theorem info37 : (Try.prog.info? 37).map (fun i => (i.zero, i.size, i.bytes)) = some (some (.agg #[.pointer none, .bool false, .bool false]), 3, 16) := by kernel_rfl

/-! ### The plain function: which of the first k keys are given -/
def K (q : Nat → Option Addr) : Nat → List Nat
  | 0 => []
  | k + 1 => if (q k).isSome = true then K q k ++ [k] else K q k
def cellsOf (q : Nat → Option Addr) (l : List Nat) : List Value := l.flatMap fun i => [.pointer (q i), .bool (lat i), .bool (on i)]

theorem K_le (q : Nat → Option Addr) (k : Nat) : (K q k).length ≤ k := by
  induction k with
  | zero => simp [K]
  | succ k ih => unfold K; split
                 · simp; omega
                 · omega
theorem K_yes {q : Nat → Option Addr} {k : Nat} {a : Addr} (h : q k = some a) : K q (k + 1) = K q k ++ [k] := by simp [K, h]
theorem K_no {q : Nat → Option Addr} {k : Nat} (h : q k = none) : K q (k + 1) = K q k := by simp [K, h]
theorem cells_snoc (q : Nat → Option Addr) (l : List Nat) (k : Nat) : cellsOf q (l ++ [k]) = cellsOf q l ++ [.pointer (q k), .bool (lat k), .bool (on k)] := by simp [cellsOf]

/-- The loop's relation, at k. -/
def TRel (q : Nat → Option Addr) (B : Nat) (w0 : World) (k : Nat) (v : Value) (wr : World) : Prop :=
  wr.ownsRow (B + 1) 37 3 v (K q k).length (cellsOf q (K q k)) ∧ Below (B + 1) w0 wr ∧ B + 1 ≤ wr.heap.size

theorem trel_keep {q : Nat → Option Addr} {B k : Nat} {w0 wr w1 : World} {v v' : Value} {a : Addr} {o o' : Obj} (hq : q k = some a) (h : TRel q B w0 k v wr)
    (hown : w1.ownsRow (B + 1) 37 3 v' ((K q k).length + 1) (cellsOf q (K q k) ++ [.pointer (some a), .bool (lat k), .bool (on k)])) (hg : ((wr.alloc o).alloc o').grownBy w1 v.ownBlock) : TRel q B w0 (k + 1) v' w1 := by
  obtain ⟨h1, h2, h3⟩ := h
  refine ⟨?_, ?_, ?_⟩
  · rw [K_yes hq, cells_snoc, hq]; simpa using hown
  · refine Below.grown ((h2.alloc h3 _).alloc (by simp; omega) _) hg (by simp; omega) ?_
    intro j hj
    exact (h1.lt j hj).1
  · have := hg.size; simp at this; omega
theorem trel_drop {q : Nat → Option Addr} {B k : Nat} {w0 wr : World} {v : Value} {o : Obj} (hq : q k = none) (h : TRel q B w0 k v wr) : TRel q B w0 (k + 1) v (wr.alloc o) := by
  obtain ⟨h1, h2, h3⟩ := h
  refine ⟨?_, h2.alloc h3 _, by simp; omega⟩
  rw [K_no hq]; exact h1.alloc _

theorem keyRow_below {q : Nat → Option Addr} {B : Nat} {w0 wr : World} (h : KeyRow w0 B q) (hb : Below (B + 1) w0 wr) : KeyRow wr B q := by
  intro i hi
  obtain ⟨h0, h1, h2, h3⟩ := h i hi
  refine ⟨?_, ?_, ?_, ?_⟩ <;> (rw [hb.cell (by show B < B + 1; omega)]; assumption)

set_option maxHeartbeats 1000000 in
theorem tests_any (b : Nat) (q : Nat → Option Addr) (w : World) (hq : Four w b q) :
    Calls Try.prog 15 #[.pointer (some ⟨b, 0, none⟩)] w fun e w' => ∃ v, e = .returned v ∧ w'.ownsRow (w.heap.size + 1) 37 3 v (K q 4).length (cellsOf q (K q 4)) ∧ Below w.heap.size w w' ∧ w.heap.size < w'.heap.size := by
  obtain ⟨i0, hi, hz0, hz1, hz2⟩ := info_parts info37
  go_enter Try.func15, Try.ntmps15
  go_wp2_with (go_at_call 21; refine (keys_any b q _ hq).mono ?_; rintro e w1 ⟨rfl, hk, hs, hb⟩)
  go_loopw [3, 9] (fun v i wr => ∃ k : Nat, k ≤ 4 ∧ i = .int .i64 k ∧ TRel q w.heap.size w1 k v wr) (fun _ i _ => 4 - (intOf i).toNat)
  case atStart => exact ⟨0, Nat.zero_le _, rfl, World.ownsRow_nil _ _ _ _, Below.refl _ _, by omega⟩
  case round =>
    obtain ⟨k, hk4, rfl, hr⟩ := hrel
    have hKR := keyRow_below hk hr.2.1
    clear hk
    by_cases hlt : k < 4
    · clear hb
      have hsp : k = 0 ∨ k = 1 ∨ k = 2 ∨ k = 3 := by omega
      rcases hsp with rfl | rfl | rfl | rfl
      · obtain ⟨k0, k1, k2, k3⟩ := hKR 0 (by omega)
        simp only [Nat.zero_mul, Nat.one_mul, Nat.zero_add, Nat.reduceMul, Nat.reduceAdd] at k0 k1 k2 k3
        clear hKR hlt hk4
        have hown := hr.1
        have hsz := hr.2.2
        have hl := K_le q 0
        have hB : w.heap.size < wr.heap.size := by omega
        rcases hqk : q 0 with _ | ad
        · rw [hqk] at k1
          have R := fun o => trel_drop (o := o) hqk hr
          have HR : Hid (TRel q w.heap.size w1 0 u3 wr) := hr
          clear hr hown hqk
          go_wp2
          go_roundw
          case rel => exact ⟨0+1, by omega, rfl, R _⟩
          case measure => simp [intOf]
        · rw [hqk] at k1
          have HR : Hid (TRel q w.heap.size w1 0 u3 wr) := hr
          have HQ : Hid (q 0 = some ad) := hqk
          clear hr hqk
          go_wp2_with (at_builtin; refine wpList_append_own _ rfl (.tmp 17) (.tmp 20) 28 rfl (w.heap.size + 1) 37 i0 (.agg #[.pointer none, .bool false, .bool false]) 3 16 Try.underlying28 hi hz0 hz1 hz2 rfl (by decide) _ _ _ rfl ((hown.alloc _).alloc _) ⟨wr.heap.size + 1, 0, none⟩ 1 1 [.pointer (some ad), .bool (lat 0), .bool (on 0)] rfl rfl ?c1 ?c2 ?c3 ?c4 ?c5 ?_)
          case c1 =>
            intro j u hj
            match j, hj with
            | 0, hj => simp at hj; subst hj; simp [Addr.add, go_sem]
            | 1, hj => simp at hj; subst hj; simp [Addr.add, go_sem]
            | 2, hj => simp at hj; subst hj; simp [Addr.add, go_sem]
          case c2 => intro u hu; simp at hu; rcases hu with rfl | rfl | rfl <;> rfl
          case c3 => unfold maxLen; omega
          case c4 => omega
          case c5 => simp; omega
          intro v' w2 hown' hgrow _
          have R := trel_keep HQ.out HR.out hown' hgrow
          clear hown' hgrow hown
          go_wp2
          go_roundw
          case rel => exact ⟨0+1, by omega, rfl, R⟩
          case measure => simp [intOf]
      · obtain ⟨k0, k1, k2, k3⟩ := hKR 1 (by omega)
        simp only [Nat.zero_mul, Nat.one_mul, Nat.zero_add, Nat.reduceMul, Nat.reduceAdd] at k0 k1 k2 k3
        clear hKR hlt hk4
        have hown := hr.1
        have hsz := hr.2.2
        have hl := K_le q 1
        have hB : w.heap.size < wr.heap.size := by omega
        rcases hqk : q 1 with _ | ad
        · rw [hqk] at k1
          have R := fun o => trel_drop (o := o) hqk hr
          have HR : Hid (TRel q w.heap.size w1 1 u3 wr) := hr
          clear hr hown hqk
          go_wp2
          go_roundw
          case rel => exact ⟨1+1, by omega, rfl, R _⟩
          case measure => simp [intOf]
        · rw [hqk] at k1
          have HR : Hid (TRel q w.heap.size w1 1 u3 wr) := hr
          have HQ : Hid (q 1 = some ad) := hqk
          clear hr hqk
          go_wp2_with (at_builtin; refine wpList_append_own _ rfl (.tmp 17) (.tmp 20) 28 rfl (w.heap.size + 1) 37 i0 (.agg #[.pointer none, .bool false, .bool false]) 3 16 Try.underlying28 hi hz0 hz1 hz2 rfl (by decide) _ _ _ rfl ((hown.alloc _).alloc _) ⟨wr.heap.size + 1, 0, none⟩ 1 1 [.pointer (some ad), .bool (lat 1), .bool (on 1)] rfl rfl ?c1 ?c2 ?c3 ?c4 ?c5 ?_)
          case c1 =>
            intro j u hj
            match j, hj with
            | 0, hj => simp at hj; subst hj; simp [Addr.add, go_sem]
            | 1, hj => simp at hj; subst hj; simp [Addr.add, go_sem]
            | 2, hj => simp at hj; subst hj; simp [Addr.add, go_sem]
          case c2 => intro u hu; simp at hu; rcases hu with rfl | rfl | rfl <;> rfl
          case c3 => unfold maxLen; omega
          case c4 => omega
          case c5 => simp; omega
          intro v' w2 hown' hgrow _
          have R := trel_keep HQ.out HR.out hown' hgrow
          clear hown' hgrow hown
          go_wp2
          go_roundw
          case rel => exact ⟨1+1, by omega, rfl, R⟩
          case measure => simp [intOf]
      · obtain ⟨k0, k1, k2, k3⟩ := hKR 2 (by omega)
        simp only [Nat.zero_mul, Nat.one_mul, Nat.zero_add, Nat.reduceMul, Nat.reduceAdd] at k0 k1 k2 k3
        clear hKR hlt hk4
        have hown := hr.1
        have hsz := hr.2.2
        have hl := K_le q 2
        have hB : w.heap.size < wr.heap.size := by omega
        rcases hqk : q 2 with _ | ad
        · rw [hqk] at k1
          have R := fun o => trel_drop (o := o) hqk hr
          have HR : Hid (TRel q w.heap.size w1 2 u3 wr) := hr
          clear hr hown hqk
          go_wp2
          go_roundw
          case rel => exact ⟨2+1, by omega, rfl, R _⟩
          case measure => simp [intOf]
        · rw [hqk] at k1
          have HR : Hid (TRel q w.heap.size w1 2 u3 wr) := hr
          have HQ : Hid (q 2 = some ad) := hqk
          clear hr hqk
          go_wp2_with (at_builtin; refine wpList_append_own _ rfl (.tmp 17) (.tmp 20) 28 rfl (w.heap.size + 1) 37 i0 (.agg #[.pointer none, .bool false, .bool false]) 3 16 Try.underlying28 hi hz0 hz1 hz2 rfl (by decide) _ _ _ rfl ((hown.alloc _).alloc _) ⟨wr.heap.size + 1, 0, none⟩ 1 1 [.pointer (some ad), .bool (lat 2), .bool (on 2)] rfl rfl ?c1 ?c2 ?c3 ?c4 ?c5 ?_)
          case c1 =>
            intro j u hj
            match j, hj with
            | 0, hj => simp at hj; subst hj; simp [Addr.add, go_sem]
            | 1, hj => simp at hj; subst hj; simp [Addr.add, go_sem]
            | 2, hj => simp at hj; subst hj; simp [Addr.add, go_sem]
          case c2 => intro u hu; simp at hu; rcases hu with rfl | rfl | rfl <;> rfl
          case c3 => unfold maxLen; omega
          case c4 => omega
          case c5 => simp; omega
          intro v' w2 hown' hgrow _
          have R := trel_keep HQ.out HR.out hown' hgrow
          clear hown' hgrow hown
          go_wp2
          go_roundw
          case rel => exact ⟨2+1, by omega, rfl, R⟩
          case measure => simp [intOf]
      · obtain ⟨k0, k1, k2, k3⟩ := hKR 3 (by omega)
        simp only [Nat.zero_mul, Nat.one_mul, Nat.zero_add, Nat.reduceMul, Nat.reduceAdd] at k0 k1 k2 k3
        clear hKR hlt hk4
        have hown := hr.1
        have hsz := hr.2.2
        have hl := K_le q 3
        have hB : w.heap.size < wr.heap.size := by omega
        rcases hqk : q 3 with _ | ad
        · rw [hqk] at k1
          have R := fun o => trel_drop (o := o) hqk hr
          have HR : Hid (TRel q w.heap.size w1 3 u3 wr) := hr
          clear hr hown hqk
          go_wp2
          go_roundw
          case rel => exact ⟨3+1, by omega, rfl, R _⟩
          case measure => simp [intOf]
        · rw [hqk] at k1
          have HR : Hid (TRel q w.heap.size w1 3 u3 wr) := hr
          have HQ : Hid (q 3 = some ad) := hqk
          clear hr hqk
          go_wp2_with (at_builtin; refine wpList_append_own _ rfl (.tmp 17) (.tmp 20) 28 rfl (w.heap.size + 1) 37 i0 (.agg #[.pointer none, .bool false, .bool false]) 3 16 Try.underlying28 hi hz0 hz1 hz2 rfl (by decide) _ _ _ rfl ((hown.alloc _).alloc _) ⟨wr.heap.size + 1, 0, none⟩ 1 1 [.pointer (some ad), .bool (lat 3), .bool (on 3)] rfl rfl ?c1 ?c2 ?c3 ?c4 ?c5 ?_)
          case c1 =>
            intro j u hj
            match j, hj with
            | 0, hj => simp at hj; subst hj; simp [Addr.add, go_sem]
            | 1, hj => simp at hj; subst hj; simp [Addr.add, go_sem]
            | 2, hj => simp at hj; subst hj; simp [Addr.add, go_sem]
          case c2 => intro u hu; simp at hu; rcases hu with rfl | rfl | rfl <;> rfl
          case c3 => unfold maxLen; omega
          case c4 => omega
          case c5 => simp; omega
          intro v' w2 hown' hgrow _
          have R := trel_keep HQ.out HR.out hown' hgrow
          clear hown' hgrow hown
          go_wp2
          go_roundw
          case rel => exact ⟨3+1, by omega, rfl, R⟩
          case measure => simp [intOf]
    · have e4 : k = 4 := by omega
      subst e4
      have hbb := hb.trans (hr.2.1.mono (by omega))
      have hown := hr.1
      have hsz := hr.2.2
      clear hKR hb hr
      go_wp2
      go_ret
      exact ⟨_, rfl, hown, hbb, by omega⟩

/-! ### What the caller reads -/
def OutRow (w : World) (g : Nat) (q : Nat → Option Addr) (l : List Nat) : Prop :=
  ∀ j i, l[j]? = some i → w.cell? ⟨g, j * 3, none⟩ = some (.pointer (q i)) ∧ w.cell? ⟨g, j * 3 + 1, none⟩ = some (.bool (lat i)) ∧ w.cell? ⟨g, j * 3 + 2, none⟩ = some (.bool (on i))

theorem cells_at (q : Nat → Option Addr) (l : List Nat) (j i : Nat) (h : l[j]? = some i) :
    (cellsOf q l)[j * 3]? = some (.pointer (q i)) ∧ (cellsOf q l)[j * 3 + 1]? = some (.bool (lat i)) ∧ (cellsOf q l)[j * 3 + 2]? = some (.bool (on i)) := by
  induction l generalizing j with
  | nil => simp at h
  | cons x l ih =>
    cases j with
    | zero => simp at h; subst h; simp [cellsOf]
    | succ j =>
      have := ih j (by simpa using h)
      have e : cellsOf q (x :: l) = [.pointer (q x), .bool (lat x), .bool (on x)] ++ cellsOf q l := by simp [cellsOf]
      rw [e]
      refine ⟨?_, ?_, ?_⟩
      · rw [List.getElem?_append_right (by simp; omega)]; simp only [List.length_cons, List.length_nil]; rw [show (j + 1) * 3 - (0 + 1 + 1 + 1) = j * 3 by omega]; exact this.1
      · rw [List.getElem?_append_right (by simp; omega)]; simp only [List.length_cons, List.length_nil]; rw [show (j + 1) * 3 + 1 - (0 + 1 + 1 + 1) = j * 3 + 1 by omega]; exact this.2.1
      · rw [List.getElem?_append_right (by simp; omega)]; simp only [List.length_cons, List.length_nil]; rw [show (j + 1) * 3 + 2 - (0 + 1 + 1 + 1) = j * 3 + 2 by omega]; exact this.2.2

theorem out_of_own {w : World} {base : Nat} {v : Value} {q : Nat → Option Addr} {l : List Nat} (h : w.ownsRow base 37 3 v l.length (cellsOf q l)) (hne : l ≠ []) :
    ∃ g cap, v = .slice (some ⟨g, 0, none⟩) l.length cap ∧ base ≤ g ∧ g < w.heap.size ∧ OutRow w g q l := by
  have h0 := h
  obtain ⟨_, ⟨_, hn⟩ | ⟨g, cap, cur, rfl, hg, hh, _⟩⟩ := h
  · exact absurd (List.length_eq_zero_iff.mp hn) hne
  · refine ⟨g, cap, rfl, hg, (h0.lt g rfl).2, ?_⟩
    intro j i hj
    have hjl : j < l.length := by
      have := List.getElem?_eq_some_iff.mp hj
      exact this.1
    obtain ⟨c0, c1, c2⟩ := cells_at q l j i hj
    refine ⟨?_, ?_, ?_⟩
    · rw [h0.cellAt _ (by omega)]; exact c0
    · rw [h0.cellAt _ (by omega)]; exact c1
    · rw [h0.cellAt _ (by omega)]; exact c2

theorem tests_some (b : Nat) (q : Nat → Option Addr) (w : World) (hq : Four w b q) (hne : K q 4 ≠ []) :
    Calls Try.prog 15 #[.pointer (some ⟨b, 0, none⟩)] w fun e w' => ∃ g cap, e = .returned (.slice (some ⟨g, 0, none⟩) (K q 4).length cap) ∧ OutRow w' g q (K q 4) ∧ w.heap.size < g ∧ g < w'.heap.size ∧ Below w.heap.size w w' := by
  refine (tests_any b q w hq).mono ?_
  rintro e w' ⟨v, rfl, hown, hb, hs⟩
  obtain ⟨g, cap, rfl, h1, h2, h3⟩ := out_of_own hown hne
  exact ⟨g, cap, rfl, h3, by omega, h2, hb⟩
theorem tests_none (b : Nat) (q : Nat → Option Addr) (w : World) (hq : Four w b q) (hne : K q 4 = []) :
    Calls Try.prog 15 #[.pointer (some ⟨b, 0, none⟩)] w fun e w' => ∃ ao cap, e = .returned (.slice ao 0 cap) ∧ w.heap.size < w'.heap.size ∧ Below w.heap.size w w' := by
  refine (tests_any b q w hq).mono ?_
  rintro e w' ⟨v, rfl, hown, hb, hs⟩
  rw [hne] at hown
  obtain ⟨_, ⟨rfl, hn⟩ | ⟨g, cap, cur, rfl, hg, hh, _⟩⟩ := hown
  · exact ⟨_, _, rfl, hs, hb⟩
  · exact ⟨_, _, rfl, hs, hb⟩
end Go.Proofs.Qxb6001701a.keysWalks
