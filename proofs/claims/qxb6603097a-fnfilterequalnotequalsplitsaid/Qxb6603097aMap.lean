import Derived.Test.Qxb6603097aClone2
import Derived.Maps.OwnSet
namespace Go.Proofs.Qxb6603097a.filterWalks
open Go.ChangeShapes Go.WideShapes Go.ChangeAt Go.RowKit Go.Maps

/-! ### The list of headers, as functions -/
def HdrFn (w : World) (ao : Option Addr) (n g : Nat) (K : Nat → ByteArray) (A : Nat → Option Addr) (L C : Nat → Nat) : Prop :=
  (ao = none → n = 0) ∧ (0 < n → ao = some ⟨g, 0, none⟩) ∧ ∀ i, i < n →
    w.cell? ⟨g, i * 2, none⟩ = some (.string (K i)) ∧ w.cell? ⟨g, i * 2 + 1, none⟩ = some (.slice (A i) (L i) (C i)) ∧ (K i).size ≤ maxLen ∧ L i ≤ 1048576 ∧ StrUp w 0 (A i) (L i)

theorem hdr_funs {w : World} {lo : Nat} {ao : Option Addr} {n : Nat} (h : HdrUp w lo ao n) : ∃ g K A L C, HdrFn w ao n g K A L C := by
  obtain ⟨h0, g, _, h1, h2⟩ := h
  have hc : ∀ i, ∃ q : ByteArray × Option Addr × Nat × Nat, i < n → w.cell? ⟨g, i * 2, none⟩ = some (.string q.1) ∧ w.cell? ⟨g, i * 2 + 1, none⟩ = some (.slice q.2.1 q.2.2.1 q.2.2.2) ∧ q.1.size ≤ maxLen ∧ q.2.2.1 ≤ 1048576 ∧ StrUp w 0 q.2.1 q.2.2.1 := fun i => by
    by_cases hi : i < n
    · obtain ⟨key, sa, sl, sc, a⟩ := h2 i hi
      exact ⟨(key, sa, sl, sc), fun _ => a⟩
    · exact ⟨(⟨#[]⟩, none, 0, 0), fun h => absurd h hi⟩
  exact ⟨g, fun i => (Classical.choose (hc i)).1, fun i => (Classical.choose (hc i)).2.1, fun i => (Classical.choose (hc i)).2.2.1, fun i => (Classical.choose (hc i)).2.2.2, h0, h1, fun i hi => Classical.choose_spec (hc i) hi⟩

theorem hdrFn_below {w w' : World} {ao : Option Addr} {n g : Nat} {K : Nat → ByteArray} {A : Nat → Option Addr} {L C : Nat → Nat} (h : HdrFn w ao n g K A L C) (hb : Below w.heap.size w w') : HdrFn w' ao n g K A L C := by
  obtain ⟨h0, h1, h2⟩ := h
  refine ⟨h0, h1, fun i hi => ?_⟩
  obtain ⟨a, b, c, d, e⟩ := h2 i hi
  exact ⟨by rw [hb.cell (lt_of_cell a)]; exact a, by rw [hb.cell (lt_of_cell b)]; exact b, c, d, strUp_below e hb⟩

/-- The values of the last entry under the key. -/
def look (K : Nat → ByteArray) (A : Nat → Option Addr) (L C : Nat → Nat) (key : ByteArray) : Nat → Option Addr × Nat × Nat
  | 0 => (none, 0, 0)
  | i + 1 => if ((K i).toList == key.toList) = true then (A i, L i, C i) else look K A L C key i
abbrev sliceOf (q : Option Addr × Nat × Nat) : Value := .slice q.1 q.2.1 q.2.2

theorem look_ok {w : World} {ao : Option Addr} {n g : Nat} {K : Nat → ByteArray} {A : Nat → Option Addr} {L C : Nat → Nat} (h : HdrFn w ao n g K A L C) (key : ByteArray) (k : Nat) (hk : k ≤ n) :
    (look K A L C key k).2.1 ≤ 1048576 ∧ StrUp w 0 (look K A L C key k).1 (look K A L C key k).2.1 := by
  induction k with
  | zero => exact ⟨by simp [look], 0, fun _ => ⟨#[]⟩, Nat.le_refl _, fun h => by simp [look] at h, fun j hj => by simp [look] at hj⟩
  | succ k ih =>
    unfold look
    split
    · obtain ⟨_, _, _, d, e⟩ := h.2.2 k (by omega)
      exact ⟨d, e⟩
    · exact ih (by omega)

/-! ### lookup -/
set_option maxHeartbeats 400000 in
theorem lookup_any (w : World) (ao : Option Addr) (n cap g : Nat) (K : Nat → ByteArray) (A : Nat → Option Addr) (L C : Nat → Nat) (key : ByteArray) (hn : n ≤ 1048576) (h : HdrFn w ao n g K A L C) :
    Calls Try.prog 15 #[.slice ao n cap, .string key] w fun e w' => e = .returned (sliceOf (look K A L C key n)) ∧ w = w' := by
  obtain ⟨h0, h1, h2⟩ := h
  by_cases hz : n = 0
  · subst hz
    go_enter Try.func15, Try.ntmps15
    go_wp2
    refine wp_loop_rounds 1 ?_
    rw [rounds_succ]
    go_wp2
    go_ret
    exact ⟨rfl, rfl⟩
  · obtain rfl := h1 (by omega)
    clear h0 h1 hz
    go_enter Try.func15, Try.ntmps15
    go_wp2
    go_loop [5] (fun i => ∃ k : Nat, k ≤ n ∧ i = .int .i64 ((k : Int) - 1) ∧ look K A L C key n = look K A L C key k) (fun i => (intOf i + 1).toNat)
    case atStart => exact ⟨n, by omega, rfl, rfl⟩
    case round =>
      obtain ⟨k, hk, rfl, hE⟩ := hrel
      have HE : Hid (look K A L C key n = look K A L C key k) := hE
      clear hE
      cases k with
      | zero =>
        clear h2
        go_wp2
        go_ret
        exact ⟨by rw [HE.out]; rfl, rfl⟩
      | succ m =>
        have em : ((m + 1 : Nat) : Int) - 1 = (m : Int) := by omega
        rw [em]
        obtain ⟨a, b, _, _, _⟩ := h2 m (by omega)
        clear h2
        cases hq : ((K m).toList == key.toList)
        · go_wp2
          go_round
          case rel => exact ⟨m, by omega, rfl, by rw [HE.out, look, hq]; rfl⟩
          case measure => simp [intOf]
        · go_wp2
          go_ret
          exact ⟨by rw [HE.out, look, hq]; rfl, rfl⟩

/-! ### toMap -/
def R (v : Value) : Option (DataW Value × List MemPlace) := some (.held v, [])
def Dm (K : Nat → ByteArray) (A : Nat → Option Addr) (L C : Nat → Nat) : Nat → DataW Value
  | 0 => .map []
  | i + 1 => (Dm K A L C i).put (.string (K i).data.toList) (.held (.slice (A i) (L i) (C i)))
theorem dm_map (K : Nat → ByteArray) (A : Nat → Option Addr) (L C : Nat → Nat) (i : Nat) : IsMap (Dm K A L C i) := by
  induction i with
  | zero => exact isMap_empty
  | succ i ih => exact ih.put _ _
theorem beq_data (a b : ByteArray) : (a.toList == b.toList) = (a.data.toList == b.data.toList) := by rw [ByteArray.toList_eq, ByteArray.toList_eq]
theorem dm_at (K : Nat → ByteArray) (A : Nat → Option Addr) (L C : Nat → Nat) (key : ByteArray) (i : Nat) :
    (Dm K A L C i).atKey (.string key.data.toList) (.held (.slice none 0 0)) = .held (sliceOf (look K A L C key i)) := by
  induction i with
  | zero => rfl
  | succ i ih =>
    unfold Dm look
    cases hq : ((K i).toList == key.toList)
    · rw [atKey_put_other, ih]
      · simp
      · intro e
        rw [beq_data] at hq
        simp at e
        rw [e] at hq
        simp at hq
    · have e : (K i).data.toList = key.data.toList := by rw [beq_data] at hq; simpa using hq
      rw [e, atKey_put_same (k := .string key.data.toList) (dm_map K A L C i) trivial]
      simp

theorem law : Keyed Try.prog 9 := string_keyed Try.underlying9
theorem key_of {s : ByteArray} (hs : s.size ≤ maxLen) : keyOf Try.prog 9 (.string s) = some (.string s.data.toList) := Go.WideMaps.keyOf_string_mk Try.underlying9 hs
theorem zero43 (w : World) : (zeroValue 43).run Try.prog w = .ok (.slice none 0 0) w := by kernel_rfl

/-- Read at any key, now and later, the map gives what 'lookup' gives. -/
def Gives (w : World) (mv : Value) (n : Nat) (K : Nat → ByteArray) (A : Nat → Option Addr) (L C : Nat → Nat) : Prop :=
  ∀ key : ByteArray, key.size ≤ maxLen → ∀ wx, Below w.heap.size w wx → (Instr.lookup 31 mv (.string key) false).run Try.prog wx = .ok (sliceOf (look K A L C key n)) wx

theorem gives_below {w w' : World} {mv : Value} {n : Nat} {K : Nat → ByteArray} {A : Nat → Option Addr} {L C : Nat → Nat} (h : Gives w mv n K A L C) (hb : Below w.heap.size w w') : Gives w' mv n K A L C :=
  fun key hk wx hx => h key hk wx (hb.trans (hx.mono hb.size))

theorem gives_nil (w : World) (K : Nat → ByteArray) (A : Nat → Option Addr) (L C : Nat → Nat) : Gives w (.map none) 0 K A L C := fun key hk wx _ => by
  have := Maps.look_nil (P := Try.prog) (w := wx) (t := 31) false law Try.underlying31 (zero43 wx) (key_of hk)
  simpa [look] using this

theorem gives_own {w : World} {M m n : Nat} {K : Nat → ByteArray} {A : Nat → Option Addr} {L C : Nat → Nat} (h : w.ownsMap Try.prog 9 R M m (Dm K A L C n)) : Gives w (.map (some M)) n K A L C := fun key hk wx hb => by
  have hw : wx.ownsMap Try.prog 9 R M m (Dm K A L C n) := by
    have hlt := h.lt
    obtain ⟨es, clock, hh, r⟩ := h
    exact ⟨es, clock, by rw [hb.block M hlt]; exact hh, r⟩
  obtain ⟨v, ps, hrun, hv⟩ := hw.lookup law Try.underlying31 (zero43 wx) (zd := .held (.slice none 0 0)) (zp := []) rfl (key_of hk)
  rw [dm_at] at hv
  simp only [R, Option.some.injEq, Prod.mk.injEq, DataW.held.injEq] at hv
  rw [hrun, hv.1]
end Go.Proofs.Qxb6603097a.filterWalks
