import Derived.Test.Qxb6603097aMap2
namespace Go.Proofs.Qxb6603097a.filterWalks
open Go.ChangeShapes Go.WideShapes Go.ChangeAt Go.RowKit Go.Maps
set_option linter.unusedVariables false

/-- A filter in memory. -/
def FilAt (w : World) (F : Nat) (h m : Int) (key val : ByteArray) : Prop :=
  w.cell? ⟨F, 0, none⟩ = some (.int .u8 h) ∧ w.cell? ⟨F, 1, none⟩ = some (.int .u8 m) ∧ w.cell? ⟨F, 2, none⟩ = some (.string key) ∧ w.cell? ⟨F, 3, none⟩ = some (.string val)
theorem filAt_below {w w' : World} {F : Nat} {h m : Int} {key val : ByteArray} (hf : FilAt w F h m key val) (hb : Below w.heap.size w w') : FilAt w' F h m key val := by
  obtain ⟨a, b, c, d⟩ := hf
  refine ⟨?_, ?_, ?_, ?_⟩
  · rw [hb.cell (lt_of_cell a)]; exact a
  · rw [hb.cell (lt_of_cell b)]; exact b
  · rw [hb.cell (lt_of_cell c)]; exact c
  · rw [hb.cell (lt_of_cell d)]; exact d

abbrev reqVal (op role : Int) (ka : Option Addr) (kn kc : Nat) (r1 r2 : Option Nat) : Value := .agg #[.int .u8 op, .int .u8 role, .slice ka kn kc, .map r1, .map r2]

theorem below2 (w : World) (o1 o2 : Obj) : Below w.heap.size w ((w.alloc o1).alloc o2) := ((Below.refl _ _).alloc (Nat.le_refl _) _).alloc (by simp) _

section
variable (w : World) (F : Nat) (h m : Int) (key val : ByteArray) (op role : Int) (ka : Option Addr) (kn kc : Nat) (r1 r2 : Option Nat)

theorem holds_svc (hf : FilAt w F 3 m key val) :
    Calls Try.prog 31 #[.pointer (some ⟨F, 0, none⟩), reqVal op role ka kn kc r1 r2] w fun e w' => e = .returned (.bool true) ∧ Below w.heap.size w w' := by
  obtain ⟨c0, c1, c2, c3⟩ := hf
  have hF : F < w.heap.size := lt_of_cell c0
  go_enter Try.func31, Try.ntmps31
  go_wp2
  go_ret
  exact ⟨rfl, below2 _ _ _⟩
theorem holds_oth (hf : FilAt w F h m key val) (h1 : (h == 1) = false) (h2 : (h == 2) = false) (h3 : (h == 3) = false) :
    Calls Try.prog 31 #[.pointer (some ⟨F, 0, none⟩), reqVal op role ka kn kc r1 r2] w fun e w' => e = .returned (.bool false) ∧ Below w.heap.size w w' := by
  obtain ⟨c0, c1, c2, c3⟩ := hf
  have hF : F < w.heap.size := lt_of_cell c0
  go_enter Try.func31, Try.ntmps31
  go_wp2
  go_ret
  exact ⟨rfl, below2 _ _ _⟩
set_option maxHeartbeats 400000 in
theorem holds_obj0 (a : Option Addr) (l c : Nat) (V : Nat → ByteArray) (hf : FilAt w F 2 0 key val) (hl0 : l ≤ 1048576) (hs : StrAt w a l V)
    (hl : ∀ wx, Below w.heap.size w wx → (Instr.lookup 31 (.map r1) (.string key) false).run Try.prog wx = .ok (.slice a l c) wx) :
    Calls Try.prog 31 #[.pointer (some ⟨F, 0, none⟩), reqVal op role ka kn kc r1 r2] w fun e w' => e = .returned (.bool false) ∧ Below w.heap.size w w' := by
  obtain ⟨c0, c1, c2, c3⟩ := hf
  have hF : F < w.heap.size := lt_of_cell c0
  have hlk := fun o1 o2 => hl ((w.alloc o1).alloc o2) (below2 w o1 o2)
  clear hl
  go_enter Try.func31, Try.ntmps31
  go_wp2
  go_ret
  exact ⟨rfl, below2 _ _ _⟩
set_option maxHeartbeats 400000 in
theorem holds_obj1 (a : Option Addr) (l c : Nat) (V : Nat → ByteArray) (hf : FilAt w F 2 1 key val) (hl0 : l ≤ 1048576) (hs : StrAt w a l V)
    (hl : ∀ wx, Below w.heap.size w wx → (Instr.lookup 31 (.map r1) (.string key) false).run Try.prog wx = .ok (.slice a l c) wx) :
    Calls Try.prog 31 #[.pointer (some ⟨F, 0, none⟩), reqVal op role ka kn kc r1 r2] w fun e w' => e = .returned (.bool (eqB V val l)) ∧ Below w.heap.size w w' := by
  obtain ⟨c0, c1, c2, c3⟩ := hf
  have hF : F < w.heap.size := lt_of_cell c0
  have hlk := fun o1 o2 => hl ((w.alloc o1).alloc o2) (below2 w o1 o2)
  clear hl
  go_enter Try.func31, Try.ntmps31
  go_wp2_with (go_at_call 37; refine (contains_any _ _ _ _ V _ hl0 (strAt_below hs (below2 _ _ _))).mono ?_; rintro e w' ⟨rfl, rfl⟩)
  go_ret
  exact ⟨rfl, below2 _ _ _⟩
set_option maxHeartbeats 400000 in
theorem holds_obj2 (a : Option Addr) (l c : Nat) (V : Nat → ByteArray) (hf : FilAt w F 2 2 key val) (hl0 : l ≤ 1048576) (hs : StrAt w a l V)
    (hl : ∀ wx, Below w.heap.size w wx → (Instr.lookup 31 (.map r1) (.string key) false).run Try.prog wx = .ok (.slice a l c) wx) :
    Calls Try.prog 31 #[.pointer (some ⟨F, 0, none⟩), reqVal op role ka kn kc r1 r2] w fun e w' => e = .returned (.bool (neB V val l)) ∧ Below w.heap.size w w' := by
  obtain ⟨c0, c1, c2, c3⟩ := hf
  have hF : F < w.heap.size := lt_of_cell c0
  have hlk := fun o1 o2 => hl ((w.alloc o1).alloc o2) (below2 w o1 o2)
  clear hl
  go_enter Try.func31, Try.ntmps31
  go_wp2_with (go_at_call 38; refine (containsFunc_any _ _ _ _ V val _ F hl0 (strAt_below hs (below2 _ _ _)) ?d0 ?d1).mono ?_; (case d0 => simp [go_sem]); (case d1 => (rw [(below2 _ _ _).cell (by exact hF)]; exact c3)); rintro e w' ⟨rfl, rfl⟩)
  go_ret
  exact ⟨rfl, below2 _ _ _⟩
set_option maxHeartbeats 400000 in
theorem holds_req0 (a : Option Addr) (l c : Nat) (V : Nat → ByteArray) (hf : FilAt w F 1 0 key val) (hl0 : l ≤ 1048576) (hs : StrAt w a l V)
    (hl : ∀ wx, Below w.heap.size w wx → (Instr.lookup 31 (.map r2) (.string key) false).run Try.prog wx = .ok (.slice a l c) wx) :
    Calls Try.prog 31 #[.pointer (some ⟨F, 0, none⟩), reqVal op role ka kn kc r1 r2] w fun e w' => e = .returned (.bool false) ∧ Below w.heap.size w w' := by
  obtain ⟨c0, c1, c2, c3⟩ := hf
  have hF : F < w.heap.size := lt_of_cell c0
  have hlk := fun o1 o2 => hl ((w.alloc o1).alloc o2) (below2 w o1 o2)
  clear hl
  go_enter Try.func31, Try.ntmps31
  go_wp2
  go_ret
  exact ⟨rfl, below2 _ _ _⟩
set_option maxHeartbeats 400000 in
theorem holds_req1 (a : Option Addr) (l c : Nat) (V : Nat → ByteArray) (hf : FilAt w F 1 1 key val) (hl0 : l ≤ 1048576) (hs : StrAt w a l V)
    (hl : ∀ wx, Below w.heap.size w wx → (Instr.lookup 31 (.map r2) (.string key) false).run Try.prog wx = .ok (.slice a l c) wx) :
    Calls Try.prog 31 #[.pointer (some ⟨F, 0, none⟩), reqVal op role ka kn kc r1 r2] w fun e w' => e = .returned (.bool (eqB V val l)) ∧ Below w.heap.size w w' := by
  obtain ⟨c0, c1, c2, c3⟩ := hf
  have hF : F < w.heap.size := lt_of_cell c0
  have hlk := fun o1 o2 => hl ((w.alloc o1).alloc o2) (below2 w o1 o2)
  clear hl
  go_enter Try.func31, Try.ntmps31
  go_wp2_with (go_at_call 37; refine (contains_any _ _ _ _ V _ hl0 (strAt_below hs (below2 _ _ _))).mono ?_; rintro e w' ⟨rfl, rfl⟩)
  go_ret
  exact ⟨rfl, below2 _ _ _⟩
set_option maxHeartbeats 400000 in
theorem holds_req2 (a : Option Addr) (l c : Nat) (V : Nat → ByteArray) (hf : FilAt w F 1 2 key val) (hl0 : l ≤ 1048576) (hs : StrAt w a l V)
    (hl : ∀ wx, Below w.heap.size w wx → (Instr.lookup 31 (.map r2) (.string key) false).run Try.prog wx = .ok (.slice a l c) wx) :
    Calls Try.prog 31 #[.pointer (some ⟨F, 0, none⟩), reqVal op role ka kn kc r1 r2] w fun e w' => e = .returned (.bool (neB V val l)) ∧ Below w.heap.size w w' := by
  obtain ⟨c0, c1, c2, c3⟩ := hf
  have hF : F < w.heap.size := lt_of_cell c0
  have hlk := fun o1 o2 => hl ((w.alloc o1).alloc o2) (below2 w o1 o2)
  clear hl
  go_enter Try.func31, Try.ntmps31
  go_wp2_with (go_at_call 38; refine (containsFunc_any _ _ _ _ V val _ F hl0 (strAt_below hs (below2 _ _ _)) ?d0 ?d1).mono ?_; (case d0 => simp [go_sem]); (case d1 => (rw [(below2 _ _ _).cell (by exact hF)]; exact c3)); rintro e w' ⟨rfl, rfl⟩)
  go_ret
  exact ⟨rfl, below2 _ _ _⟩

theorem zz_any (b : Bool) (H : ∀ o, Calls Try.prog 31 #[.pointer (some ⟨F, 0, none⟩), reqVal op role ka kn kc r1 r2] (w.alloc o) fun e w' => e = .returned (.bool b) ∧ Below (w.alloc o).heap.size (w.alloc o) w') :
    Calls Try.prog 14 #[.pointer (some ⟨F, 0, none⟩), reqVal op role ka kn kc r1 r2] w fun e w' => e = .returned (.bool b) ∧ Below w.heap.size w w' := by
  go_enter Try.func14, Try.ntmps14
  go_wp2_with (go_at_call 31; refine (H _).mono ?_; rintro e w' ⟨rfl, hb⟩)
  go_ret
  exact ⟨rfl, ((Below.refl _ _).alloc (Nat.le_refl _) _).trans (hb.mono (by simp))⟩

theorem makeFilter_any :
    Calls Try.prog 13 #[.int .u8 h, .int .u8 m, .string key, .string val] w fun e w' => e = .returned (.agg #[.int .u8 h, .int .u8 m, .string key, .string val]) ∧ w' = w.alloc (.cells #[.int .u8 h, .int .u8 m, .string key, .string val] 39) := by
  go_enter Try.func13, Try.ntmps13
  go_wp2
  exact bodyPost_ret (v := .agg #[.int .u8 h, .int .u8 m, .string key, .string val]) (by simp [results, Try.results13, go_sem]) rfl ⟨rfl, rfl⟩
theorem makeRequest_any :
    Calls Try.prog 11 #[.int .u8 op, .int .u8 role, .slice ka kn kc, .map r1, .map r2] w fun e w' => e = .returned (reqVal op role ka kn kc r1 r2) ∧ w' = w.alloc (.cells #[.int .u8 op, .int .u8 role, .slice ka kn kc, .map r1, .map r2] 33) := by
  go_enter Try.func11, Try.ntmps11
  go_wp2
  exact bodyPost_ret (v := reqVal op role ka kn kc r1 r2) (by simp [results, Try.results11, go_sem]) rfl ⟨rfl, rfl⟩
end
end Go.Proofs.Qxb6603097a.filterWalks
