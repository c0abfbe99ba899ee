/- Walks of operand, step, ZzAt. -/
import Derived.Test.YtggochaclebnaaaA
import Derived.Deep.QuietTactic
import Derived.BigQuiet
import Derived.RegionTactic
import Derived.ChangeAlike
import Derived.Outline
import Derived.Lib.Hide
namespace Go.Proofs.Ytggochaclebnaaa
open Go.RowKit

/-- What is kept with an instruction. -/
def opd (d a b c : Int) : Value :=
  if d = 5 ∨ d = 6 then .iface 55 (.agg #[.int .i64 0, .int .i64 a])
  else if d = 23 then .iface 56 (.agg #[.int .i64 a, .int .i64 b, .int .i64 c])
  else .iface 3 (.int .i64 a)

set_option maxHeartbeats 400000 in
theorem operand_any (d a b c : Int) (w : World) :
    Calls Try.prog 11 #[stp d a b c] w fun e w' => e = .returned (opd d a b c) ∧ w' = w.alloc (.cells #[.int .i64 d, .int .i64 a, .int .i64 b, .int .i64 c] 26) := by
  by_cases h5 : d = 5
  · subst h5
    go_enter Try.func11, Try.ntmps11
    go_wp2
    go_ret
    exact ⟨by simp [opd], rfl⟩
  by_cases h6 : d = 6
  · subst h6
    go_enter Try.func11, Try.ntmps11
    go_wp2
    go_ret
    exact ⟨by simp [opd], rfl⟩
  by_cases h23 : d = 23
  · subst h23
    go_enter Try.func11, Try.ntmps11
    go_wp2
    go_ret
    exact ⟨by simp [opd], rfl⟩
  have e : opd d a b c = .iface 3 (.int .i64 a) := by unfold opd; rw [if_neg (by omega), if_neg h23]
  have E := Lib.hid e
  clear e
  have e1 : (d == 5) = false := beq_eq_false_iff_ne.2 h5
  have e2 : (d == 6) = false := beq_eq_false_iff_ne.2 h6
  have e3 : (d == 23) = false := beq_eq_false_iff_ne.2 h23
  clear h5 h6 h23
  go_enter Try.func11, Try.ntmps11
  go_wp2
  go_ret
  exact ⟨by rw [E.out]; rfl, rfl⟩

/-! What each assertion says of a value of each dynamic type: closed facts. -/
theorem as3_3 (v : Value) (w : World) : (Instr.typeAssert (.iface 3 v) 20 3 true).run Try.prog w = .ok (.tuple #[v, .bool true]) w := by kernel_rfl
theorem as3_3b (v : Value) (w : World) : (Instr.typeAssert (.iface 3 v) 20 3 false).run Try.prog w = .ok v w := by kernel_rfl
theorem as55_3 (v : Value) (w : World) : (Instr.typeAssert (.iface 55 v) 20 3 true).run Try.prog w = .ok (.tuple #[.int .i64 0, .bool false]) w := by kernel_rfl
theorem as56_3 (v : Value) (w : World) : (Instr.typeAssert (.iface 56 v) 20 3 true).run Try.prog w = .ok (.tuple #[.int .i64 0, .bool false]) w := by kernel_rfl
theorem as55_55 (v : Value) (w : World) : (Instr.typeAssert (.iface 55 v) 20 55 true).run Try.prog w = .ok (.tuple #[v, .bool true]) w := by kernel_rfl
theorem as56_55 (v : Value) (w : World) : (Instr.typeAssert (.iface 56 v) 20 55 true).run Try.prog w = .ok (.tuple #[.agg #[.int .i64 0, .int .i64 0], .bool false]) w := by kernel_rfl
theorem as56_56 (v : Value) (w : World) : (Instr.typeAssert (.iface 56 v) 20 56 true).run Try.prog w = .ok (.tuple #[v, .bool true]) w := by kernel_rfl
theorem as56_56b (v : Value) (w : World) : (Instr.typeAssert (.iface 56 v) 20 56 false).run Try.prog w = .ok v w := by kernel_rfl
attribute [go_sem] as3_3 as3_3b as55_3 as56_3 as55_55 as56_55 as56_56 as56_56b


set_option maxHeartbeats 400000 in
theorem step_int (op : Int) (a : Int) (w : World) (h : (op == 0) = false) :
    Calls Try.prog 14 #[.int .i64 op, .iface 3 (.int .i64 a)] w fun e w' => e = .returned (stp op a 0 0) ∧ Below w.heap.size w w' := by
  go_enter Try.func14, Try.ntmps14
  go_wp2
  simp [bodyPost, results, Try.results14, go_sem]
  repeat (first | exact Below.refl _ _ | refine Below.drew ?_ | refine Below.alloc ?_ (by first | (simp; done) | (simp; omega)) _ | refine Below.setCell ?_ (by simp) _)

set_option maxHeartbeats 400000 in
theorem step_var (op : Int) (a b : Int) (w : World) (h : (op == 0) = false) :
    Calls Try.prog 14 #[.int .i64 op, .iface 55 (.agg #[.int .i64 a, .int .i64 b])] w fun e w' => e = .returned (stp op b 0 0) ∧ Below w.heap.size w w' := by
  go_enter Try.func14, Try.ntmps14
  go_wp2
  simp [bodyPost, results, Try.results14, go_sem]
  repeat (first | exact Below.refl _ _ | refine Below.drew ?_ | refine Below.alloc ?_ (by first | (simp; done) | (simp; omega)) _ | refine Below.setCell ?_ (by simp) _)

set_option maxHeartbeats 400000 in
theorem step_scope (op : Int) (a b c : Int) (w : World) (h : (op == 0) = false) :
    Calls Try.prog 14 #[.int .i64 op, .iface 56 (.agg #[.int .i64 a, .int .i64 b, .int .i64 c])] w fun e w' => e = .returned (stp op a b c) ∧ Below w.heap.size w w' := by
  go_enter Try.func14, Try.ntmps14
  go_wp2
  go_region
  all_goals (go_wp2; simp [bodyPost, results, Try.results14, go_sem]; repeat (first | exact Below.refl _ _ | refine Below.drew ?_ | refine Below.alloc ?_ (by first | (simp; done) | (simp; omega)) _ | refine Below.setCell ?_ (by simp) _))

set_option maxHeartbeats 400000 in
theorem step_int0 (a : Int) (w : World) :
    Calls Try.prog 14 #[.int .i64 0, .iface 3 (.int .i64 a)] w fun e w' => e = .returned (stp 0 0 0 0) ∧ Below w.heap.size w w' := by
  go_enter Try.func14, Try.ntmps14
  go_wp2
  simp [bodyPost, results, Try.results14, go_sem]
  repeat (first | exact Below.refl _ _ | refine Below.drew ?_ | refine Below.alloc ?_ (by first | (simp; done) | (simp; omega)) _ | refine Below.setCell ?_ (by simp) _)

set_option maxHeartbeats 400000 in
theorem step_var0 (a b : Int) (w : World) :
    Calls Try.prog 14 #[.int .i64 0, .iface 55 (.agg #[.int .i64 a, .int .i64 b])] w fun e w' => e = .returned (stp 0 0 0 0) ∧ Below w.heap.size w w' := by
  go_enter Try.func14, Try.ntmps14
  go_wp2
  simp [bodyPost, results, Try.results14, go_sem]
  repeat (first | exact Below.refl _ _ | refine Below.drew ?_ | refine Below.alloc ?_ (by first | (simp; done) | (simp; omega)) _ | refine Below.setCell ?_ (by simp) _)

/-- The same step, as sameStep has it. -/
def Same (d a b c d' a' b' c' : Int) : Prop := d = d' ∧ (d = 0 ∨ d = 2 ∨ d = 3 ∨ d = 14 ∨ d = 24 ∨ (a = a' ∧ (d = 23 → b = b' ∧ c = c')))
def SameOut (d a b c d' a' b' c' : Int) (w : World) (e : Ending) (w' : World) : Prop :=
  ∃ x : Bool, e = .returned (.bool x) ∧ (Same d a b c d' a' b' c' → x = true) ∧ (d ≠ d' → x = false) ∧
    w' = (w.alloc (.cells #[.int .i64 d, .int .i64 a, .int .i64 b, .int .i64 c] 26)).alloc (.cells #[.int .i64 d', .int .i64 a', .int .i64 b', .int .i64 c'] 26)

set_option maxHeartbeats 1000000 in
theorem same_any (d a b c d' a' b' c' : Int) (w : World) :
    Calls Try.prog 6 #[stp d a b c, stp d' a' b' c'] w (SameOut d a b c d' a' b' c' w) := by
  by_cases hd : d = d'
  · subst hd
    by_cases h0 : d = 0 ∨ d = 2 ∨ d = 3 ∨ d = 14 ∨ d = 24
    · rcases h0 with rfl | rfl | rfl | rfl | rfl
      all_goals
        go_enter Try.func6, Try.ntmps6
        go_wp2
        go_ret
        exact ⟨true, rfl, fun _ => rfl, fun h => absurd rfl h, rfl⟩
    have e0 : (d == 0) = false := beq_eq_false_iff_ne.2 (by omega)
    have e2 : (d == 2) = false := beq_eq_false_iff_ne.2 (by omega)
    have e3 : (d == 3) = false := beq_eq_false_iff_ne.2 (by omega)
    have e14 : (d == 14) = false := beq_eq_false_iff_ne.2 (by omega)
    have e24 : (d == 24) = false := beq_eq_false_iff_ne.2 (by omega)
    by_cases h23 : d = 23
    · subst h23
      clear e0 e2 e3 e14 e24 h0
      by_cases ha : a = a'
      · subst ha
        by_cases hb : b = b'
        · subst hb
          go_enter Try.func6, Try.ntmps6
          go_wp2
          go_ret
          exact ⟨c == c', rfl, fun h => by have := h.2; simp at this; simp [this], fun h => absurd rfl h, rfl⟩
        · have hb' : (b == b') = false := beq_eq_false_iff_ne.2 hb
          have HB := Lib.hid hb
          clear hb
          go_enter Try.func6, Try.ntmps6
          go_wp2
          go_ret
          exact ⟨false, rfl, fun h => by have := h.2; simp [HB.out] at this, fun h => absurd rfl h, rfl⟩
      · have ha' : (a == a') = false := beq_eq_false_iff_ne.2 ha
        have HA := Lib.hid ha
        clear ha
        go_enter Try.func6, Try.ntmps6
        go_wp2
        go_ret
        exact ⟨false, rfl, fun h => by have := h.2; simp [HA.out] at this, fun h => absurd rfl h, rfl⟩
    · have e23 : (d == 23) = false := beq_eq_false_iff_ne.2 (by omega)
      have H0 := Lib.hid h0
      have H23 := Lib.hid h23
      clear h0 h23
      go_enter Try.func6, Try.ntmps6
      go_wp2
      go_ret
      exact ⟨a == a', rfl, fun h => by have h1 := h.2; have h0 := H0.out; have : a = a' := (by omega); simp [this], fun h => absurd rfl h, rfl⟩
  · have hd' : (d == d') = false := beq_eq_false_iff_ne.2 hd
    have HD := Lib.hid hd
    clear hd
    go_enter Try.func6, Try.ntmps6
    go_wp2
    go_ret
    exact ⟨false, rfl, fun h => absurd h.1 HD.out, fun _ => rfl, rfl⟩

/-- The i-th instruction of a compiler: its field 'codes' is a slice over a row of pointers, each to a block of two cells. -/
structure Code1 (w : World) (C g n cap i p : Nat) (op : Int) (v : Value) : Prop where
  field : w.cell? ⟨C, 5, none⟩ = some (.slice (some ⟨g, 0, none⟩) n cap)
  ptr : w.cell? ⟨g, i, none⟩ = some (.pointer (some ⟨p, 0, none⟩))
  val : w.cell? ⟨p, 0, none⟩ = some v
  op : w.cell? ⟨p, 1, none⟩ = some (.int .i64 op)

set_option maxHeartbeats 1000000 in
theorem at_any (C g n cap i p : Nat) (op : Int) (v : Value) (w : World) (h : Code1 w C g n cap i p op v) (hi : i < n) :
    Calls Try.prog 15 #[.pointer (some ⟨C, 0, none⟩), .int .i64 i] w fun e w' => e = .returned (.tuple #[.int .i64 op, v]) ∧ ∃ k, w' = w.drewN k := by
  obtain ⟨h1, h2, h3, h4⟩ := h
  have hi' : (i : Int) < n := by omega
  have hi0 : (0 : Int) ≤ i := by omega
  go_enter Try.func15, Try.ntmps15
  go_wp2
  go_quiet (fail)
  go_wp2
  go_ret2
  exact ⟨rfl, _, rfl⟩
end Go.Proofs.Ytggochaclebnaaa
