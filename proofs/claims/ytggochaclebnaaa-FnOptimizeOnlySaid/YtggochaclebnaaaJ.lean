/- What Optimize walks with: the two passes' doors, operand, step; what it hands back. -/
import Derived.Test.YtggochaclebnaaaC
import Derived.Test.YtggochaclebnaaaI
import Derived.Deep.RegionWith
namespace Go.Proofs.Ytggochaclebnaaa
open Go.RowKit

set_option maxHeartbeats 400000 in
theorem calls_door (B K n : Nat) (v : Value) (P : Nat → Nat) (O : Nat → Int) (V : Nat → Value) (w : World) (h : Calls Try.prog 17 #[.pointer (some ⟨K, 0, none⟩)] w (TailOut B K n v P O V w)) :
    Calls Try.prog 12 #[.pointer (some ⟨K, 0, none⟩)] w (TailOut B K n v P O V w) := by
  go_enter Try.func12, Try.ntmps12
  go_wp2_with fail
  refine h.mono ?_
  rintro e w' ⟨rfl, hq⟩
  go_wp2
  go_end0
  exact ⟨rfl, hq⟩

set_option maxHeartbeats 400000 in
theorem ops_door (B K n : Nat) (v : Value) (P : Nat → Nat) (O : Nat → Int) (V : Nat → Value) (w : World) (h : Calls Try.prog 18 #[.pointer (some ⟨K, 0, none⟩)] w (OpsOut B K n v P O V w)) :
    Calls Try.prog 13 #[.pointer (some ⟨K, 0, none⟩)] w (OpsOut B K n v P O V w) := by
  go_enter Try.func13, Try.ntmps13
  go_wp2_with fail
  refine h.mono ?_
  rintro e w' ⟨rfl, hq⟩
  go_wp2
  go_end0
  exact ⟨rfl, hq⟩

/-! What is kept with an instruction, as an interface value. -/
def opT (d : Int) : TypeId := if d = 5 ∨ d = 6 then 55 else if d = 23 then 56 else 3
def opV (d a b c : Int) : Value := if d = 5 ∨ d = 6 then .agg #[.int .i64 0, .int .i64 a] else if d = 23 then .agg #[.int .i64 a, .int .i64 b, .int .i64 c] else .int .i64 a
theorem opd_eq (d a b c : Int) : opd d a b c = .iface (opT d) (opV d a b c) := by
  unfold opd opT opV
  by_cases h : d = 5 ∨ d = 6
  · rw [if_pos h, if_pos h, if_pos h]
  · rw [if_neg h, if_neg h, if_neg h]
    by_cases h' : d = 23
    · rw [if_pos h', if_pos h', if_pos h']
    · rw [if_neg h', if_neg h', if_neg h']
theorem operand2 (d a b c : Int) (w : World) :
    Calls Try.prog 11 #[stp d a b c] w fun e w' => e = .returned (.iface (opT d) (opV d a b c)) ∧ w' = w.alloc (.cells #[.int .i64 d, .int .i64 a, .int .i64 b, .int .i64 c] 26) := by
  have h := operand_any d a b c w
  rw [opd_eq] at h
  exact h
def opW (D A B C : Nat → Int) (i : Nat) : Value := .iface (opT (D i)) (opV (D i) (A i) (B i) (C i))
theorem opW_vok (D A B C : Nat → Int) (i : Nat) : VOk (opW D A B C i) := by
  unfold opW
  rw [← opd_eq]
  unfold opd
  split
  · exact .inr (.inl ⟨_, _, rfl⟩)
  · split
    · exact .inr (.inr ⟨_, _, _, rfl⟩)
    · exact .inl ⟨_, rfl⟩
theorem opW_int {D A B C : Nat → Int} {i : Nat} (h5 : D i ≠ 5) (h6 : D i ≠ 6) (h23 : D i ≠ 23) : opW D A B C i = .iface 3 (.int .i64 (A i)) := by
  unfold opW opT opV
  rw [if_neg (by omega), if_neg h23, if_neg (by omega), if_neg h23]
theorem opW_scope {D A B C : Nat → Int} {i : Nat} (h : D i = 23) : opW D A B C i = .iface 56 (.agg #[.int .i64 (A i), .int .i64 (B i), .int .i64 (C i)]) := by
  unfold opW opT opV
  rw [if_neg (by omega), if_pos h, if_neg (by omega), if_pos h]
theorem opW_var {D A B C : Nat → Int} {i : Nat} (h : D i = 5 ∨ D i = 6) : opW D A B C i = .iface 55 (.agg #[.int .i64 0, .int .i64 (A i)]) := by
  unfold opW opT opV
  rw [if_pos h, if_pos h]

set_option maxHeartbeats 400000 in
theorem step_scope0 (a b c : Int) (w : World) :
    Calls Try.prog 14 #[.int .i64 0, .iface 56 (.agg #[.int .i64 a, .int .i64 b, .int .i64 c])] w fun e w' => e = .returned (stp 0 0 0 0) ∧ Below w.heap.size w w' := by
  go_enter Try.func14, Try.ntmps14
  go_wp2
  go_region
  all_goals (go_wp2; simp [bodyPost, results, Try.results14, go_sem]; repeat (first | exact Below.refl _ _ | refine Below.drew ?_ | refine Below.alloc ?_ (by first | (simp; done) | (simp; omega)) _ | refine Below.setCell ?_ (by simp) _))

/-- What a step is read out of. -/
def SRel (o : Int) (v : Value) (d a b c : Int) : Prop :=
  d = o ∧ (o = 0 ∨ (∃ x, v = .iface 3 (.int .i64 x) ∧ a = x) ∨ (∃ x y, v = .iface 55 (.agg #[.int .i64 x, .int .i64 y]) ∧ a = y) ∨ (∃ x y z, v = .iface 56 (.agg #[.int .i64 x, .int .i64 y, .int .i64 z]) ∧ a = x ∧ b = y ∧ c = z))

def StepOut (o : Int) (v : Value) (w : World) (e : Ending) (w' : World) : Prop := ∃ d a b c, e = .returned (stp d a b c) ∧ SRel o v d a b c ∧ Below w.heap.size w w'

theorem step_any (o : Int) (v : Value) (w : World) (hv : VOk v) : Calls Try.prog 14 #[.int .i64 o, v] w (StepOut o v w) := by
  by_cases h0 : o = 0
  · subst h0
    rcases hv with ⟨a, rfl⟩ | ⟨a, b, rfl⟩ | ⟨a, b, c, rfl⟩
    · exact (step_int0 a w).mono fun e w' ⟨h1, h2⟩ => ⟨_, _, _, _, h1, ⟨rfl, .inl rfl⟩, h2⟩
    · exact (step_var0 a b w).mono fun e w' ⟨h1, h2⟩ => ⟨_, _, _, _, h1, ⟨rfl, .inl rfl⟩, h2⟩
    · exact (step_scope0 a b c w).mono fun e w' ⟨h1, h2⟩ => ⟨_, _, _, _, h1, ⟨rfl, .inl rfl⟩, h2⟩
  · have hb : (o == 0) = false := beq_eq_false_iff_ne.2 h0
    rcases hv with ⟨a, rfl⟩ | ⟨a, b, rfl⟩ | ⟨a, b, c, rfl⟩
    · exact (step_int o a w hb).mono fun e w' ⟨h1, h2⟩ => ⟨_, _, _, _, h1, ⟨rfl, .inr (.inl ⟨_, rfl, rfl⟩)⟩, h2⟩
    · exact (step_var o a b w hb).mono fun e w' ⟨h1, h2⟩ => ⟨_, _, _, _, h1, ⟨rfl, .inr (.inr (.inl ⟨_, _, rfl, rfl⟩))⟩, h2⟩
    · exact (step_scope o a b c w hb).mono fun e w' ⟨h1, h2⟩ => ⟨_, _, _, _, h1, ⟨rfl, .inr (.inr (.inr ⟨_, _, _, rfl, rfl, rfl, rfl⟩))⟩, h2⟩

/-- The first k steps that are handed back, in their row. -/
def Outs (cur : Array Value) (k : Nat) (O : Nat → Int) (V : Nat → Value) : Prop :=
  ∀ i, i < k → ∃ d a b c, SRel (O i) (V i) d a b c ∧ cur[i * 4]? = some (.int .i64 d) ∧ cur[i * 4 + 1]? = some (.int .i64 a) ∧ cur[i * 4 + 2]? = some (.int .i64 b) ∧ cur[i * 4 + 3]? = some (.int .i64 c)

def put4 (cur : Array Value) (k : Nat) (d a b c : Int) : Array Value :=
  (((cur.setIfInBounds (k * 4) (.int .i64 d)).setIfInBounds (k * 4 + 1) (.int .i64 a)).setIfInBounds (k * 4 + 2) (.int .i64 b)).setIfInBounds (k * 4 + 3) (.int .i64 c)

theorem put4_size (cur : Array Value) (k : Nat) (d a b c : Int) : (put4 cur k d a b c).size = cur.size := by simp [put4]

theorem put4_far (cur : Array Value) (k : Nat) (d a b c : Int) (j : Nat) (hj : j < k * 4) : (put4 cur k d a b c)[j]? = cur[j]? := by
  unfold put4
  rw [Array.getElem?_setIfInBounds_ne (by omega), Array.getElem?_setIfInBounds_ne (by omega), Array.getElem?_setIfInBounds_ne (by omega), Array.getElem?_setIfInBounds_ne (by omega)]

theorem Outs.step {cur : Array Value} {k n : Nat} {O : Nat → Int} {V : Nat → Value} (h : Outs cur k O V) (hs : cur.size = n * 4) (hk : k < n) {d a b c : Int} (hr : SRel (O k) (V k) d a b c) : Outs (put4 cur k d a b c) (k + 1) O V := by
  intro i hi
  by_cases e : i = k
  · subst e
    refine ⟨d, a, b, c, hr, ?_, ?_, ?_, ?_⟩
    · unfold put4
      rw [Array.getElem?_setIfInBounds_ne (by omega), Array.getElem?_setIfInBounds_ne (by omega), Array.getElem?_setIfInBounds_ne (by omega), Array.getElem?_setIfInBounds_self_of_lt (by omega)]
    · unfold put4
      rw [Array.getElem?_setIfInBounds_ne (by omega), Array.getElem?_setIfInBounds_ne (by omega), Array.getElem?_setIfInBounds_self_of_lt (by simp; omega)]
    · unfold put4
      rw [Array.getElem?_setIfInBounds_ne (by omega), Array.getElem?_setIfInBounds_self_of_lt (by simp; omega)]
    · unfold put4
      rw [Array.getElem?_setIfInBounds_self_of_lt (by simp; omega)]
  · obtain ⟨d', a', b', c', h0, h1, h2, h3, h4⟩ := h i (by omega)
    exact ⟨d', a', b', c', h0, by rw [put4_far _ _ _ _ _ _ _ (by omega)]; exact h1, by rw [put4_far _ _ _ _ _ _ _ (by omega)]; exact h2, by rw [put4_far _ _ _ _ _ _ _ (by omega)]; exact h3, by rw [put4_far _ _ _ _ _ _ _ (by omega)]; exact h4⟩

theorem Codes.congr {w : World} {B K m : Nat} {v : Value} {P : Nat → Nat} {O O' : Nat → Int} {V V' : Nat → Value} (h : Codes w B K m v P O V) (hO : ∀ i, i < m → O i = O' i) (hV : ∀ i, i < m → V i = V' i) : Codes w B K m v P O' V' :=
  ⟨h.blk, h.own, fun i hi => by rw [← hO i hi, ← hV i hi]; exact h.code i hi, h.inj, h.low, h.lowP⟩
end Go.Proofs.Ytggochaclebnaaa
