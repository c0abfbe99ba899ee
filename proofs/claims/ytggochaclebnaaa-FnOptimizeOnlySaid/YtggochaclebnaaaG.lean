/- Walk of optimizeCodeOps: whatever it turns, it turns no call, no scope and no return. -/
import Derived.Test.YtggochaclebnaaaF
import Derived.LoopTactic
import Derived.Deep.LoopGhost
namespace Go.Proofs.Ytggochaclebnaaa
open Go.RowKit

/-- A call, a scope or a return. -/
def Sp (x : Int) : Prop := x = 19 ∨ x = 20 ∨ x = 23 ∨ x = 24

/-- What is kept with an instruction, in one of its three shapes. -/
def VOk (v : Value) : Prop := (∃ a : Int, v = .iface 3 (.int .i64 a)) ∨ (∃ a b : Int, v = .iface 55 (.agg #[.int .i64 a, .int .i64 b])) ∨ (∃ a b c : Int, v = .iface 56 (.agg #[.int .i64 a, .int .i64 b, .int .i64 c]))

def upd {α : Type} (f : Nat → α) (k : Nat) (x : α) : Nat → α := fun i => if i = k then x else f i

/-- Jumps lead forwards. -/
def Fwd (n : Nat) (O : Nat → Int) (V : Nat → Value) : Prop := ∀ i, i < n → (O i = 15 ∨ O i = 16) → ∃ a : Nat, V i = .iface 3 (.int .i64 a) ∧ i < a ∧ a < n

structure OInv (n : Nat) (O : Nat → Int) (V : Nat → Value) (O' : Nat → Int) (V' : Nat → Value) : Prop where
  sp : ∀ i, i < n → Sp (O i) → O' i = O i ∧ V' i = V i
  ok : ∀ i, i < n → VOk (V' i)
  jm : Fwd n O' V'

theorem OInv.setOp {n : Nat} {O O' : Nat → Int} {V V' : Nat → Value} (h : OInv n O V O' V') {q : Nat} (hq : q < n) (hs : ¬ Sp (O' q)) {x : Int} (h1 : x ≠ 15) (h2 : x ≠ 16) : OInv n O V (upd O' q x) V' := by
  refine ⟨fun i hi hsp => ?_, h.ok, fun i hi hj => ?_⟩
  · unfold upd
    by_cases e : i = q
    · subst e
      have := (h.sp i hi hsp).1
      exact absurd (this ▸ hsp) hs
    · rw [if_neg e]; exact h.sp i hi hsp
  · unfold upd at hj
    by_cases e : i = q
    · rw [if_pos e] at hj
      omega
    · rw [if_neg e] at hj; exact h.jm i hi hj

theorem OInv.setVal {n : Nat} {O O' : Nat → Int} {V V' : Nat → Value} (h : OInv n O V O' V') {q r : Nat} (hq : q < n) (hs : ¬ Sp (O' q)) (hr : r < n) (hqr : q < r) (h15 : O' r = 15) : OInv n O V O' (upd V' q (V' r)) := by
  refine ⟨fun i hi hsp => ?_, fun i hi => ?_, fun i hi hj => ?_⟩
  · unfold upd
    by_cases e : i = q
    · subst e
      have := (h.sp i hi hsp).1
      exact absurd (this ▸ hsp) hs
    · rw [if_neg e]; exact h.sp i hi hsp
  · unfold upd
    by_cases e : i = q
    · rw [if_pos e]; exact h.ok r hr
    · rw [if_neg e]; exact h.ok i hi
  · unfold upd
    by_cases e : i = q
    · subst e
      obtain ⟨a, ha, hra, han⟩ := h.jm r hr (.inl h15)
      rw [if_pos rfl]
      exact ⟨a, ha, by omega, han⟩
    · rw [if_neg e]; exact h.jm i hi hj

def OpsOut (B K n : Nat) (v : Value) (P : Nat → Nat) (O : Nat → Int) (V : Nat → Value) (w : World) (e : Ending) (w' : World) : Prop :=
  e = .returned (.tuple #[]) ∧ ∃ O' V', Codes w' B K n v P O' V' ∧ Below B w w' ∧ OInv n O V O' V'

/-- The relation at a round's head: i is the place that comes next, x the instruction behind it. -/
def OpsRel (B K n : Nat) (v : Value) (P : Nat → Nat) (O : Nat → Int) (V : Nat → Value) (w : World) (i : Int) (x : Value) (wr : World) : Prop :=
  ((i + 1 = n ∧ x = .pointer none) ∨ (∃ r : Nat, r < n ∧ i + 1 = r ∧ x = ptr (P r))) ∧ ∃ O' V', Codes wr B K n v P O' V' ∧ Below B w wr ∧ OInv n O V O' V'

/-- The end of a round. -/
theorem ops_next {B K n q : Nat} {v : Value} {P : Nat → Nat} {O : Nat → Int} {V : Nat → Value} {w wr : World} {O' : Nat → Int} {V' : Nat → Value} (hq : q < n) (hc : Codes wr B K n v P O' V') (hb : Below B w wr) (hi : OInv n O V O' V') :
    ∃ k : Int, -1 ≤ k ∧ k < n ∧ Value.int .i64 ((q : Int) - 1) = .int .i64 k ∧ OpsRel B K n v P O V w k (ptr (P q)) wr :=
  ⟨(q : Int) - 1, by omega, by omega, rfl, .inr ⟨q, hq, by omega, rfl⟩, O', V', hc, hb, hi⟩

set_option maxRecDepth 100000 in
set_option maxHeartbeats 4000000 in
theorem ops_any (B K n g cap : Nat) (P : Nat → Nat) (O : Nat → Int) (V : Nat → Value) (w : World) (h : Codes w B K n (.slice (some ⟨g, 0, none⟩) n cap) P O V)
    (hn0 : 0 < n) (hn : n ≤ 200) (hl : O (n - 1) = 24) (hi : OInv n O V O V) :
    Calls Try.prog 18 #[.pointer (some ⟨K, 0, none⟩)] w (OpsOut B K n (.slice (some ⟨g, 0, none⟩) n cap) P O V w) := by
  have k5 : w.cell? ⟨K, 5, none⟩ = some (.slice (some ⟨g, 0, none⟩) n cap) := (h.blk.at_ 5).trans rfl
  have Hl := Lib.hid hl
  clear hl
  have hn1 : (1 : Int) ≤ n := by omega
  go_enter Try.func18, Try.ntmps18
  go_wp2
  go_loopw [2, 3] (fun i x wr => ∃ k : Int, -1 ≤ k ∧ k < n ∧ i = .int .i64 k ∧ OpsRel B K n (.slice (some ⟨g, 0, none⟩) n cap) P O V w k x wr) (fun i _ _ => (intOf i + 1).toNat)
  case atStart => exact ⟨_, by omega, by omega, rfl, .inl ⟨by omega, rfl⟩, O, V, h, Below.refl _ _, hi⟩
  case round =>
    obtain ⟨k, hk1, hk2, rfl, hx, O', V', hc, hb, hinv⟩ := hrel
    by_cases hk0 : 0 ≤ k
    · obtain ⟨q, rfl⟩ := Int.eq_ofNat_of_zero_le hk0
      have hq : q < n := by omega
      have kr : wr.cell? ⟨K, 5, none⟩ = some (.slice (some ⟨g, 0, none⟩) n cap) := (hc.blk.at_ 5).trans rfl
      obtain ⟨g', cap', e, hcell, _⟩ := hc.form hn0
      injection e with e1 e2 e3
      injection e1 with e1
      injection e1 with e1
      subst e1 e3
      have Hcell := Lib.hid hcell
      clear hcell
      have cq : wr.cell? ⟨g, q, none⟩ = some (.pointer (some ⟨P q, 0, none⟩)) := Hcell.out q hq
      have q0 : wr.cell? ⟨P q, 0, none⟩ = some (V' q) := ((hc.code q hq).at_ 0).trans rfl
      have q1 : wr.cell? ⟨P q, 1, none⟩ = some (.int .i64 (O' q)) := ((hc.code q hq).at_ 1).trans rfl
      have f0 := (hc.code q hq).free 0
      have f1 := (hc.code q hq).free 1
      by_cases hpush : O' q = 1 ∨ O' q = 3 ∨ O' q = 5
      · have hnl : q + 1 < n := by
          by_cases e : q + 1 = n
          · have h1 := hinv.sp q hq (by have := Hl.out; rw [show n - 1 = q by omega] at this; rw [this]; exact .inr (.inr (.inr rfl)))
            have h2 := Hl.out
            rw [show n - 1 = q by omega] at h2
            omega
          · omega
        obtain ⟨r, hr, hr1, rfl⟩ : ∃ r : Nat, r < n ∧ (q : Int) + 1 = r ∧ u3 = ptr (P r) := by
          rcases hx with ⟨h1, _⟩ | h1
          · omega
          · exact h1
        have hr2 : r = q + 1 := by omega
        have Hr2 := Lib.hid hr2
        clear hr2 hr1 hx
        unfold ptr
        have r1 : wr.cell? ⟨P r, 1, none⟩ = some (.int .i64 (O' r)) := ((hc.code r hr).at_ 1).trans rfl
        have g1 := (hc.code r hr).free 1
        have hns : ¬ Sp (O' q) := by unfold Sp; omega
        have Hns := Lib.hid hns
        have hrq : r ≠ q := by have := Hr2.out; omega
        have hpp : P r ≠ P q := fun e => hrq (hc.inj r q hr hq e)
        by_cases h2 : O' r = 2
        · have fin := ops_next hq ((hc.setOp hq 0).setOp hr 0) ((hb.setCell (p := ⟨P q, 1, none⟩) (hc.lowP q hq) _).setCell (p := ⟨P r, 1, none⟩) (hc.lowP r hr) _) ((hinv.setOp hq hns (x := 0) (by decide) (by decide)).setOp (x := 0) hr (by unfold upd; rw [if_neg hrq, h2]; unfold Sp; omega) (by decide) (by decide))
          have Fin := Lib.hid fin
          clear fin hns
          rw [h2] at r1
          have H2 := Lib.hid h2
          clear h2
          generalize O' q = o at *
          rcases hpush with rfl | rfl | rfl
          all_goals
            go_wp2
            go_roundw
            case rel => exact Fin.out
            case measure => simp [intOf]
        by_cases h4 : O' r = 4
        · have fin := ops_next hq ((hc.setOp hq 0).setOp hr 1) ((hb.setCell (p := ⟨P q, 1, none⟩) (hc.lowP q hq) _).setCell (p := ⟨P r, 1, none⟩) (hc.lowP r hr) _) ((hinv.setOp hq hns (x := 0) (by decide) (by decide)).setOp (x := 1) hr (by unfold upd; rw [if_neg hrq, h4]; unfold Sp; omega) (by decide) (by decide))
          have Fin := Lib.hid fin
          clear fin hns
          rw [h4] at r1
          have H4 := Lib.hid h4
          clear h4 h2
          generalize O' q = o at *
          rcases hpush with rfl | rfl | rfl
          all_goals
            go_wp2
            go_roundw
            case rel => exact Fin.out
            case measure => simp [intOf]
        · have fin := ops_next hq hc hb hinv
          have Fin := Lib.hid fin
          clear fin hns
          have b2 : (O' r == 2) = false := beq_eq_false_iff_ne.2 h2
          have b4 : (O' r == 4) = false := beq_eq_false_iff_ne.2 h4
          clear h2 h4
          generalize O' r = t at *
          generalize O' q = o at *
          rcases hpush with rfl | rfl | rfl
          all_goals
            go_wp2
            go_roundw
            case rel => exact Fin.out
            case measure => simp [intOf]
      by_cases hjump : O' q = 15 ∨ O' q = 16
      · obtain ⟨a, ha, hqa, han⟩ := hinv.jm q hq hjump
        have hns : ¬ Sp (O' q) := by unfold Sp; omega
        rw [ha] at q0
        have Ha := Lib.hid ha
        clear ha hpush
        by_cases hn1 : a = q + 1
        · subst hn1
          have fin := ops_next hq (hc.setOp hq 0) (hb.setCell (p := ⟨P q, 1, none⟩) (hc.lowP q hq) _) (hinv.setOp hq hns (x := 0) (by decide) (by decide))
          have Fin := Lib.hid fin
          clear fin hns
          generalize O' q = o at *
          rcases hjump with rfl | rfl
          all_goals
            go_wp2
            go_roundw
            case rel => exact Fin.out
            case measure => simp [intOf]
        · have hne : ((a : Int) - 1 == (q : Int)) = false := beq_eq_false_iff_ne.2 (by omega)
          have han' : (a : Int) < n := by omega
          have ca : wr.cell? ⟨g, a, none⟩ = some (.pointer (some ⟨P a, 0, none⟩)) := Hcell.out a han
          have a1 : wr.cell? ⟨P a, 1, none⟩ = some (.int .i64 (O' a)) := ((hc.code a han).at_ 1).trans rfl
          clear hn1
          by_cases h15 : O' a = 15
          · obtain ⟨b, hab, _, _⟩ := hinv.jm a han (.inl h15)
            have a0 : wr.cell? ⟨P a, 0, none⟩ = some (.iface 3 (.int .i64 b)) := hab ▸ ((hc.code a han).at_ 0).trans rfl
            have fin := ops_next hq (hc.setVal hq (V' a)) (hb.setCell (p := ⟨P q, 0, none⟩) (hc.lowP q hq) _) (hinv.setVal hq hns han hqa h15)
            rw [hab] at fin
            have Fin := Lib.hid fin
            have Hab := Lib.hid hab
            clear fin hns hab
            rw [h15] at a1
            have H15 := Lib.hid h15
            clear h15
            generalize O' q = o at *
            rcases hjump with rfl | rfl
            all_goals
              go_wp2
              go_roundw
              case rel => exact Fin.out
              case measure => simp [intOf]
          · have b15 : (O' a == 15) = false := beq_eq_false_iff_ne.2 h15
            have fin := ops_next hq hc hb hinv
            have Fin := Lib.hid fin
            clear fin hns h15
            generalize O' a = oa at *
            generalize O' q = o at *
            rcases hjump with rfl | rfl
            all_goals
              go_wp2
              go_roundw
              case rel => exact Fin.out
              case measure => simp [intOf]
      · have b1 : (O' q == 1) = false := beq_eq_false_iff_ne.2 (by omega)
        have b3 : (O' q == 3) = false := beq_eq_false_iff_ne.2 (by omega)
        have b5 : (O' q == 5) = false := beq_eq_false_iff_ne.2 (by omega)
        have b15 : (O' q == 15) = false := beq_eq_false_iff_ne.2 (by omega)
        have b16 : (O' q == 16) = false := beq_eq_false_iff_ne.2 (by omega)
        have fin := ops_next hq hc hb hinv
        have Fin := Lib.hid fin
        clear fin hpush hjump hx
        generalize O' q = o at *
        go_wp2
        go_roundw
        case rel => exact Fin.out
        case measure => simp [intOf]
    · go_wp2
      go_end0
      exact ⟨rfl, O', V', hc, hb, hinv⟩
end Go.Proofs.Ytggochaclebnaaa
