/- Walks of append and ZzAppend. -/
import Derived.Test.YtggochaclebnaaaE
namespace Go.Proofs.Ytggochaclebnaaa
open Go.RowKit

theorem info51 : (Try.prog.info? 51).map (fun i => (i.zero, i.size, i.bytes)) = some (some (.pointer none), 1, 8) := by kernel_rfl

def AppOut (B K m : Nat) (P : Nat → Nat) (O : Nat → Int) (V : Nat → Value) (p : Nat) (op : Int) (x : Value) (w : World) (e : Ending) (w' : World) : Prop :=
  e = .returned (.tuple #[]) ∧ ∃ v', Codes w' B K (m + 1) v' (fun i => if i = m then p else P i) (fun i => if i = m then op else O i) (fun i => if i = m then x else V i) ∧ Below B w w'

theorem app_close {B K m p g cap : Nat} {v : Value} {P : Nat → Nat} {O : Nat → Int} {V : Nat → Value} {x : Value} {op : Int} {w w1 : World} {o : Obj} (h : Codes w B K m v P O V) (hc : Cel w p 54 #[x, .int .i64 op]) (hpB : B ≤ p) (hp : ∀ i, i < m → P i ≠ p) (hB : B ≤ w.heap.size)
    (hown : w1.ownsRow B 51 1 (.slice (some ⟨g, 0, none⟩) (m + 1) cap) (m + 1) (((List.range m).map fun i => ptr (P i)) ++ [ptr p])) (hg : (w.alloc o).grownBy w1 v.ownBlock) :
    Codes (w1.setCell ⟨K, 5, none⟩ (.slice (some ⟨g, 0, none⟩) (m + 1) cap)) B K (m + 1) (.slice (some ⟨g, 0, none⟩) (m + 1) cap) (fun i => if i = m then p else P i) (fun i => if i = m then op else O i) (fun i => if i = m then x else V i) ∧
      Below B w (w1.setCell ⟨K, 5, none⟩ (.slice (some ⟨g, 0, none⟩) (m + 1) cap)) := by
  have hb1 : Cel w1 K 49 (comp v) := (h.blk.alloc o).grown hg (fun e => own_apart h.own h.blk (by decide) e.symm)
  have hc1 : ∀ i, i < m → Cel w1 (P i) 54 #[V i, .int .i64 (O i)] := fun i hi => ((h.code i hi).alloc o).grown hg (fun e => own_apart h.own (h.code i hi) (by decide) e.symm)
  have hp1 : Cel w1 p 54 #[x, .int .i64 op] := (hc.alloc o).grown hg (fun e => own_apart h.own hc (by decide) e.symm)
  refine ⟨⟨hb1.put 5 _, ?_, fun i hi => ?_, fun i j hi hj e => ?_, h.low, fun i hi => ?_⟩, ?_⟩
  · have e : ((List.range (m + 1)).map fun i => ptr (if i = m then p else P i)) = ((List.range m).map fun i => ptr (P i)) ++ [ptr p] := by
      rw [List.range_succ, List.map_append, List.map_cons, List.map_nil, if_pos rfl]
      congr 1
      apply List.map_congr_left
      intro i hi
      rw [if_neg (by have := List.mem_range.1 hi; omega)]
    rw [e]
    exact own_far hown (own_apart hown hb1 (by decide)) _
  · by_cases ei : i = m
    · subst ei
      simp only [if_true]
      exact hp1.far (hp1.apart hb1 (by decide)) _
    · simp only [if_neg ei]
      exact (hc1 i (by omega)).far ((hc1 i (by omega)).apart hb1 (by decide)) _
  · by_cases ei : i = m <;> by_cases ej : j = m
    · omega
    · rw [if_pos ei, if_neg ej] at e
      exact absurd e.symm (hp j (by omega))
    · rw [if_neg ei, if_pos ej] at e
      exact absurd e (hp i (by omega))
    · rw [if_neg ei, if_neg ej] at e
      exact h.inj i j (by omega) (by omega) e
  · by_cases ei : i = m
    · rw [if_pos ei]; exact hpB
    · rw [if_neg ei]; exact h.lowP i (by omega)
  · refine (((Below.refl B w).alloc hB o).grown hg (by simp; omega) (fun k hk => (h.own.lt k hk).1)).setCell h.low _

set_option maxHeartbeats 1000000 in
theorem app_any (B K m p : Nat) (v : Value) (P : Nat → Nat) (O : Nat → Int) (V : Nat → Value) (x : Value) (op : Int) (w : World) (h : Codes w B K m v P O V) (hm : m < 200) (hc : Cel w p 54 #[x, .int .i64 op]) (hpB : B ≤ p) (hp : ∀ i, i < m → P i ≠ p) (hB : B ≤ w.heap.size) :
    Calls Try.prog 16 #[.pointer (some ⟨K, 0, none⟩), .pointer (some ⟨p, 0, none⟩)] w (AppOut B K m P O V p op x w) := by
  obtain ⟨i0, hi, hz0, hz1, hz2⟩ := info_parts info51
  have hk := h.blk.lt
  have k5 : w.cell? ⟨K, 5, none⟩ = some v := (h.blk.at_ 5).trans rfl
  have f5 := h.blk.free 5
  have HP := Lib.hid hp
  clear hp
  go_enter Try.func16, Try.ntmps16
  go_wp2_with (at_builtin; refine wpList_append_own _ rfl _ _ 44 rfl B 51 i0 (.pointer none) 1 8 Try.underlying44 hi hz0 hz1 hz2 rfl (by decide) v m _ rfl (h.own.alloc _) ⟨w.heap.size, 0, none⟩ 1 1 [ptr p] rfl rfl ?c1 ?c2 ?c3 ?c4 ?c5 ?next)
  case c1 => intro j u hj; match j, hj with | 0, hj => simp at hj; subst hj; simp [Addr.add, ptr]
  case c2 => intro u hu; simp at hu; subst hu; rfl
  case c3 => unfold maxLen; omega
  case c4 => omega
  case c5 => simp; omega
  case next =>
    intro v' w1 hown hgrow _
    obtain ⟨g, cap', rfl⟩ : ∃ g cap', v' = .slice (some ⟨g, 0, none⟩) (m + 1) cap' := by
      rcases hown.2 with ⟨_, h0⟩ | ⟨g, cap', _, h0, _⟩
      · omega
      · exact ⟨g, cap', h0⟩
    obtain ⟨r1, r2⟩ := app_close h hc hpB HP.out hB hown hgrow
    have hb1 : Cel w1 K 49 (comp v) := (h.blk.alloc _).grown hgrow (fun e => own_apart h.own h.blk (by decide) e.symm)
    have k5' : w1.cell? ⟨K, 5, none⟩ = some v := (hb1.at_ 5).trans rfl
    have f5' := hb1.free 5
    go_wp2
    go_end0
    exact ⟨rfl, _, r1, r2⟩

def ZAppOut (B K m : Nat) (P : Nat → Nat) (O : Nat → Int) (V : Nat → Value) (op : Int) (x : Value) (w : World) (e : Ending) (w' : World) : Prop :=
  e = .returned (.tuple #[]) ∧ ∃ v' p, Codes w' B K (m + 1) v' (fun i => if i = m then p else P i) (fun i => if i = m then op else O i) (fun i => if i = m then x else V i) ∧ Below B w w'

set_option maxHeartbeats 1000000 in
theorem zapp_any (B K m : Nat) (v : Value) (P : Nat → Nat) (O : Nat → Int) (V : Nat → Value) (T : TypeId) (y : Value) (op : Int) (w : World) (h : Codes w B K m v P O V) (hm : m < 200) (hB : B ≤ w.heap.size) :
    Calls Try.prog 10 #[.pointer (some ⟨K, 0, none⟩), .int .i64 op, .iface T y] w (ZAppOut B K m P O V op (.iface T y) w) := by
  have key := app_any B K m w.heap.size v P O V (.iface T y) op (w.alloc (.cells #[.iface T y, .int .i64 op] 54)) (h.alloc _) hm (Cel.made _ _ _) hB (fun i hi e => by have := (h.code i hi).lt; omega) (by simp; omega)
  have hb : Below B w (w.alloc (.cells #[.iface T y, .int .i64 op] 54)) := (Below.refl B w).alloc hB _
  go_enter Try.func10, Try.ntmps10
  go_wp2_with fail
  refine key.mono ?_
  rintro e w' ⟨rfl, v', r1, r2⟩
  go_wp2
  go_end0
  exact ⟨rfl, v', _, r1, hb.trans r2⟩
end Go.Proofs.Ytggochaclebnaaa
