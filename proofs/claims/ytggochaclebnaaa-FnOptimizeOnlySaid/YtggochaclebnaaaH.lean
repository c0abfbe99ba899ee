/- Walk of optimizeTailRec: it turns calls alone, into such as do not come back, or into jumps behind the beginning of what is called. -/
import Derived.Test.YtggochaclebnaaaG
import Derived.Maps.OwnOps
import Derived.Maps.OwnSet
import Derived.Deep.Light
import Derived.WalkSmall
namespace Go.Proofs.Ytggochaclebnaaa
open Go.RowKit Go.Maps

/-- How an instruction may be turned: a call, into one that does not come back, or into a jump behind the beginning of what is called. -/
def Turned (o : Int) (v : Value) (o' : Int) (v' : Value) : Prop := o = 19 ∧ ∃ a : Int, v = .iface 3 (.int .i64 a) ∧ ((o' = 20 ∧ v' = v) ∨ (o' = 15 ∧ v' = .iface 3 (.int .i64 (a + 1))))

def TEnd (n : Nat) (O : Nat → Int) (V : Nat → Value) (O' : Nat → Int) (V' : Nat → Value) : Prop := ∀ i, i < n → (O' i = O i ∧ V' i = V i) ∨ Turned (O i) (V i) (O' i) (V' i)

structure TInv (n : Nat) (O : Nat → Int) (V : Nat → Value) (O' : Nat → Int) (V' : Nat → Value) (k : Nat) : Prop where
  rest : ∀ i, k ≤ i → i < n → O' i = O i ∧ V' i = V i
  done : TEnd n O V O' V'

theorem TInv.next {n k : Nat} {O O' : Nat → Int} {V V' : Nat → Value} (h : TInv n O V O' V' k) : TInv n O V O' V' (k + 1) := ⟨fun i hi hn => h.rest i (by omega) hn, h.done⟩

theorem TInv.callrec {n k : Nat} {O O' : Nat → Int} {V V' : Nat → Value} (h : TInv n O V O' V' k) (hk : k < n) {a : Int} (ho : O k = 19) (hv : V k = .iface 3 (.int .i64 a)) : TInv n O V (upd O' k 20) V' (k + 1) := by
  refine ⟨fun i hi hn => ?_, fun i hn => ?_⟩
  · unfold upd; rw [if_neg (by omega)]; exact h.rest i (by omega) hn
  · unfold upd
    by_cases e : i = k
    · subst e
      rw [if_pos rfl]
      exact .inr ⟨ho, a, hv, .inl ⟨rfl, (h.rest i (Nat.le_refl _) hn).2⟩⟩
    · rw [if_neg e]; exact h.done i hn

theorem TInv.jump {n k : Nat} {O O' : Nat → Int} {V V' : Nat → Value} (h : TInv n O V O' V' k) {a : Int} (ho : O k = 19) (hv : V k = .iface 3 (.int .i64 a)) : TInv n O V (upd O' k 15) (upd V' k (.iface 3 (.int .i64 (a + 1)))) (k + 1) := by
  refine ⟨fun i hi hn => ?_, fun i hn => ?_⟩
  · unfold upd; rw [if_neg (by omega), if_neg (by omega)]; exact h.rest i (by omega) hn
  · unfold upd
    by_cases e : i = k
    · subst e
      rw [if_pos rfl, if_pos rfl]
      exact .inr ⟨ho, a, hv, .inr ⟨rfl, rfl⟩⟩
    · rw [if_neg e, if_neg e]; exact h.done i hn

def TailOut (B K n : Nat) (v : Value) (P : Nat → Nat) (O : Nat → Int) (V : Nat → Value) (w : World) (e : Ending) (w' : World) : Prop :=
  e = .returned (.tuple #[]) ∧ ∃ O' V', Codes w' B K n v P O' V' ∧ Below B w w' ∧ TEnd n O V O' V'

/-- The map of the scopes, of at most k entries: each a bool at a number. -/
def Scopes (w : World) (b k : Nat) : Prop := ∃ D : DataW Unit, w.ownsMap Try.prog 3 (plainElem Try.prog 4) b k D

theorem law3 : Keyed Try.prog 3 := int_keyed Try.underlying3
theorem zero4 (w : World) : (zeroValue 4).run Try.prog w = .ok (.bool false) w := by kernel_rfl
theorem info3 : (Try.prog.info? 3).map (fun i => (i.zero, i.size, i.bytes)) = some (some (.int .i64 0), 1, 8) := by kernel_rfl

theorem plainElem_bool_inv {H : Type} {P : Program} {e : TypeId} (he : P.underlying e = some .bool) {v : Value} {z : DataW H × List MemPlace} (h : plainElem P e v = some z) : ∃ x, v = .bool x := by
  unfold plainElem at h
  rw [he] at h
  cases v <;> simp at h
  exact ⟨_, rfl⟩

section
variable {w w' : World} {b k : Nat}
theorem Scopes.mono (h : Scopes w b k) {k' : Nat} (hk : k ≤ k') : Scopes w b k' := h.elim fun D hD => ⟨D, hD.mono hk⟩
theorem Scopes.kept (h : Scopes w b k) {row : Option Nat} (hg : w.grownBy w' row) (hne : some b ≠ row) : Scopes w' b k := h.elim fun D hD => ⟨D, hD.kept hg hne⟩
theorem Scopes.alloc (h : Scopes w b k) (o : Obj) : Scopes (w.alloc o) b k := h.elim fun D hD => ⟨D, hD.alloc o⟩
/-- 'v, ok := m[k]': two bools. -/
theorem Scopes.look (h : Scopes w b k) {a : Int} (ha : (Lit.int .i64 a).wf = true) : ∃ x y : Bool, (Instr.lookup 58 (.map (some b)) (.int .i64 a) true).run Try.prog w = .ok (.tuple #[.bool x, .bool y]) w := by
  obtain ⟨D, hD⟩ := h
  obtain ⟨v, ps, hrun, hv⟩ := hD.look_ok law3 Try.underlying58 (zero4 w) (plainElem_bool Try.underlying4 false) (keyOf_int_mk Try.underlying3 ha)
  obtain ⟨x, rfl⟩ := plainElem_bool_inv Try.underlying4 hv
  exact ⟨x, _, hrun⟩
theorem Scopes.apart (h : Scopes w b k) {g : Nat} {t : TypeId} {cs : Array Value} (hg : Cel w g t cs) : g ≠ b := by
  intro e
  subst e
  obtain ⟨D, es, clock, hb, _⟩ := h
  unfold Cel at hg
  rw [hg] at hb
  cases hb
theorem Scopes.own_apart (h : Scopes w b k) {base : Nat} {e : TypeId} {size n : Nat} {v : Value} {xs : List Value} (ho : w.ownsRow base e size v n xs) : v.ownBlock = none ∨ v.ownBlock ≠ some b := by
  rcases ho.2 with ⟨rfl, _⟩ | ⟨g, cap, cur, rfl, _, hh, _⟩
  · exact .inl rfl
  · refine .inr fun he => ?_
    have : g = b := by simpa [Value.ownBlock] using he
    exact Scopes.apart (t := e) h hh this
theorem grown_setCell (w : World) (p : Addr) (u : Value) : w.grownBy (w.setCell p u) (some p.block) :=
  ⟨rfl, rfl, rfl, by simp [World.setCell], fun k _ hk => Below.heap_setCell w p u k (fun e => hk (by rw [e]))⟩
end

/-- What holds at the head of a round of the pass over calls: k places have been gone through; pv is the stack of open scopes. -/
structure TR (B K n bm : Nat) (v : Value) (P : Nat → Nat) (O : Nat → Int) (V : Nat → Value) (w : World) (k : Nat) (pv : Value) (wr : World) (O' : Nat → Int) (V' : Nat → Value) (m : Nat) (xs : List Int) : Prop where
  codes : Codes wr B K n v P O' V'
  below : Below B w wr
  inv : TInv n O V O' V' k
  row : wr.ownsRow B 3 1 pv m (xs.map (Value.int .i64))
  mle : m ≤ k
  xs : ∀ x ∈ xs, 0 ≤ x ∧ x < n
  sc : Scopes wr bm (2 * k)
  base : B ≤ w.heap.size
  bm : B ≤ bm

def TRel (B K n bm : Nat) (v : Value) (P : Nat → Nat) (O : Nat → Int) (V : Nat → Value) (w : World) (k : Nat) (pv : Value) (wr : World) : Prop :=
  ∃ (O' : Nat → Int) (V' : Nat → Value) (m : Nat) (xs : List Int), TR B K n bm v P O V w k pv wr O' V' m xs

section
variable {B K n bm : Nat} {v : Value} {P : Nat → Nat} {O : Nat → Int} {V : Nat → Value} {w : World} {k : Nat} {pv : Value} {wr : World} {O' : Nat → Int} {V' : Nat → Value} {m : Nat} {xs : List Int}
theorem trel_start {B K n : Nat} {v : Value} {P : Nat → Nat} {O : Nat → Int} {V : Nat → Value} {w : World} (h : Codes w B K n v P O V) (hB : B ≤ w.heap.size) : TRel B K n w.heap.size v P O V w 0 (.slice none 0 0) (w.alloc (.map #[] 0)) :=
  ⟨O, V, 0, [], h.alloc _, (Below.refl B w).alloc hB _, ⟨fun _ _ _ => ⟨rfl, rfl⟩, fun _ _ => .inl ⟨rfl, rfl⟩⟩, World.ownsRow_nil _ _ _ _, Nat.le_refl _, (fun x hx => by cases hx), ⟨_, World.ownsMap_made w Try.prog 3 _⟩, hB, hB⟩
theorem TR.same (h : TR B K n bm v P O V w k pv wr O' V' m xs) : TRel B K n bm v P O V w (k + 1) pv wr :=
  ⟨O', V', m, xs, h.codes, h.below, h.inv.next, h.row, by have := h.mle; omega, h.xs, h.sc.mono (by omega), h.base, h.bm⟩
theorem TR.len (h : TR B K n bm v P O V w k pv wr O' V' m xs) : xs.length = m := by simpa using h.row.1
theorem TR.bare (h : TR B K n bm v P O V w k pv wr O' V' m xs) : ∃ ao cp, pv = .slice ao m cp := by
  rcases h.row.2 with ⟨rfl, rfl⟩ | ⟨g, cap, _, rfl, _⟩
  · exact ⟨_, _, rfl⟩
  · exact ⟨_, _, rfl⟩
/-- The stack is not empty: its last element. -/
theorem TR.last (h : TR B K n bm v P O V w k pv wr O' V' m xs) (hm : 0 < m) : ∃ gp cp x, pv = .slice (some ⟨gp, 0, none⟩) m cp ∧ m ≤ cp ∧ wr.cell? ⟨gp, m - 1, none⟩ = some (.int .i64 x) ∧ 0 ≤ x ∧ x < n ∧ (∀ i, i < n → gp ≠ P i) ∧ gp < wr.heap.size ∧
    TRel B K n bm v P O V w (k + 1) (.slice (some ⟨gp, 0, none⟩) (m - 1) cp) wr := by
  have hl := h.len
  rcases h.row.2 with ⟨_, h0⟩ | ⟨gp, cp, cur, rfl, hbg, hh, hmc, hcm, hcs, htk⟩
  · omega
  · have hx : xs[m - 1]? = some (xs[m - 1]'(by omega)) := List.getElem?_eq_getElem (by omega)
    have hmem : xs[m - 1]'(by omega) ∈ xs := List.getElem_mem _
    have hc := h.row.cells (g := gp) rfl (m - 1) (.int .i64 (xs[m - 1]'(by omega))) (by rw [List.getElem?_map, hx]; rfl)
    have hadd : (⟨gp, 0, none⟩ : Addr).add (m - 1) = ⟨gp, m - 1, none⟩ := by unfold Addr.add; split <;> simp_all
    rw [hadd] at hc
    refine ⟨gp, cp, xs[m - 1]'(by omega), rfl, hmc, hc, (h.xs _ hmem).1, (h.xs _ hmem).2, fun i hi e => ?_, Cel.lt hh, ?_⟩
    · exact Cel.apart (t := 3) hh (h.codes.code i hi) (by decide) e
    · refine ⟨O', V', m - 1, xs.take (m - 1), h.codes, h.below, h.inv.next, ?_, by have := h.mle; omega, fun x hx' => h.xs x (List.mem_of_mem_take hx'), h.sc.mono (by omega), h.base, h.bm⟩
      refine ⟨by simp; omega, .inr ⟨gp, cp, cur, rfl, hbg, hh, by omega, hcm, hcs, ?_⟩⟩
      have h3 : (cur.toList.take (m * 1)).take ((m - 1) * 1) = (xs.map (Value.int .i64)).take ((m - 1) * 1) := by rw [htk]
      rw [List.take_take, Nat.min_eq_left (by omega)] at h3
      rw [h3, List.map_take, Nat.mul_one]
theorem TR.callrec (h : TR B K n bm v P O V w k pv wr O' V' m xs) (hk : k < n) {a : Int} (ho : O k = 19) (hv : V k = .iface 3 (.int .i64 a)) : TRel B K n bm v P O V w (k + 1) pv (wr.setCell ⟨P k, 1, none⟩ (.int .i64 20)) :=
  ⟨_, _, m, xs, h.codes.setOp hk 20, h.below.setCell (p := ⟨P k, 1, none⟩) (h.codes.lowP k hk) _, h.inv.callrec hk ho hv, own_far h.row (own_apart h.row (h.codes.code k hk) (by decide)) _, by have := h.mle; omega, h.xs,
    (h.sc.mono (by omega : 2 * k ≤ 2 * (k + 1))).kept (grown_setCell _ _ _) (fun e => h.sc.apart (h.codes.code k hk) (by injection e with e; exact e.symm)), h.base, h.bm⟩
theorem TR.jump (h : TR B K n bm v P O V w k pv wr O' V' m xs) (hk : k < n) {a : Int} (ho : O k = 19) (hv : V k = .iface 3 (.int .i64 a)) :
    TRel B K n bm v P O V w (k + 1) pv ((wr.setCell ⟨P k, 1, none⟩ (.int .i64 15)).setCell ⟨P k, 0, none⟩ (.iface 3 (.int .i64 (a + 1)))) := by
  have c1 := h.codes.setOp hk 15
  have r1 := own_far h.row (p := ⟨P k, 1, none⟩) (own_apart h.row (h.codes.code k hk) (by decide)) (.int .i64 15)
  have s1 : Scopes (wr.setCell ⟨P k, 1, none⟩ (.int .i64 15)) bm (2 * (k + 1)) := (h.sc.mono (by omega : 2 * k ≤ 2 * (k + 1))).kept (grown_setCell _ _ _) (fun e => h.sc.apart (h.codes.code k hk) (by injection e with e; exact e.symm))
  exact ⟨_, _, m, xs, c1.setVal hk _, (h.below.setCell (p := ⟨P k, 1, none⟩) (h.codes.lowP k hk) _).setCell (p := ⟨P k, 0, none⟩) (h.codes.lowP k hk) _, h.inv.jump ho hv, own_far r1 (own_apart r1 (c1.code k hk) (by decide)) _, by have := h.mle; omega, h.xs,
    s1.kept (grown_setCell _ _ _) (fun e => s1.apart (c1.code k hk) (by injection e with e; exact e.symm)), h.base, h.bm⟩
theorem TR.push_sc (h : TR B K n bm v P O V w k pv wr O' V' m xs) {o : Obj} {w1 : World} (hg : (wr.alloc o).grownBy w1 pv.ownBlock) : Scopes w1 bm (2 * k) := by
  refine (h.sc.alloc o).kept hg fun e => ?_
  rcases (h.sc.alloc o).own_apart (h.row.alloc o) with h1 | h1
  · rw [h1] at e; cases e
  · exact h1 e.symm
/-- A place is pushed. -/
theorem TR.push (h : TR B K n bm v P O V w k pv wr O' V' m xs) (hk : k < n) {o : Obj} {pv' : Value} {w1 : World} (hown : w1.ownsRow B 3 1 pv' (m + 1) (xs.map (Value.int .i64) ++ [.int .i64 k])) (hg : (wr.alloc o).grownBy w1 pv.ownBlock) :
    TR B K n bm v P O V w (k + 1) pv' w1 O' V' (m + 1) (xs ++ [(k : Int)]) := by
  have hr := h.row.alloc o
  refine ⟨(h.codes.alloc o).keep hg (fun e => own_apart hr (h.codes.alloc o).blk (by decide) e.symm) (own_apart2 (h.codes.alloc o).own hr (by decide)) (fun i hi e => own_apart hr ((h.codes.alloc o).code i hi) (by decide) e.symm), ?_, h.inv.next, by simpa using hown, by have := h.mle; omega, ?_, ?_, h.base, h.bm⟩
  · have hs := h.below.size
    have hb := h.base
    exact (h.below.alloc (by omega) o).grown hg (by simp; omega) (fun j hj => (h.row.lt j hj).1)
  · intro x hx
    rcases List.mem_append.1 hx with h1 | h1
    · exact h.xs x h1
    · have : x = (k : Int) := by simpa using h1
      omega
  · exact (h.push_sc hg).mono (by omega)
/-- .. and a box is laid. -/
theorem TR.box (h : TR B K n bm v P O V w k pv wr O' V' m xs) (o : Obj) : TR B K n bm v P O V w k pv (wr.alloc o) O' V' m xs :=
  ⟨h.codes.alloc o, h.below.alloc (by have := h.below.size; have := h.base; omega) o, h.inv, h.row.alloc o, h.mle, h.xs, h.sc.alloc o, h.base, h.bm⟩
/-- .. and a scope is told. -/
theorem TR.tell (h : TR B K n bm v P O V w k pv wr O' V' m xs) {w1 : World} (hsc : Scopes w1 bm (2 * k)) (hg : wr.grownBy w1 (some bm)) : TR B K n bm v P O V w k pv w1 O' V' m xs :=
  ⟨h.codes.keep hg (fun e => h.sc.apart h.codes.blk (by injection e)) (h.sc.own_apart h.codes.own) (fun i hi e => h.sc.apart (h.codes.code i hi) (by injection e)), h.below.grown hg (by have := h.below.size; have := h.base; omega) (fun j hj => by injection hj with hj; have := h.bm; omega), h.inv, h.row.kept hg (h.sc.own_apart h.row), h.mle, h.xs, hsc, h.base, h.bm⟩
end
end Go.Proofs.Ytggochaclebnaaa
