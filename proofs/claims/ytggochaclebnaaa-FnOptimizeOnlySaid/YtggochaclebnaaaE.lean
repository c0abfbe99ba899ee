/- Words for memory: a block that is known whole; a compiler's list of instructions. -/
import Derived.Test.YtggochaclebnaaaB
namespace Go.Proofs.Ytggochaclebnaaa
open Go.RowKit

/-- Block g is just the cells cs of element type t; none is frozen. -/
def Cel (w : World) (g : Nat) (t : TypeId) (cs : Array Value) : Prop := w.heap[g]? = some (.cells cs t (0, 0))

section
variable {w w' : World} {g : Nat} {t : TypeId} {cs : Array Value}
theorem Cel.lt (h : Cel w g t cs) : g < w.heap.size := (Array.getElem?_eq_some_iff.1 h).1
theorem Cel.at_ (h : Cel w g t cs) (i : Nat) : w.cell? ⟨g, i, none⟩ = cs[i]? := cell_of_row w g i cs t (0, 0) h
theorem Cel.free (h : Cel w g t cs) (i : Nat) : w.frozen? ⟨g, i, none⟩ = false := by
  unfold Cel at h
  simp [World.frozen?, h]
theorem Cel.made (w : World) (t : TypeId) (cs : Array Value) : Cel (w.alloc (.cells cs t)) w.heap.size t cs := heap_alloc_new w _
theorem Cel.keep (h : Cel w g t cs) (hk : w'.heap[g]? = w.heap[g]?) : Cel w' g t cs := hk.trans h
theorem Cel.drewN (h : Cel w g t cs) (n : Nat) : Cel (w.drewN n) g t cs := h
theorem Cel.alloc (h : Cel w g t cs) (o : Obj) : Cel (w.alloc o) g t cs := h.keep (Below.heap_alloc w o g h.lt)
theorem Cel.put (h : Cel w g t cs) (i : Nat) (u : Value) : Cel (w.setCell ⟨g, i, none⟩ u) g t (cs.setIfInBounds i u) := by
  unfold Cel at h ⊢
  simp [World.setCell, Array.getElem?_modify, h]
theorem Cel.far (h : Cel w g t cs) {p : Addr} (hp : g ≠ p.block) (u : Value) : Cel (w.setCell p u) g t cs := h.keep (Below.heap_setCell w p u g hp)
theorem Cel.below {B : Nat} (h : Cel w g t cs) (hb : Below B w w') (hg : g < B) : Cel w' g t cs := h.keep (hb.block g hg)
theorem Cel.grown {row : Option Nat} (h : Cel w g t cs) (hb : w.grownBy w' row) (hg : some g ≠ row) : Cel w' g t cs := h.keep (hb.block g h.lt hg)
theorem Cel.apart {g' : Nat} {t' : TypeId} {cs' : Array Value} (h : Cel w g t cs) (h' : Cel w g' t' cs') (hne : t ≠ t') : g ≠ g' := by
  intro e
  subst e
  unfold Cel at h h'
  rw [h] at h'
  injection h' with h'
  injection h' with _ ht
  exact hne ht
theorem own_apart {base : Nat} {e : TypeId} {size n : Nat} {v : Value} {xs : List Value} (h : w.ownsRow base e size v n xs) (hg : Cel w g t cs) (hne : e ≠ t) : v.ownBlock ≠ some g := by
  intro he
  rcases h.2 with ⟨rfl, _⟩ | ⟨g', cap, cur, rfl, _, hh, _⟩
  · simp [Value.ownBlock] at he
  · have : g' = g := by simpa [Value.ownBlock] using he
    subst this
    exact Cel.apart (t := e) hh hg hne rfl
theorem own_apart2 {base base' : Nat} {e e' : TypeId} {size size' n n' : Nat} {v v' : Value} {xs xs' : List Value} (h : w.ownsRow base e size v n xs) (h' : w.ownsRow base' e' size' v' n' xs') (hne : e ≠ e') : v.ownBlock = none ∨ v.ownBlock ≠ v'.ownBlock := by
  rcases h'.2 with ⟨rfl, _⟩ | ⟨g', cap, cur, rfl, _, hh, _⟩
  · cases hv : v.ownBlock <;> simp [Value.ownBlock]
  · exact .inr (by simpa [Value.ownBlock] using own_apart h hh hne)
theorem own_far {base : Nat} {e : TypeId} {size n : Nat} {v : Value} {xs : List Value} (h : w.ownsRow base e size v n xs) {p : Addr} (hp : v.ownBlock ≠ some p.block) (u : Value) : (w.setCell p u).ownsRow base e size v n xs := by
  refine ⟨h.1, ?_⟩
  rcases h.2 with h2 | ⟨g, cap, cur, rfl, hb, hh, r⟩
  · exact .inl h2
  · exact .inr ⟨g, cap, cur, rfl, hb, (Below.heap_setCell w p u g (fun e => hp (by simp [Value.ownBlock, e]))).trans hh, r⟩
end

/-- A compiler's cells: v is its field 'codes'. -/
def comp (v : Value) : Array Value := #[.nilIface, .nilFunc, .slice none 0 0, .map none, .nilIface, v, .slice none 0 0, .pointer none, .slice none 0 0, .int .i64 0]

def ptr (p : Nat) : Value := .pointer (some ⟨p, 0, none⟩)

/-- The compiler at block K has m instructions: the i-th lies at block P i; its operation is O i, what it bears is V i. -/
structure Codes (w : World) (B K m : Nat) (v : Value) (P : Nat → Nat) (O : Nat → Int) (V : Nat → Value) : Prop where
  blk : Cel w K 49 (comp v)
  own : w.ownsRow B 51 1 v m ((List.range m).map fun i => ptr (P i))
  code : ∀ i, i < m → Cel w (P i) 54 #[V i, .int .i64 (O i)]
  inj : ∀ i j, i < m → j < m → P i = P j → i = j
  low : B ≤ K
  lowP : ∀ i, i < m → B ≤ P i

section
variable {w w' : World} {B K m : Nat} {v : Value} {P : Nat → Nat} {O : Nat → Int} {V : Nat → Value}
theorem Codes.keep (h : Codes w B K m v P O V) {row : Option Nat} (hg : w.grownBy w' row) (h1 : some K ≠ row) (h2 : v.ownBlock = none ∨ v.ownBlock ≠ row) (h3 : ∀ i, i < m → some (P i) ≠ row) : Codes w' B K m v P O V :=
  ⟨h.blk.grown hg h1, h.own.kept hg h2, fun i hi => (h.code i hi).grown hg (h3 i hi), h.inj, h.low, h.lowP⟩
theorem Codes.alloc (h : Codes w B K m v P O V) (o : Obj) : Codes (w.alloc o) B K m v P O V :=
  h.keep (World.grownBy_alloc w o none) (by simp) (by cases hv : v.ownBlock <;> simp) (fun _ _ => by simp)
theorem grown_of_below {B : Nat} (hb : Below B w w') (hB : w.heap.size ≤ B) : w.grownBy w' none := ⟨hb.os, hb.tape, hb.output, hb.size, fun k hk _ => hb.block k (by omega)⟩
theorem Codes.below (h : Codes w B K m v P O V) (hb : Below w.heap.size w w') : Codes w' B K m v P O V :=
  h.keep (grown_of_below hb (Nat.le_refl _)) (by simp) (by cases hv : v.ownBlock <;> simp) (fun _ _ => by simp)
theorem Codes.drewN (h : Codes w B K m v P O V) (k : Nat) : Codes (w.drewN k) B K m v P O V :=
  ⟨h.blk, ⟨h.own.1, h.own.2⟩, h.code, h.inj, h.low, h.lowP⟩

/-- The field's slice, written out: it has elements, so it is no nil. -/
theorem Codes.form (h : Codes w B K m v P O V) (hm : 0 < m) : ∃ g cap, v = .slice (some ⟨g, 0, none⟩) m cap ∧ (∀ i, i < m → w.cell? ⟨g, i, none⟩ = some (ptr (P i))) ∧ g < w.heap.size ∧ B ≤ g := by
  rcases h.own.2 with ⟨_, h0⟩ | ⟨g, cap, cur, rfl, hB, hh, _⟩
  · omega
  · refine ⟨g, cap, rfl, fun i hi => ?_, Cel.lt hh, hB⟩
    have := h.own.cells (g := g) rfl i (ptr (P i)) (by simp [hi])
    rw [← this]
    unfold Addr.add
    by_cases h0 : i = 0
    · subst h0; simp
    · simp [h0]

/-- A new operation for one. -/
theorem Codes.setOp (h : Codes w B K m v P O V) {k : Nat} (hk : k < m) (x : Int) : Codes (w.setCell ⟨P k, 1, none⟩ (.int .i64 x)) B K m v P (fun i => if i = k then x else O i) V := by
  refine ⟨h.blk.far (h.blk.apart (h.code k hk) (by decide)) _, own_far h.own (own_apart h.own (h.code k hk) (by decide)) _, fun i hi => ?_, h.inj, h.low, h.lowP⟩
  by_cases e : i = k
  · subst e
    rw [if_pos rfl]
    simpa using (h.code i hi).put 1 (.int .i64 x)
  · rw [if_neg e]
    exact (h.code i hi).far (fun e' => e (h.inj i k hi hk e')) _
/-- A new operand for one. -/
theorem Codes.setVal (h : Codes w B K m v P O V) {k : Nat} (hk : k < m) (x : Value) : Codes (w.setCell ⟨P k, 0, none⟩ x) B K m v P O (fun i => if i = k then x else V i) := by
  refine ⟨h.blk.far (h.blk.apart (h.code k hk) (by decide)) _, own_far h.own (own_apart h.own (h.code k hk) (by decide)) _, fun i hi => ?_, h.inj, h.low, h.lowP⟩
  by_cases e : i = k
  · subst e
    rw [if_pos rfl]
    simpa using (h.code i hi).put 0 x
  · rw [if_neg e]
    exact (h.code i hi).far (fun e' => e (h.inj i k hi hk e')) _
/-- What ZzAt reads. -/
theorem Codes.one (h : Codes w B K m v P O V) {g cap : Nat} (hv : v = .slice (some ⟨g, 0, none⟩) m cap) (hc : ∀ i, i < m → w.cell? ⟨g, i, none⟩ = some (ptr (P i))) {i : Nat} (hi : i < m) : Code1 w K g m cap i (P i) (O i) (V i) := by
  subst hv
  exact ⟨(h.blk.at_ 5).trans rfl, hc i hi, ((h.code i hi).at_ 0).trans rfl, ((h.code i hi).at_ 1).trans rfl⟩
end
end Go.Proofs.Ytggochaclebnaaa
