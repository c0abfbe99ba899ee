/- For every list of instructions and each of the two passes the law FnOptimizeOnly returns true, and both arguments read afterwards as they read before. No condition. -/
import Derived.Test.YtggochaclebnaaaM
import Derived.ProofKit
import Derived.Deep.Slices
namespace Go.Proofs.Ytggochaclebnaaa
open Go.ChangeShapes Go.WideShapes Go.ChangeAt Go.RowKit

theorem own : ownKnob Try.prog.godebug = none := by kernel_rfl
theorem laidOut : laidOutB Try.prog = true := by kernel_rfl
theorem cells26 : Try.prog.cellsOf 26 = 4 := by kernel_rfl
theorem cells3 : Try.prog.cellsOf 3 = 1 := by kernel_rfl

/-- A slice of Steps that came in: its cells are numbers. -/
theorem step_cells {H : Type} {enc : TypeId × Value → H} {w : World} {base : Nat} {spare : Nat → Bool} {held : Bool} {fuel : Nat} {cs : List Value} {x : DataW H × List MemPlace} (h : DataW.trod enc Try.prog w base spare held fuel 22 cs = some x) :
    cs = [.slice none 0 0] ∨ ∃ (a : Addr) (len cap : Nat), cs = [.slice (some a) len cap] ∧ ∀ i, i < len → ∀ j, j < 4 → ∃ z : Int, w.cell? (a.add (i * 4 + j)) = some (.int .i64 z) := by
  rcases Go.Deep.open_slice Try.underlying22 h with ⟨h0, _⟩ | ⟨a, len, cap, m, n, D, Pl, hcs, _, hl, _, hmm, _, hi⟩
  · exact .inl h0
  · refine .inr ⟨a, len, cap, hcs, fun i hil j hj => ?_⟩
    have him : i < m := by rw [hmm]; split <;> omega
    obtain ⟨cs', hc, ht'⟩ := hi i him
    rw [cells26] at hc
    obtain ⟨ys, n', _, _, hlen, hyl, hf⟩ := DataW.trod_struct Try.underlying26 ht'
    rw [cells26] at hlen
    obtain ⟨_, _, hat⟩ := World.cells?_some hc
    have hcell := hat j hj
    rw [Go.Deep.add_add] at hcell
    have hv : cs'[j]? = some (cs'[j]'(by omega)) := List.getElem?_eq_getElem (by omega)
    have hone : (cs'.drop j).take 1 = [cs'[j]'(by omega)] := by
      rw [List.drop_eq_getElem_cons (by omega)]
      rfl
    have hys : ys[j]? = some (ys[j]'(by rw [hyl]; exact hj)) := List.getElem?_eq_getElem _
    have ht : DataW.trod enc Try.prog w base spare held n' 3 [cs'[j]'(by omega)] = some (ys[j]'(by rw [hyl]; exact hj)) := by
      rw [← hys, ← hone]
      match j, hj with
      | 0, _ => exact hf 0 _ rfl
      | 1, _ => exact hf 1 _ rfl
      | 2, _ => exact hf 2 _ rfl
      | 3, _ => exact hf 3 _ rfl
    obtain ⟨z, e, _, _⟩ := DataW.trod_int Try.underlying3 ht
    refine ⟨z, ?_⟩
    rw [hcell, hv]
    injection e with e
    rw [e]

/-- The number in a cell. -/
def cellInt (w : World) (a : Addr) : Int := match w.cell? a with | some (.int .i64 z) => z | _ => 0
theorem cellInt_eq {w : World} {a : Addr} (h : ∃ z : Int, w.cell? a = some (.int .i64 z)) : w.cell? a = some (.int .i64 (cellInt w a)) := by
  obtain ⟨z, h⟩ := h
  unfold cellInt
  rw [h]

theorem law_all (ao : Option Addr) (len cap : Nat) (calls : Bool) (W : World) (hc : len = 0 ∨ ∃ a, ao = some a ∧ ∀ i, i < len → ∀ j, j < 4 → ∃ z : Int, W.cell? (a.add (i * 4 + j)) = some (.int .i64 z)) :
    Calls Try.prog 3 #[.slice ao len cap, .bool calls] W (Yes W) := by
  by_cases hbig : 2147483647 < len
  · exact law_huge ao len cap calls hbig W
  · by_cases hno : len = 0 ∨ 200 < len
    · exact law_no ao len cap calls (by omega) W
    · rcases hc with h0 | ⟨a, rfl, hc⟩
      · omega
      · obtain ⟨b, off, spot⟩ := a
        obtain ⟨z, hz⟩ := hc 0 (by omega) 0 (by omega)
        have hspot : spot = none := by simpa [Addr.add] using World.cell?_spot hz
        subst hspot
        have hb := World.block_lt_of_cell? W _ hz
        refine law_any b off len cap calls (fun i => cellInt W ⟨b, off + i * 4, none⟩) (fun i => cellInt W ⟨b, off + i * 4 + 1, none⟩) (fun i => cellInt W ⟨b, off + i * 4 + 2, none⟩) (fun i => cellInt W ⟨b, off + i * 4 + 3, none⟩) W ⟨?_, fun i hi => ?_, fun i hi => ?_, fun i hi => ?_, fun i hi => ?_⟩ (by omega) (by omega)
        · simpa [Addr.add] using hb
        · have h := cellInt_eq (hc i hi 0 (by omega))
          rw [add_plain] at h
          exact h
        · have h := cellInt_eq (hc i hi 1 (by omega))
          rw [add_plain] at h
          exact h
        · have h := cellInt_eq (hc i hi 2 (by omega))
          rw [add_plain] at h
          exact h
        · have h := cellInt_eq (hc i hi 3 (by omega))
          rw [add_plain] at h
          exact h

set_option maxRecDepth 100000 in
theorem lifted (os : Os) (started : os.Started) (H : Type) (enc : TypeId × Value → H) :
    ReturnsInHanded {} Try.checked os 3 .any (Rows.fnOptimizeOnlySpec.pre6 enc Try.prog Try.f3 Rows.fnOptimizeOnlyRow.domain false) (Rows.fnOptimizeOnlySpec.post enc Try.prog Try.f3 false true false false) := by
  refine returnsInHanded_of_change (C := Try.checked) own started (by kernel_rfl) Try.func3
    (ChangeSpec.witness6 (enc := enc) (C := Try.checked) false ⟨#[], #[.slice none 0 0, .bool false], []⟩ 8 (by kernel_rfl) (by kernel_rfl) (by kernel_rfl) (by kernel_rfl)) ?_
  intro W base args ds gs before hval0 hW _ _
  have hval : ∀ (j : Nat) t v, Try.f3.params[j]? = some t → args[j]? = some v → Value.okWide Try.prog W .any base t v := hval0
  have hW' := hW
  obtain ⟨p, q, hA0, hV, rfl, _, _⟩ := hW
  have hA : DataW.TrodAll enc Try.prog W 0 (fun _ => true) true Try.f3.params.toList args.toList ds p := hA0
  rw [Try.params3] at hA hval
  obtain ⟨v0, v1, d0, d1, p0, p1, rfl, rfl, rfl, h0, h1⟩ := trodAll_two hA
  obtain ⟨rfl, rfl⟩ := trodVars_none hV
  obtain ⟨calls, rfl, rfl, rfl⟩ := open_bool Try.underlying4 (hval 1 4 v1 rfl rfl) h1
  obtain ⟨a0, len, cap, rfl⟩ := okWide_slice Try.underlying22 (hval 0 22 v0 rfl rfl)
  have h0k := h0
  obtain ⟨fuel, hf⟩ := h0
  clear hA0 hval0
  simp only [List.append_nil] at hW'
  have hlt : ∀ x ∈ p0, x.block < W.heap.size := fun x hx => by simpa using hW'.lt x hx
  have hargs : ∀ (W' : World), Below W.heap.size W W' → DataW.Trod enc Try.prog W' 0 (fun b => decide (b < W.heap.size)) true 22 (.slice a0 len cap) d0 p0 :=
    fun W' hn => Below.trod laidOut (by kernel_rfl) (of_decide_eq_true (by kernel_rfl)) h0k hn hlt
  have hcells : len = 0 ∨ ∃ a, a0 = some a ∧ ∀ i, i < len → ∀ j, j < 4 → ∃ z : Int, W.cell? (a.add (i * 4 + j)) = some (.int .i64 z) := by
    rcases step_cells hf with hcs | ⟨a, len', cap', hcs, hc⟩
    · simp [Value.cells] at hcs
      exact .inl hcs.2.1
    · simp [Value.cells] at hcs
      obtain ⟨rfl, rfl, rfl⟩ := hcs
      exact .inr ⟨a, rfl, hc⟩
  refine (law_all a0 len cap calls W hcells).mono fun e W' ⟨he, hnx⟩ => ?_
  subst he
  refine ⟨_, rfl, _, _, _, [], p0 ++ [], [], hW', trodAll_mk1 (shut_bool Try.underlying4 true), trodAll_mk2 (hargs _ hnx) (shut_bool Try.underlying4 calls), rfl, hnx.frame _, fun h => by cases h⟩

/-- The statement. -/
theorem optimize_only : Rows.FnOptimizeOnlySaid :=
  OpenClaim.holds_of_wide 3 Try.f3 rfl rfl rfl rfl rfl rfl rfl ⟨rfl, rfl, rfl, rfl, rfl⟩ rfl rfl rfl rfl rfl (by kernel_rfl) Try.func3 (by kernel_rfl)
    (of_decide_eq_true (by kernel_rfl)) (by unfold Func.isWrapper; first | (rw [if_pos (by decide +kernel)]; kernel_rfl) | (rw [if_neg (by decide +kernel)]; exact ⟨rfl, rfl⟩))
    (fun os started H enc _ => lifted os started H enc)
#print axioms optimize_only
end Go.Proofs.Ytggochaclebnaaa
