/- Walk of optimizeTailRec: it turns calls alone, into such as do not come back, or into jumps behind the beginning of what is called. -/
import Derived.Test.YtggochaclebnaaaH
namespace Go.Proofs.Ytggochaclebnaaa
open Go.RowKit Go.Maps

theorem wf_small {a : Int} {n : Nat} (hn : n ≤ 200) (h0 : 0 ≤ a) (h1 : a < n) : (Lit.int .i64 a).wf = true := WalkArith.wf_i64 (by omega)

set_option maxRecDepth 100000 in
set_option maxHeartbeats 4000000 in
theorem tail_any (B K n g cap : Nat) (P : Nat → Nat) (O : Nat → Int) (V : Nat → Value) (w : World) (h : Codes w B K n (.slice (some ⟨g, 0, none⟩) n cap) P O V) (hB : B ≤ w.heap.size)
    (hn0 : 0 < n) (hn : n ≤ 200) (hl : O (n - 1) = 24) (hf : Fwd n O V) (h19 : ∀ i, i < n → O i = 19 → ∃ a : Int, V i = .iface 3 (.int .i64 a)) (h23 : ∀ i, i < n → O i = 23 → ∃ a b c : Int, V i = .iface 56 (.agg #[.int .i64 a, .int .i64 b, .int .i64 c])) :
    Calls Try.prog 17 #[.pointer (some ⟨K, 0, none⟩)] w (TailOut B K n (.slice (some ⟨g, 0, none⟩) n cap) P O V w) := by
  have k5 : w.cell? ⟨K, 5, none⟩ = some (.slice (some ⟨g, 0, none⟩) n cap) := (h.blk.at_ 5).trans rfl
  have hK := h.blk.lt
  have Hl := Lib.hid hl
  have Hf := Lib.hid hf
  have H19 := Lib.hid h19
  have H23 := Lib.hid h23
  clear hl hf h19 h23
  obtain ⟨i0, hi, hz0, hz1, hz2⟩ := info_parts info3
  have HI := Lib.hid (And.intro hi (And.intro hz0 (And.intro hz1 hz2)))
  clear hi hz0 hz1 hz2
  have hmm := @run_makeMap Try.prog
  go_enter Try.func17, Try.ntmps17
  go_wp2
  go_step3
  go_wp2
  go_step3
  go_wp2
  clear hmm
  go_loopg [17, 2] n (fun r s17 s2 wx => ∃ k : Nat, k + r = n ∧ s17 = .int .i64 k ∧ TRel B K n w.heap.size (.slice (some ⟨g, 0, none⟩) n cap) P O V w k s2 wx)
  case atStart => exact ⟨0, by omega, rfl, trel_start h hB⟩
  case round =>
    obtain ⟨k, hkg, rfl, O', V', m, xs, hr⟩ := hrel
    cases gk with
    | zero =>
      have hkn : ¬ ((k : Int) < n) := by omega
      have fin : TailOut B K n (.slice (some ⟨g, 0, none⟩) n cap) P O V w (.returned (.tuple #[])) wr := ⟨rfl, O', V', hr.codes, hr.below, hr.inv.done⟩
      have Fin := Lib.hid fin
      clear fin
      go_wp2
      go_end0
      exact Fin.out
    | succ r =>
      have hkn : (k : Int) < n := by omega
      have hk : k < n := by omega
      have hc := hr.codes
      have kr : wr.cell? ⟨K, 5, none⟩ = some (.slice (some ⟨g, 0, none⟩) n cap) := (hc.blk.at_ 5).trans rfl
      obtain ⟨g', cap', e, hcell, hgl, _⟩ := hc.form hn0
      injection e with e1 e2 e3
      injection e1 with e1
      injection e1 with e1
      subst e1 e3
      have Hcell := Lib.hid hcell
      clear hcell
      have ck : wr.cell? ⟨g, k, none⟩ = some (.pointer (some ⟨P k, 0, none⟩)) := Hcell.out k hk
      have q0 : wr.cell? ⟨P k, 0, none⟩ = some (V' k) := ((hc.code k hk).at_ 0).trans rfl
      have q1 : wr.cell? ⟨P k, 1, none⟩ = some (.int .i64 (O' k)) := ((hc.code k hk).at_ 1).trans rfl
      have f0 := (hc.code k hk).free 0
      have f1 := (hc.code k hk).free 1
      obtain ⟨ho, hv⟩ := hr.inv.rest k (Nat.le_refl _) hk
      rw [hv] at q0
      rw [ho] at q1
      have Hv := Lib.hid hv
      clear ho hv
      have hs := hr.same
      have Hs := Lib.hid hs
      clear hs
      by_cases h24 : O k = 24
      · rw [h24] at q1
        by_cases hm : m = 0
        · subst hm
          obtain ⟨ao, cp, rfl⟩ := hr.bare
          have fin : TailOut B K n (.slice (some ⟨g, 0, none⟩) n cap) P O V w (.returned (.tuple #[])) wr := ⟨rfl, O', V', hr.codes, hr.below, hr.inv.done⟩
          have Fin := Lib.hid fin
          clear fin h24
          go_wp2
          go_end0
          exact Fin.out
        · obtain ⟨gp, cp, x, rfl, hmc, hx, _, _, _, hgpl, hpop⟩ := hr.last (by omega)
          have Hpop := Lib.hid hpop
          have hm1 : (1 : Int) ≤ m := by omega
          have hmz : ((m : Int) == 0) = false := beq_eq_false_iff_ne.2 (by omega)
          have hmle := hr.mle
          clear hpop hm h24
          go_wp2
          go_roundg r
          case measure => omega
          case rel => exact ⟨k + 1, by omega, by go_num, Hpop.out⟩
      have n24 : (O k == 24) = false := beq_eq_false_iff_ne.2 h24
      clear h24
      by_cases hO23 : O k = 23
      · obtain ⟨a, b, c, hV⟩ := H23.out k hk hO23
        rw [hO23] at q1
        rw [hV] at q0
        have hq0 : V' k = .iface 56 (.agg #[.int .i64 a, .int .i64 b, .int .i64 c]) := Hv.out.trans hV
        have Hq0 := Lib.hid hq0
        clear hO23 hV n24 hq0
        obtain ⟨hi, hz0, hz1, hz2⟩ := HI.out
        have hml1 : m + 1 ≤ maxLen := by have := hr.mle; unfold maxLen; omega
        have hml2 : (m + 1) * 8 ≤ 140737488355328 := by have := hr.mle; omega
        have hml3 : ∀ o : Obj, B ≤ (wr.alloc o).heap.size := fun o => by have := hr.below.size; have := hr.base; simp; omega
        go_wp2_with (at_builtin; refine wpList_append_own _ rfl _ _ 57 rfl B 3 i0 (.int .i64 0) 1 8 Try.underlying57 hi hz0 hz1 hz2 rfl (by decide) _ m _ rfl (hr.row.alloc _) ⟨wr.heap.size, 0, none⟩ 1 1 [.int .i64 k] rfl rfl (cell_one_new _ _ _) (fun u hu => by simp at hu; subst hu; rfl) hml1 hml2 (hml3 _) ?next)
        case next =>
          intro v' w1 hown hgrow _
          have hr1 := hr.push hk hown hgrow
          obtain ⟨D, hD⟩ := hr.push_sc hgrow
          have p0 : w1.cell? ⟨P k, 0, none⟩ = some (.iface 56 (.agg #[.int .i64 a, .int .i64 b, .int .i64 c])) := by rw [← Hq0.out]; exact ((hr1.codes.code k hk).at_ 0).trans rfl
          clear hown hgrow q0 q1 ck f0 f1 kr hi hz0 hz1 hz2
          by_cases hc0 : c = 0
          · subst hc0
            have hwf := wf_small hn (a := (k : Int)) (by omega) hkn
            go_wp2_with (at_mapUpdate; refine wpList_mapUpdate_own _ rfl _ _ _ 58 rfl 3 4 law3 Try.underlying58 (plainElem (H := Unit) Try.prog 4) w.heap.size (2 * k) D rfl (hD.alloc _) (by unfold maxLen; omega) _ _ _ rfl rfl (keyOf_int_mk Try.underlying3 hwf) _ [] (plainElem_bool Try.underlying4 _) ?next2)
            case next2 =>
              intro w4 hown4 hgrow4
              have hr4 := (hr1.box _).tell (Scopes.mono ⟨_, hown4⟩ (by omega)) hgrow4
              go_wp2
              go_roundg r
              case measure => omega
              case rel => exact ⟨k + 1, by omega, by go_num, O', V', m + 1, _, hr4⟩
          · have hcz : (c == 0) = false := beq_eq_false_iff_ne.2 hc0
            clear hc0
            go_wp2
            go_roundg r
            case measure => omega
            case rel => exact ⟨k + 1, by omega, by go_num, O', V', m + 1, _, hr1.box _⟩
      have n23 : (O k == 23) = false := beq_eq_false_iff_ne.2 hO23
      clear hO23
      by_cases hO19 : O k = 19
      · obtain ⟨a, hV⟩ := H19.out k hk hO19
        rw [hO19] at q1
        rw [hV] at q0
        have Hjump := Lib.hid (hr.jump hk hO19 hV)
        have Hrec := Lib.hid (hr.callrec hk hO19 hV)
        have Hv2 := Lib.hid hV
        have hk1 : k + 1 < n := by
          have h1 := Hl.out
          by_cases e : k = n - 1
          · rw [← e] at h1; omega
          · omega
        clear hO19 hV n24 n23
        by_cases hm : m = 0
        · subst hm
          obtain ⟨ao, cp, rfl⟩ := hr.bare
          go_wp2
          go_roundg r
          case measure => omega
          case rel => exact ⟨k + 1, by omega, by go_num, Hs.out⟩
        · obtain ⟨gp, cp, x, rfl, hmc, hx, hx0, hxn, hgpP, hgpl, _⟩ := hr.last (by omega)
          have hm1 : (1 : Int) ≤ m := by omega
          have hmz : ((m : Int) == 0) = false := beq_eq_false_iff_ne.2 (by omega)
          have hmle := hr.mle
          have hgk : gp ≠ P k := hgpP k hk
          clear hm hgpP
          by_cases hxa : x = a
          · subst hxa
            obtain ⟨x1, y1, hlook⟩ := hr.sc.look (wf_small hn hx0 hxn)
            cases y1 with
            | false =>
              go_wp2
              go_roundg r
              case measure => omega
              case rel => exact ⟨k + 1, by omega, by go_num, Hs.out⟩
            | true =>
              cases x1 with
              | false =>
                go_wp2
                go_loopg [10] (n - (k + 1)) (fun r2 s10 wy => ∃ j : Nat, j + r2 = n ∧ k < j ∧ j < n ∧ s10 = .int .i64 j ∧ wr = wy)
                case atStart => exact ⟨k + 1, by omega, by omega, by omega, by go_num, rfl⟩
                case round =>
                  obtain ⟨j, hjg, hkj, hjn, rfl, rfl⟩ := hrel
                  have hjn' : (j : Int) < n := by omega
                  have cj : wr.cell? ⟨g, j, none⟩ = some (.pointer (some ⟨P j, 0, none⟩)) := Hcell.out j hjn
                  obtain ⟨hoj, hvj⟩ := hr.inv.rest j (by omega) hjn
                  have j0 : wr.cell? ⟨P j, 0, none⟩ = some (V j) := hvj ▸ ((hc.code j hjn).at_ 0).trans rfl
                  have j1 : wr.cell? ⟨P j, 1, none⟩ = some (.int .i64 (O j)) := hoj ▸ ((hc.code j hjn).at_ 1).trans rfl
                  clear hoj hvj
                  by_cases hj15 : O j = 15
                  · obtain ⟨t, ht, hjt, htn⟩ := Hf.out j hjn (.inl hj15)
                    rw [hj15] at j1
                    rw [ht] at j0
                    clear hj15 ht
                    go_wp2
                    go_roundg (n - t)
                    case measure => omega
                    case rel => exact ⟨t, by omega, by omega, by omega, rfl, rfl⟩
                  have nj15 : (O j == 15) = false := beq_eq_false_iff_ne.2 hj15
                  clear hj15
                  by_cases hj24 : O j = 24
                  · rw [hj24] at j1
                    clear hj24 nj15
                    go_wp2
                    go_roundg r
                    case measure => omega
                    case rel => exact ⟨k + 1, by omega, by go_num, Hrec.out⟩
                  · have nj24 : (O j == 24) = false := beq_eq_false_iff_ne.2 hj24
                    clear hj24
                    generalize O j = oj at *
                    go_wp2
                    go_roundg r
                    case measure => omega
                    case rel => exact ⟨k + 1, by omega, by go_num, Hs.out⟩
              | true =>
                go_wp2
                go_loopg [10] (n - (k + 1)) (fun r2 s10 wy => ∃ j : Nat, j + r2 = n ∧ k < j ∧ j < n ∧ s10 = .int .i64 j ∧ wr = wy)
                case atStart => exact ⟨k + 1, by omega, by omega, by omega, by go_num, rfl⟩
                case round =>
                  obtain ⟨j, hjg, hkj, hjn, rfl, rfl⟩ := hrel
                  have hjn' : (j : Int) < n := by omega
                  have cj : wr.cell? ⟨g, j, none⟩ = some (.pointer (some ⟨P j, 0, none⟩)) := Hcell.out j hjn
                  obtain ⟨hoj, hvj⟩ := hr.inv.rest j (by omega) hjn
                  have j0 : wr.cell? ⟨P j, 0, none⟩ = some (V j) := hvj ▸ ((hc.code j hjn).at_ 0).trans rfl
                  have j1 : wr.cell? ⟨P j, 1, none⟩ = some (.int .i64 (O j)) := hoj ▸ ((hc.code j hjn).at_ 1).trans rfl
                  clear hoj hvj
                  by_cases hj15 : O j = 15
                  · obtain ⟨t, ht, hjt, htn⟩ := Hf.out j hjn (.inl hj15)
                    rw [hj15] at j1
                    rw [ht] at j0
                    clear hj15 ht
                    go_wp2
                    go_roundg (n - t)
                    case measure => omega
                    case rel => exact ⟨t, by omega, by omega, by omega, rfl, rfl⟩
                  have nj15 : (O j == 15) = false := beq_eq_false_iff_ne.2 hj15
                  clear hj15
                  by_cases hj24 : O j = 24
                  · rw [hj24] at j1
                    clear hj24 nj15
                    go_wp2
                    go_roundg r
                    case measure => omega
                    case rel => exact ⟨k + 1, by omega, by go_num, Hjump.out⟩
                  · have nj24 : (O j == 24) = false := beq_eq_false_iff_ne.2 hj24
                    clear hj24
                    generalize O j = oj at *
                    go_wp2
                    go_roundg r
                    case measure => omega
                    case rel => exact ⟨k + 1, by omega, by go_num, Hs.out⟩
          · have hxa1 : (x == a) = false := beq_eq_false_iff_ne.2 hxa
            have hxa2 : (x != a) = true := bne_iff_ne.2 hxa
            clear hxa
            go_wp2
            go_roundg r
            case measure => omega
            case rel => exact ⟨k + 1, by omega, by go_num, Hs.out⟩
      · have n19 : (O k == 19) = false := beq_eq_false_iff_ne.2 hO19
        clear hO19
        generalize O k = o at *
        go_wp2
        go_roundg r
        case measure => omega
        case rel => exact ⟨k + 1, by omega, by go_num, Hs.out⟩
end Go.Proofs.Ytggochaclebnaaa
