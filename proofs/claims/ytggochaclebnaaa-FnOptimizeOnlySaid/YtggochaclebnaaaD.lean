/- Walk of Steps. -/
import Derived.Test.YtggochaclebnaaaC
namespace Go.Proofs.Ytggochaclebnaaa
open Go.RowKit

theorem below_two {B : Nat} {w wr : World} (hb : Below B w wr) (hz : B ≤ wr.heap.size) (x y : Obj) : Below B w ((wr.alloc x).alloc y) :=
  (hb.alloc hz x).alloc (by simp; omega) y

def StepsOut (n : Nat) (D A : Nat → Int) (w : World) (e : Ending) (w' : World) : Prop :=
  ∃ x : Bool, e = .returned (.bool x) ∧ (x = true → Good n D A) ∧ Below w.heap.size w w'

theorem okat_step {n k : Nat} {D A : Nat → Int} (h : ∀ i, i < k → OkAt n D A i) (hk : OkAt n D A k) : ∀ i, i < k + 1 → OkAt n D A i := by
  intro i hi
  by_cases e : i = k
  · subst e; exact hk
  · exact h i (by omega)

theorem steps_no {n : Nat} {D A : Nat → Int} {w w' : World} (hb : Below w.heap.size w w') : StepsOut n D A w (.returned (.bool false)) w' := ⟨false, rfl, (fun h => by cases h), hb⟩

set_option maxHeartbeats 400000 in
theorem steps_nil (ao : Option Addr) (cap : Nat) (D A : Nat → Int) (w : World) :
    Calls Try.prog 4 #[.slice ao 0 cap] w (StepsOut 0 D A w) := by
  go_enter Try.func4, Try.ntmps4
  go_wp2
  go_ret
  exact steps_no (Below.refl _ _)

set_option maxHeartbeats 400000 in
theorem steps_long (ao : Option Addr) (n cap : Nat) (hn : 200 < n) (D A : Nat → Int) (w : World) :
    Calls Try.prog 4 #[.slice ao n cap] w (StepsOut n D A w) := by
  have h1 : ((n : Int) == 0) = false := beq_eq_false_iff_ne.2 (by omega)
  have h2 : (200 : Int) < n := by omega
  clear hn
  go_enter Try.func4, Try.ntmps4
  go_wp2
  go_ret
  exact steps_no (Below.refl _ _)

set_option maxRecDepth 100000 in
set_option maxHeartbeats 4000000 in
theorem steps_any (b off n cap : Nat) (D A B C : Nat → Int) (w : World) (hl : Lst w b off n D A B C) (hn0 : 0 < n) (hn : n ≤ 200) :
    Calls Try.prog 4 #[.slice (some ⟨b, off, none⟩) n cap] w (StepsOut n D A w) := by
  have g1 : ((n : Int) == 0) = false := beq_eq_false_iff_ne.2 (by omega)
  have g2 : (n : Int) ≤ 200 := by omega
  have cl := hl.d0 (n - 1) (by omega)
  by_cases hlast : D (n - 1) = 24
  · rw [hlast] at cl
    have Hlast := Lib.hid hlast
    clear hlast
    go_enter Try.func4, Try.ntmps4
    go_wp2
    go_loopw [3] (fun i wr => ∃ k : Nat, k ≤ n ∧ i = .int .i64 k ∧ Below w.heap.size w wr ∧ ∀ i, i < k → OkAt n D A i) (fun i _ => n - (intOf i).toNat)
    case atStart => exact ⟨0, Nat.zero_le _, rfl, Below.refl _ _, fun i hi => by omega⟩
    case round =>
      obtain ⟨k, hk, rfl, hb, hinv⟩ := hrel
      have Hinv := Lib.hid hinv
      clear hinv cl
      by_cases hlt : k < n
      · have hw := hl.below hb
        have hz := hb.size
        have hbl := hw.lt
        have c0 := hw.d0 k hlt
        have c1 := hw.d1 k hlt
        have c2 := hw.d2 k hlt
        have c3 := hw.d3 k hlt
        have step : OkAt n D A k → ∀ i, i < k + 1 → OkAt n D A i := okat_step Hinv.out
        have Step := Lib.hid step
        clear step
        by_cases hp : D k = 0 ∨ D k = 1 ∨ D k = 2 ∨ D k = 3 ∨ D k = 4 ∨ D k = 14 ∨ D k = 23 ∨ D k = 24
        · have HOk : Hid (∀ i, i < k + 1 → OkAt n D A i) := Step.out (.inl (by omega))
          clear Step
          generalize D k = d at *
          rcases hp with rfl | rfl | rfl | rfl | rfl | rfl | rfl | rfl
          all_goals
            go_wp2
            go_roundw
            case rel => exact ⟨k + 1, by omega, by go_num, hb.alloc hz _, HOk.out⟩
            case measure => simp [intOf]; omega
        · by_cases hv : D k = 5 ∨ D k = 6
          · have HOk : Hid (∀ i, i < k + 1 → OkAt n D A i) := Step.out (.inl (by omega))
            clear Step hp
            generalize D k = d at *
            by_cases ha : 0 ≤ A k ∧ A k < 8
            · obtain ⟨ha1, ha2⟩ := ha
              rcases hv with rfl | rfl
              all_goals
                go_wp2
                go_roundw
                case rel => exact ⟨k + 1, by omega, by go_num, hb.alloc hz _, HOk.out⟩
                case measure => simp [intOf]; omega
            · clear HOk
              by_cases ha0 : A k < 0
              · clear ha
                rcases hv with rfl | rfl
                all_goals
                  go_wp2
                  go_ret
                  exact steps_no (hb.alloc hz _)
              · have ha8 : 8 ≤ A k := by omega
                have ha9 : 0 ≤ A k := by omega
                clear ha ha0
                rcases hv with rfl | rfl
                all_goals
                  go_wp2
                  go_ret
                  exact steps_no (hb.alloc hz _)
          · have d0 : (D k == 0) = false := beq_eq_false_iff_ne.2 (by omega)
            have d1 : (D k == 1) = false := beq_eq_false_iff_ne.2 (by omega)
            have d2 : (D k == 2) = false := beq_eq_false_iff_ne.2 (by omega)
            have d3 : (D k == 3) = false := beq_eq_false_iff_ne.2 (by omega)
            have d4 : (D k == 4) = false := beq_eq_false_iff_ne.2 (by omega)
            have d5 : (D k == 5) = false := beq_eq_false_iff_ne.2 (by omega)
            have d6 : (D k == 6) = false := beq_eq_false_iff_ne.2 (by omega)
            have d14 : (D k == 14) = false := beq_eq_false_iff_ne.2 (by omega)
            have d23 : (D k == 23) = false := beq_eq_false_iff_ne.2 (by omega)
            have d24 : (D k == 24) = false := beq_eq_false_iff_ne.2 (by omega)
            clear hp hv
            by_cases ht : D k = 15 ∨ D k = 16 ∨ D k = 19 ∨ D k = 20
            · by_cases ha : 0 ≤ A k ∧ A k < n
              · obtain ⟨ha1, ha2⟩ := ha
                obtain ⟨j, hj⟩ := Int.eq_ofNat_of_zero_le ha1
                rw [hj] at ha1 ha2 c1
                have hjn : j < n := by omega
                have cj := hw.d0 j hjn
                have Hj := Lib.hid hj
                clear hj
                by_cases hcall : D k = 19 ∨ D k = 20
                · by_cases ht23 : D j = 23
                  · have HOk : Hid (∀ i, i < k + 1 → OkAt n D A i) := Step.out (.inr (.inr ⟨hcall, by rw [Hj.out]; omega, by rw [Hj.out]; omega, by rw [Hj.out]; simpa using ht23⟩))
                    rw [ht23] at cj
                    clear Step Hj ht23
                    clear d0 d1 d2 d3 d4 d5 d6 d14 d23 d24
                    by_cases hj0 : j = 0
                    · have hj1 : (j : Int) ≤ 0 := by omega
                      clear hj0
                      generalize D k = d at *
                      rcases hcall with rfl | rfl
                      all_goals
                        go_wp2_with (go_at_call 7; refine (target_yes _ _ _ _ (by omega) _).mono ?_; rintro e w' ⟨rfl, rfl⟩)
                        go_roundw
                        case rel => exact ⟨k + 1, by omega, by go_num, below_two hb hz _ _, HOk.out⟩
                        case measure => simp [intOf]; omega
                    · have hj1 : (0 : Int) < j := by omega
                      clear hj0
                      generalize D k = d at *
                      rcases hcall with rfl | rfl
                      all_goals
                        go_wp2_with (go_at_call 7; refine (target_yes _ _ _ _ (by omega) _).mono ?_; rintro e w' ⟨rfl, rfl⟩)
                        go_roundw
                        case rel => exact ⟨k + 1, by omega, by go_num, below_two hb hz _ _, HOk.out⟩
                        case measure => simp [intOf]; omega
                  · have n23 : (D j != 23) = true := bne_iff_ne.2 ht23
                    clear Step Hj ht23 d0 d1 d2 d3 d4 d5 d6 d14 d23 d24
                    generalize D j = t at *
                    generalize D k = d at *
                    rcases hcall with rfl | rfl
                    all_goals
                      go_wp2_with (go_at_call 7; refine (target_yes _ _ _ _ (by omega) _).mono ?_; rintro e w' ⟨rfl, rfl⟩)
                      go_ret
                      exact steps_no (below_two hb hz _ _)
                · have hjump : D k = 15 ∨ D k = 16 := by omega
                  clear hcall ht
                  by_cases hjk : j ≤ k
                  · clear Step Hj d0 d1 d2 d3 d4 d5 d6 d14 d23 d24
                    generalize D j = t at *
                    generalize D k = d at *
                    rcases hjump with rfl | rfl
                    all_goals
                      go_wp2_with (go_at_call 7; refine (target_yes _ _ _ _ (by omega) _).mono ?_; rintro e w' ⟨rfl, rfl⟩)
                      all_goals
                        go_ret
                        exact steps_no (below_two hb hz _ _)
                  · have hj0 : (0 : Int) < j := by omega
                    have hjk' : (k : Int) < j := by omega
                    clear hjk
                    by_cases ht2 : D j = 2 ∨ D j = 4
                    · clear Step Hj d0 d1 d2 d3 d4 d5 d6 d14 d23 d24
                      generalize D j = t at *
                      generalize D k = d at *
                      rcases hjump with rfl | rfl <;> rcases ht2 with rfl | rfl
                      all_goals
                        go_wp2_with (go_at_call 7; refine (target_yes _ _ _ _ (by omega) _).mono ?_; rintro e w' ⟨rfl, rfl⟩)
                        go_ret
                        exact steps_no (below_two hb hz _ _)
                    · have t2 : (D j == 2) = false := beq_eq_false_iff_ne.2 (by omega)
                      have t4 : (D j == 4) = false := beq_eq_false_iff_ne.2 (by omega)
                      clear ht2
                      have HOk : Hid (∀ i, i < k + 1 → OkAt n D A i) := Step.out (.inr (.inl ⟨hjump, by rw [Hj.out]; omega, by rw [Hj.out]; omega⟩))
                      clear Step Hj d0 d1 d2 d3 d4 d5 d6 d14 d23 d24
                      generalize D j = t at *
                      generalize D k = d at *
                      rcases hjump with rfl | rfl
                      · go_wp2_with (go_at_call 7; refine (target_yes _ _ _ _ (by omega) _).mono ?_; rintro e w' ⟨rfl, rfl⟩)
                        go_roundw
                        case rel => exact ⟨k + 1, by omega, by go_num, below_two hb hz _ _, HOk.out⟩
                        case measure => simp [intOf]; omega
                      · by_cases hj1 : j = k + 1
                        · subst hj1
                          go_wp2_with (go_at_call 7; refine (target_yes _ _ _ _ (by omega) _).mono ?_; rintro e w' ⟨rfl, rfl⟩)
                          go_ret
                          exact steps_no (below_two hb hz _ _)
                        · have hj3 : ((j : Int) == (k : Int) + 1) = false := beq_eq_false_iff_ne.2 (by omega)
                          clear hj1
                          go_wp2_with (go_at_call 7; refine (target_yes _ _ _ _ (by omega) _).mono ?_; rintro e w' ⟨rfl, rfl⟩)
                          go_roundw
                          case rel => exact ⟨k + 1, by omega, by go_num, below_two hb hz _ _, HOk.out⟩
                          case measure => simp [intOf]; omega
              · by_cases ha0 : A k < 0
                · clear ha Step
                  go_wp2_with (go_at_call 7; refine (target_yes _ _ _ _ ht _).mono ?_; rintro e w' ⟨rfl, rfl⟩)
                  go_ret
                  exact steps_no (below_two hb hz _ _)
                · have ha8 : (n : Int) ≤ A k := by omega
                  have ha9 : 0 ≤ A k := by omega
                  clear ha ha0 Step
                  go_wp2_with (go_at_call 7; refine (target_yes _ _ _ _ ht _).mono ?_; rintro e w' ⟨rfl, rfl⟩)
                  go_ret
                  exact steps_no (below_two hb hz _ _)
            · have t1 : D k ≠ 15 := by omega
              have t2 : D k ≠ 16 := by omega
              have t3 : D k ≠ 19 := by omega
              have t4 : D k ≠ 20 := by omega
              clear ht Step
              go_wp2_with (go_at_call 7; refine (target_no _ _ _ _ t1 t2 t3 t4 _).mono ?_; rintro e w' ⟨rfl, rfl⟩)
              go_ret
              exact steps_no (below_two hb hz _ _)
      · go_wp2
        go_ret
        exact ⟨true, rfl, fun _ => ⟨hn0, hn, Hlast.out, fun i hi => Hinv.out i (by omega)⟩, hb⟩
  · have hne : (D (n - 1) != 24) = true := bne_iff_ne.2 hlast
    clear hlast
    go_enter Try.func4, Try.ntmps4
    go_wp2
    go_ret
    exact steps_no (Below.refl _ _)
end Go.Proofs.Ytggochaclebnaaa
