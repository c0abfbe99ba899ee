/- Walks of isProgram and Steps. -/
import Derived.Test.YtggochaclebnaaaB
import Derived.Deep.LoopGhost
import Derived.Deep.Light
import Derived.LoopTactic
namespace Go.Proofs.Ytggochaclebnaaa
open Go.RowKit

/-- A slice of Steps: n of them, in block b from off on; D, A, B, C their fields. -/
structure Lst (w : World) (b off n : Nat) (D A B C : Nat → Int) : Prop where
  lt : b < w.heap.size
  d0 : ∀ i, i < n → w.cell? ⟨b, off + i * 4, none⟩ = some (.int .i64 (D i))
  d1 : ∀ i, i < n → w.cell? ⟨b, off + i * 4 + 1, none⟩ = some (.int .i64 (A i))
  d2 : ∀ i, i < n → w.cell? ⟨b, off + i * 4 + 2, none⟩ = some (.int .i64 (B i))
  d3 : ∀ i, i < n → w.cell? ⟨b, off + i * 4 + 3, none⟩ = some (.int .i64 (C i))

theorem Lst.below {w w' : World} {b off n : Nat} {D A B C : Nat → Int} (h : Lst w b off n D A B C) (hb : Below w.heap.size w w') : Lst w' b off n D A B C :=
  ⟨Nat.lt_of_lt_of_le h.lt hb.size, fun i hi => (hb.cell (p := ⟨b, _, none⟩) h.lt).trans (h.d0 i hi), fun i hi => (hb.cell (p := ⟨b, _, none⟩) h.lt).trans (h.d1 i hi),
    fun i hi => (hb.cell (p := ⟨b, _, none⟩) h.lt).trans (h.d2 i hi), fun i hi => (hb.cell (p := ⟨b, _, none⟩) h.lt).trans (h.d3 i hi)⟩

/-- What is needed of a list of steps. -/
def OkAt (n : Nat) (D A : Nat → Int) (i : Nat) : Prop :=
  (D i = 0 ∨ D i = 1 ∨ D i = 2 ∨ D i = 3 ∨ D i = 4 ∨ D i = 5 ∨ D i = 6 ∨ D i = 14 ∨ D i = 23 ∨ D i = 24) ∨
  ((D i = 15 ∨ D i = 16) ∧ (i : Int) < A i ∧ A i < n) ∨
  ((D i = 19 ∨ D i = 20) ∧ 0 ≤ A i ∧ A i < n ∧ D (A i).toNat = 23)

structure Good (n : Nat) (D A : Nat → Int) : Prop where
  pos : 0 < n
  le : n ≤ 200
  last : D (n - 1) = 24
  ok : ∀ i, i < n → OkAt n D A i

set_option maxHeartbeats 1000000 in
theorem isprog (b off n cap : Nat) (D A B C : Nat → Int) (w : World) (hl : Lst w b off n D A B C) (hg : Good n D A) :
    Calls Try.prog 8 #[.slice (some ⟨b, off, none⟩) n cap] w fun e w' => e = .returned (.bool true) ∧ Below w.heap.size w w' := by
  have hn := hg.le
  have hp := hg.pos
  go_enter Try.func8, Try.ntmps8
  go_wp2
  go_loopw [7] (fun i wr => ∃ k : Nat, k ≤ n ∧ i = .int .i64 k ∧ Below w.heap.size w wr) (fun i _ => n - (intOf i).toNat)
  case atStart => exact ⟨0, Nat.zero_le _, rfl, Below.refl _ _⟩
  case round =>
    obtain ⟨k, hk, rfl, hb⟩ := hrel
    by_cases hlt : k < n
    · have hw := hl.below hb
      have hz := hb.size
      have hbl := hw.lt
      have c0 := hw.d0 k hlt
      have c1 := hw.d1 k hlt
      have c2 := hw.d2 k hlt
      have c3 := hw.d3 k hlt
      have hok := hg.ok k hlt
      have hcall : (D k = 19 ∨ D k = 20) → ∃ j : Nat, A k = (j : Int) ∧ j < n ∧ D j = 23 := by
        intro h
        rcases hok with h' | ⟨h', _⟩ | ⟨_, h1, h2, h3⟩
        · omega
        · omega
        · obtain ⟨j, hj⟩ := Int.eq_ofNat_of_zero_le h1
          rw [hj] at h2 h3
          exact ⟨j, hj, by omega, by simpa using h3⟩
      have hj : (D k = 15 ∨ D k = 16) → (k : Int) < A k ∧ A k < n := by
        intro h
        rcases hok with h' | ⟨_, h1⟩ | ⟨h', _⟩
        · omega
        · exact h1
        · omega
      have hall : D k = 0 ∨ D k = 1 ∨ D k = 2 ∨ D k = 3 ∨ D k = 4 ∨ D k = 5 ∨ D k = 6 ∨ D k = 14 ∨ D k = 23 ∨ D k = 24 ∨ D k = 15 ∨ D k = 16 ∨ D k = 19 ∨ D k = 20 := by
        rcases hok with h' | ⟨h', _⟩ | ⟨h', _⟩ <;> omega
      clear hok
      have Hall := Lib.hid hall
      have Hj := Lib.hid hj
      have Hcall := Lib.hid hcall
      clear hall hj hcall
      by_cases hc : D k = 19 ∨ D k = 20
      · obtain ⟨j, hA, hjn, hDj⟩ := Hcall.out hc
        have cj := hw.d0 j hjn
        rw [hDj] at cj
        rw [hA] at c1
        clear hA hDj Hcall Hj Hall
        generalize D k = dk at *
        rcases hc with rfl | rfl
        all_goals
          go_wp2
          go_roundw
          case rel => exact ⟨k + 1, by omega, by go_num, hb.alloc hz _⟩
          case measure => simp [intOf]; omega
      · by_cases hd : D k = 15 ∨ D k = 16
        · obtain ⟨hj1, hj2⟩ := Hj.out hd
          clear Hcall Hj Hall
          generalize D k = dk at *
          rcases hd with rfl | rfl
          all_goals
            go_wp2
            go_roundw
            case rel => exact ⟨k + 1, by omega, by go_num, hb.alloc hz _⟩
            case measure => simp [intOf]; omega
        · clear Hcall Hj
          generalize D k = dk at *
          rcases Hall.out with rfl | rfl | rfl | rfl | rfl | rfl | rfl | rfl | rfl | rfl | rfl | rfl | rfl | rfl
          all_goals (first | omega | skip)
          all_goals
            clear Hall hc hd
            go_wp2
            go_roundw
            case rel => exact ⟨k + 1, by omega, by go_num, hb.alloc hz _⟩
            case measure => simp [intOf]; omega
    · have hw := hl.below hb
      have cl := hw.d0 (n - 1) (by omega)
      rw [hg.last] at cl
      go_wp2
      go_ret
      exact ⟨rfl, hb⟩
end Go.Proofs.Ytggochaclebnaaa
