/- Walk of the law. -/
import Derived.Test.YtggochaclebnaaaD
import Derived.Test.YtggochaclebnaaaK
import Derived.RegionTactic
import Derived.BigRegion
namespace Go.Proofs.Ytggochaclebnaaa
open Go.RowKit

/-- What may have become of a step. -/
def LCase (calls : Bool) (d a b c d' a' b' c' : Int) : Prop :=
  Same d a b c d' a' b' c' ∨ (calls = true ∧ d = 19 ∧ ((d' = 20 ∧ a' = a) ∨ (d' = 15 ∧ a' = a + 1))) ∨ (calls = false ∧ ¬ Sp d)

theorem same_of {D A B C : Nat → Int} {k : Nat} {d' a' b' c' : Int} (h : SRel (D k) (opW D A B C k) d' a' b' c') : Same (D k) (A k) (B k) (C k) d' a' b' c' := by
  obtain ⟨rfl, h⟩ := h
  refine ⟨rfl, ?_⟩
  rcases h with h | h
  · exact .inl h
  · refine .inr (.inr (.inr (.inr (.inr ?_))))
    by_cases h5 : D k = 5 ∨ D k = 6
    · rw [opW_var h5] at h
      rcases h with ⟨x, h, _⟩ | ⟨x, y, h, rfl⟩ | ⟨x, y, z, h, _⟩
      · cases h
      · simp at h
        exact ⟨h.2, fun h' => by omega⟩
      · cases h
    · by_cases h23 : D k = 23
      · rw [opW_scope h23] at h
        rcases h with ⟨x, h, _⟩ | ⟨x, y, h, _⟩ | ⟨x, y, z, h, rfl, rfl, rfl⟩
        · cases h
        · cases h
        · simp at h
          exact ⟨h.1, fun _ => ⟨h.2.1, h.2.2⟩⟩
      · rw [opW_int (by omega) (by omega) h23] at h
        rcases h with ⟨x, h, rfl⟩ | ⟨x, y, h, _⟩ | ⟨x, y, z, h, _⟩
        · simp at h
          exact ⟨h, fun h' => absurd h' h23⟩
        · cases h
        · cases h

theorem lcase_of {calls : Bool} {n : Nat} {D A B C : Nat → Int} {O' : Nat → Int} {V' : Nat → Value} (hP : PRel calls n D (opW D A B C) O' V') {k : Nat} (hk : k < n) {d' a' b' c' : Int} (hs : SRel (O' k) (V' k) d' a' b' c') : LCase calls (D k) (A k) (B k) (C k) d' a' b' c' := by
  cases calls with
  | true =>
    rcases hP.1 rfl k hk with ⟨h1, h2⟩ | ⟨h19, a, hv, h⟩
    · rw [h1, h2] at hs
      exact .inl (same_of hs)
    · rw [opW_int (by omega) (by omega) (by omega)] at hv
      have ha : A k = a := by simpa using hv
      refine .inr (.inl ⟨rfl, h19, ?_⟩)
      rcases h with ⟨h1, h2⟩ | ⟨h1, h2⟩
      · rw [h1, h2, opW_int (by omega) (by omega) (by omega)] at hs
        obtain ⟨e, h⟩ := hs
        simp at h
        exact .inl ⟨e, h⟩
      · rw [h1, h2] at hs
        obtain ⟨e, h⟩ := hs
        simp at h
        exact .inr ⟨e, by omega⟩
  | false =>
    by_cases hsp : Sp (D k)
    · obtain ⟨h1, h2⟩ := hP.2 rfl k hk hsp
      rw [h1, h2] at hs
      exact .inl (same_of hs)
    · exact .inr (.inr ⟨rfl, hsp⟩)

def Yes (w : World) (e : Ending) (w' : World) : Prop := e = .returned (.bool true) ∧ Below w.heap.size w w'

set_option maxHeartbeats 400000 in
theorem law_huge (ao : Option Addr) (n cap : Nat) (calls : Bool) (hn : 2147483647 < n) (w : World) : Calls Try.prog 3 #[.slice ao n cap, .bool calls] w (Yes w) := by
  have h1 : (2147483647 : Int) < n := by omega
  clear hn
  go_enter Try.func3, Try.ntmps3
  go_wp2_with fail
  go_ret
  exact ⟨rfl, Below.refl _ _⟩

set_option maxHeartbeats 400000 in
theorem law_no (ao : Option Addr) (n cap : Nat) (calls : Bool) (hn : n = 0 ∨ (200 < n ∧ n ≤ 2147483647)) (w : World) : Calls Try.prog 3 #[.slice ao n cap, .bool calls] w (Yes w) := by
  have h1 : (n : Int) ≤ 2147483647 := by omega
  have key : Calls Try.prog 4 #[.slice ao n cap] w (StepsOut n (fun _ => 0) (fun _ => 0) w) := by
    rcases hn with rfl | ⟨h, _⟩
    · exact steps_nil ao cap _ _ w
    · exact steps_long ao n cap h _ _ w
  have Hn := Lib.hid hn
  clear hn
  go_enter Try.func3, Try.ntmps3
  go_wp2_with fail
  refine key.mono ?_
  rintro e w1 ⟨x, rfl, hx, hb1⟩
  cases x with
  | false =>
    clear hx
    go_wp2
    go_ret
    exact ⟨rfl, hb1⟩
  | true =>
    have hg := hx rfl
    have h2 := hg.le
    have h3 := hg.pos
    have h4 := Hn.out
    omega

set_option maxRecDepth 100000 in
set_option maxHeartbeats 4000000 in
theorem law_any (b off n cap : Nat) (calls : Bool) (D A B C : Nat → Int) (w : World) (hl : Lst w b off n D A B C) (hn0 : 0 < n) (hn : n ≤ 200) : Calls Try.prog 3 #[.slice (some ⟨b, off, none⟩) n cap, .bool calls] w (Yes w) := by
  have h1 : (n : Int) ≤ 200 := by omega
  go_enter Try.func3, Try.ntmps3
  go_wp2_with fail
  refine (steps_any b off n cap D A B C w hl hn0 hn).mono ?_
  rintro e w1 ⟨x, rfl, hx, hb1⟩
  cases x with
  | false =>
    clear hx
    go_wp2
    go_ret
    exact ⟨rfl, hb1⟩
  | true =>
    have hg := hx rfl
    clear hx
    go_wp2_with fail
    refine (opt_any b off n cap calls D A B C w1 (hl.below hb1) hg).mono ?_
    rintro e w2 ⟨g, O', V', cur, rfl, hb2, hgl, hcur, houts, hP⟩
    have Houts := Lib.hid houts
    have Hcase := Lib.hid (fun (k : Nat) (hk : k < n) (d' a' b' c' : Int) => lcase_of (B := B) (C := C) (d' := d') (a' := a') (b' := b') (c' := c') hP hk)
    have hl2 : Lst w2 b off n D A B C := (hl.below hb1).below hb2
    have hb12 : Below w.heap.size w w2 := hb1.trans (hb2.mono hb1.size)
    clear houts hP hb1 hb2
    go_wp2_with fail
    go_loopg [6] n (fun r s6 wx => ∃ k : Nat, k + r = n ∧ s6 = .int .i64 k ∧ Below w2.heap.size w2 wx)
    case atStart => exact ⟨0, by omega, rfl, Below.refl _ _⟩
    case round =>
      obtain ⟨k, hkg, rfl, hb⟩ := hrel
      cases gk with
      | zero =>
        have hkn : ¬ ((k : Int) < n) := by omega
        have fin : Yes w (.returned (.bool true)) wr := ⟨rfl, hb12.trans (hb.mono hb12.size)⟩
        have Fin := Lib.hid fin
        clear fin
        go_wp2
        go_ret
        exact Fin.out
      | succ r =>
        have hkn : (k : Int) < n := by omega
        have hk : k < n := by omega
        obtain ⟨d', a', b', c', hs, y0, y1, y2, y3⟩ := Houts.out k hk
        have hcase := Hcase.out k hk d' a' b' c' hs
        have hz := hb.size
        clear hs
        have hw := hl2.below hb
        have hbl := hw.lt
        have hgr : g < wr.heap.size := by omega
        have c0 := hw.d0 k hk
        have c1 := hw.d1 k hk
        have c2 := hw.d2 k hk
        have c3 := hw.d3 k hk
        have hcr := hcur.below hb hgl
        have x0 := (hcr.at_ (k * 4)).trans y0
        have x1 := (hcr.at_ (k * 4 + 1)).trans y1
        have x2 := (hcr.at_ (k * 4 + 2)).trans y2
        have x3 := (hcr.at_ (k * 4 + 3)).trans y3
        clear y0 y1 y2 y3
        have hA : D k = 19 → 0 ≤ A k ∧ A k < n := by
          intro h
          rcases hg.ok k hk with h' | ⟨h', _⟩ | ⟨_, h1, h2, _⟩
          · omega
          · omega
          · exact ⟨h1, h2⟩
        have Hg := Lib.hid hg
        clear hg
        rcases hcase with hS | ⟨rfl, hd, ⟨rfl, rfl⟩ | ⟨rfl, rfl⟩⟩ | ⟨rfl, hsp⟩
        · have HS := Lib.hid hS
          clear hS hA
          go_wp2
          go_region
          all_goals
            go_wp2_with fail
            refine (same_any _ _ _ _ _ _ _ _ _).mono ?_
            rintro e w3 ⟨x, rfl, hx1, hx2, rfl⟩
            have hxt : x = true := hx1 HS.out
            subst hxt
            clear hx1 hx2
            go_wp2
            go_roundg r
            case measure => omega
            case rel => exact ⟨k + 1, by omega, by go_num, by repeat (first | exact hb | refine Below.drew ?_ | refine Below.alloc ?_ (by first | omega | (simp; done) | (simp; omega)) _ | refine Below.setCell ?_ (by simp; omega) _)⟩
        · obtain ⟨hA1, hA2⟩ := hA hd
          rw [hd] at c0
          have Hd := Lib.hid hd
          clear hd hA
          go_wp2
          go_region
          all_goals
            go_wp2_with fail
            refine (same_any _ _ _ _ _ _ _ _ _).mono ?_
            rintro e w3 ⟨x, rfl, hx1, hx2, rfl⟩
            have hxf : x = false := hx2 (by decide)
            subst hxf
            clear hx1 hx2
            go_wp2
            go_roundg r
            case measure => omega
            case rel => exact ⟨k + 1, by omega, by go_num, by repeat (first | exact hb | refine Below.drew ?_ | refine Below.alloc ?_ (by first | omega | (simp; done) | (simp; omega)) _ | refine Below.setCell ?_ (by simp; omega) _)⟩
        · obtain ⟨hA1, hA2⟩ := hA hd
          rw [hd] at c0
          have Hd := Lib.hid hd
          clear hd hA
          go_wp2
          go_region
          all_goals
            go_wp2_with fail
            refine (same_any _ _ _ _ _ _ _ _ _).mono ?_
            rintro e w3 ⟨x, rfl, hx1, hx2, rfl⟩
            have hxf : x = false := hx2 (by decide)
            subst hxf
            clear hx1 hx2
            go_wp2
            go_roundg r
            case measure => omega
            case rel => exact ⟨k + 1, by omega, by go_num, by repeat (first | exact hb | refine Below.drew ?_ | refine Below.alloc ?_ (by first | omega | (simp; done) | (simp; omega)) _ | refine Below.setCell ?_ (by simp; omega) _)⟩
        · have e19 : (D k == 19) = false := beq_eq_false_iff_ne.2 (fun h => hsp (.inl h))
          have e20 : (D k == 20) = false := beq_eq_false_iff_ne.2 (fun h => hsp (.inr (.inl h)))
          have e23 : (D k == 23) = false := beq_eq_false_iff_ne.2 (fun h => hsp (.inr (.inr (.inl h))))
          have e24 : (D k == 24) = false := beq_eq_false_iff_ne.2 (fun h => hsp (.inr (.inr (.inr h))))
          clear hsp hA
          go_wp2
          go_region
          all_goals
            go_wp2_with fail
            refine (same_any _ _ _ _ _ _ _ _ _).mono ?_
            rintro e w3 ⟨x, rfl, hx1, hx2, rfl⟩
            clear hx1 hx2
            cases x
            all_goals
              go_wp2
              go_roundg r
              case measure => omega
              case rel => exact ⟨k + 1, by omega, by go_num, by repeat (first | exact hb | refine Below.drew ?_ | refine Below.alloc ?_ (by first | omega | (simp; done) | (simp; omega)) _ | refine Below.setCell ?_ (by simp; omega) _)⟩
end Go.Proofs.Ytggochaclebnaaa
