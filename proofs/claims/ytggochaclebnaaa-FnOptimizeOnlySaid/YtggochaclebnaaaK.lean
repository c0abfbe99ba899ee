/- Walk of Optimize: what it hands back. -/
import Derived.Test.YtggochaclebnaaaJ
namespace Go.Proofs.Ytggochaclebnaaa
open Go.RowKit

/-- What the two passes may turn. -/
def PRel (calls : Bool) (n : Nat) (O : Nat → Int) (V : Nat → Value) (O' : Nat → Int) (V' : Nat → Value) : Prop :=
  (calls = true → TEnd n O V O' V') ∧ (calls = false → ∀ i, i < n → Sp (O i) → O' i = O i ∧ V' i = V i)

def OptOut (calls : Bool) (n : Nat) (D A B C : Nat → Int) (w : World) (e : Ending) (w' : World) : Prop :=
  ∃ g O' V' cur, e = .returned (.slice (some ⟨g, 0, none⟩) n n) ∧ Below w.heap.size w w' ∧ g < w'.heap.size ∧ Cel w' g 26 cur ∧ Outs cur n O' V' ∧ PRel calls n D (opW D A B C) O' V'

theorem good_fwd {n : Nat} {D A B C : Nat → Int} (hg : Good n D A) : Fwd n D (opW D A B C) := by
  intro i hi hj
  rcases hg.ok i hi with h | ⟨_, h1, h2⟩ | ⟨h, _⟩
  · omega
  · obtain ⟨a, ha⟩ := Int.eq_ofNat_of_zero_le (show 0 ≤ A i by omega)
    rw [ha] at h1 h2
    exact ⟨a, by rw [opW_int (by omega) (by omega) (by omega), ha], by omega, by omega⟩
  · omega
theorem good_oinv {n : Nat} {D A B C : Nat → Int} (hg : Good n D A) : OInv n D (opW D A B C) D (opW D A B C) := ⟨fun _ _ _ => ⟨rfl, rfl⟩, fun i _ => opW_vok D A B C i, good_fwd hg⟩
theorem tend_vok {n : Nat} {O O' : Nat → Int} {V V' : Nat → Value} (hv : ∀ i, VOk (V i)) (h : TEnd n O V O' V') : ∀ i, i < n → VOk (V' i) := by
  intro i hi
  rcases h i hi with ⟨_, h1⟩ | ⟨_, a, h1, ⟨_, h2⟩ | ⟨_, h2⟩⟩
  · rw [h1]; exact hv i
  · rw [h2]; exact hv i
  · exact .inl ⟨_, h2⟩

/-- What holds while the instructions are appended: k of them have been. -/
def BRel (K k : Nat) (D A B C : Nat → Int) (w wr : World) : Prop := ∃ v P, Codes wr K K k v P D (opW D A B C) ∧ Below w.heap.size w wr

theorem brel_start {w w1 : World} (D A B C : Nat → Int) (hb : Below w.heap.size w w1) : BRel w1.heap.size 0 D A B C w (w1.alloc (.cells (comp (.slice none 0 0)) 49)) :=
  ⟨_, fun _ => 0, ⟨Cel.made _ _ _, World.ownsRow_nil _ _ _ _, fun i hi => by omega, fun i j hi => by omega, Nat.le_refl _, fun i hi => by omega⟩, hb.alloc hb.size _⟩

theorem brel_next {K k : Nat} {D A B C : Nat → Int} {w wr w1 w2 : World} {P : Nat → Nat} (hb : Below w.heap.size w wr) (hb1 : Below wr.heap.size wr w1) (hK : w.heap.size ≤ K) {e : Ending} (h : ZAppOut K K k P D (opW D A B C) (D k) (opW D A B C k) w1 e w2) : BRel K (k + 1) D A B C w w2 := by
  obtain ⟨_, v', p, hc, hb2⟩ := h
  refine ⟨v', _, hc.congr (fun i hi => ?_) (fun i hi => ?_), (hb.trans (hb1.mono hb.size)).trans (hb2.mono hK)⟩
  · by_cases e : i = k
    · rw [if_pos e, e]
    · rw [if_neg e]
  · by_cases e : i = k
    · rw [if_pos e, e]
    · rw [if_neg e]

theorem info26 : (Try.prog.info? 26).map (fun i => (i.zero, i.size, i.bytes)) = some (some (.agg #[.int .i64 0, .int .i64 0, .int .i64 0, .int .i64 0]), 4, 32) := by kernel_rfl

theorem Codes.far {w : World} {B K m : Nat} {v : Value} {P : Nat → Nat} {O : Nat → Int} {V : Nat → Value} (h : Codes w B K m v P O V) {g : Nat} {cur : Array Value} (hg : Cel w g 26 cur) (i : Nat) (u : Value) : Codes (w.setCell ⟨g, i, none⟩ u) B K m v P O V :=
  h.keep (grown_setCell w ⟨g, i, none⟩ u) (fun e => h.blk.apart hg (by decide) (by injection e)) (.inr (own_apart h.own hg (by decide))) (fun j hj e => (h.code j hj).apart hg (by decide) (by injection e))

/-- What holds while the steps are read back: k of them have been. -/
def ORel (K n G k : Nat) (v : Value) (P : Nat → Nat) (O : Nat → Int) (V : Nat → Value) (w wr : World) : Prop :=
  ∃ cur, Cel wr G 26 cur ∧ cur.size = n * 4 ∧ Outs cur k O V ∧ Codes wr K K n v P O V ∧ Below w.heap.size w wr ∧ w.heap.size ≤ G

theorem below_drewN {w wr w6 : World} (q : Nat) (h : Below (wr.drewN q).heap.size (wr.drewN q) w6) (hB : w.heap.size ≤ wr.heap.size) : Below w.heap.size wr w6 :=
  ⟨h.os, h.tape, h.output, h.size, fun k hk => h.block k (Nat.lt_of_lt_of_le hk hB)⟩

theorem orel_start {K n : Nat} {v : Value} {P : Nat → Nat} {O : Nat → Int} {V : Nat → Value} {w w3 w4 : World} {xs : List Value} (hb : Below w.heap.size w w3) (hc : Codes w3 K K n v P O V) (hown : w4.ownsRow w.heap.size 26 4 (.slice (some ⟨w3.heap.size, 0, none⟩) n n) n xs) (hg : w3.grownBy w4 none) : ORel K n w3.heap.size 0 v P O V w w4 := by
  rcases hown.2 with ⟨h0, _⟩ | ⟨g', cp', cur, hv, _, hh, _, _, hs, _⟩
  · cases h0
  · cases hv
    exact ⟨cur, hh, hs, fun i hi => by omega, hc.keep hg (by simp) (by cases hv : v.ownBlock <;> simp) (fun _ _ => by simp), hb.grown hg hb.size (fun k hk => by cases hk), hb.size⟩

theorem orel_next {K n G k : Nat} {v : Value} {P : Nat → Nat} {O : Nat → Int} {V : Nat → Value} {w wr : World} {cur : Array Value} (h1 : Cel wr G 26 cur) (h2 : cur.size = n * 4) (h3 : Outs cur k O V) (h4 : Codes wr K K n v P O V) (h5 : Below w.heap.size w wr) (h6 : w.heap.size ≤ G) (hk : k < n) {d a b c : Int} (hr : SRel (O k) (V k) d a b c) :
    ORel K n G (k + 1) v P O V w ((((wr.setCell ⟨G, k * 4, none⟩ (.int .i64 d)).setCell ⟨G, k * 4 + 1, none⟩ (.int .i64 a)).setCell ⟨G, k * 4 + 2, none⟩ (.int .i64 b)).setCell ⟨G, k * 4 + 3, none⟩ (.int .i64 c)) :=
  ⟨put4 cur k d a b c, (((h1.put _ _).put _ _).put _ _).put _ _, by rw [put4_size]; exact h2, h3.step h2 hk hr,
    (((h4.far h1 _ _).far (h1.put _ _) _ _).far ((h1.put _ _).put _ _) _ _).far (((h1.put _ _).put _ _).put _ _) _ _,
    (((h5.setCell (p := ⟨G, _, none⟩) h6 _).setCell (p := ⟨G, _, none⟩) h6 _).setCell (p := ⟨G, _, none⟩) h6 _).setCell (p := ⟨G, _, none⟩) h6 _, h6⟩

set_option maxRecDepth 100000 in
set_option maxHeartbeats 4000000 in
theorem opt_any (b off n cap : Nat) (calls : Bool) (D A B C : Nat → Int) (w : World) (hl : Lst w b off n D A B C) (hg : Good n D A) :
    Calls Try.prog 5 #[.slice (some ⟨b, off, none⟩) n cap, .bool calls] w (OptOut calls n D A B C w) := by
  have hn := hg.le
  have hn0 := hg.pos
  go_enter Try.func5, Try.ntmps5
  go_wp2_with fail
  refine (isprog b off n cap D A B C _ hl hg).mono ?_
  rintro e w1 ⟨rfl, hb1⟩
  go_wp2_with fail
  refine (newc _).mono ?_
  rintro e w2 ⟨rfl, rfl⟩
  go_wp2_with fail
  go_loopg [16] n (fun r s16 wx => ∃ k : Nat, k + r = n ∧ s16 = .int .i64 k ∧ BRel w1.heap.size k D A B C w wx)
  case atStart => exact ⟨0, by omega, rfl, brel_start D A B C hb1⟩
  case round =>
    obtain ⟨k, hkg, rfl, v, P, hc, hb⟩ := hrel
    cases gk with
    | zero =>
      have hkn : ¬ ((k : Int) < n) := by omega
      obtain rfl : k = n := by omega
      obtain ⟨g, cp, rfl, hcell, hgl, _⟩ := hc.form hn0
      have hK := hb1.size
      have hKl := hc.blk.lt
      have Hfwd := Lib.hid (good_fwd (B := B) (C := C) hg)
      have Hinv := Lib.hid (good_oinv (B := B) (C := C) hg)
      have H19 := Lib.hid (fun (i : Nat) (_ : i < k) (h : D i = 19) => (⟨A i, opW_int (B := B) (C := C) (by omega) (by omega) (by omega)⟩ : ∃ a : Int, opW D A B C i = .iface 3 (.int .i64 a)))
      have H23 := Lib.hid (fun (i : Nat) (_ : i < k) (h : D i = 23) => (⟨A i, B i, C i, opW_scope h⟩ : ∃ a b c : Int, opW D A B C i = .iface 56 (.agg #[.int .i64 a, .int .i64 b, .int .i64 c])))
      clear hcell
      cases calls
      case' true =>
        go_wp2_with fail
        refine (calls_door _ _ _ _ _ _ _ _ (tail_any w1.heap.size w1.heap.size k g cp P D (opW D A B C) wr hc (by omega) hn0 hn hg.last Hfwd.out H19.out H23.out)).mono ?_
        rintro e w3 ⟨rfl, O', V', hc3, hb3, hrel⟩
        have hvok := Lib.hid (tend_vok (opW_vok D A B C) hrel)
        have hP : Hid (PRel true k D (opW D A B C) O' V') := ⟨fun _ => hrel, fun h => by cases h⟩
        clear hrel
      case' false =>
        go_wp2_with fail
        refine (ops_door _ _ _ _ _ _ _ _ (ops_any w1.heap.size w1.heap.size k g cp P D (opW D A B C) wr hc hn0 hn hg.last Hinv.out)).mono ?_
        rintro e w3 ⟨rfl, O', V', hc3, hb3, hrel⟩
        have hvok := Lib.hid hrel.ok
        have hP : Hid (PRel false k D (opW D A B C) O' V') := ⟨(fun h => by cases h), fun _ => hrel.sp⟩
        clear hrel
      all_goals
        clear Hfwd Hinv H19 H23
        obtain ⟨i0, hi, hz0, hz1, hz2⟩ := info_parts info26
        have hb2 : i0.bytes * k ≤ 281474976710656 := by rw [hz2]; omega
        have hb3' : k ≤ maxLen := by unfold maxLen; omega
        have hb30 : Below w.heap.size w w3 := hb.trans (hb3.mono hK)
        have hb4 := hb30.size
        go_wp2_with (at_make; refine wpList_make_full _ rfl _ _ 22 rfl w.heap.size 26 i0 _ 4 Try.underlying22 hi hz0 hz1 _ _ _ _ k rfl rfl rfl rfl hb2 hb3' hb4 ?next)
        case next =>
          intro w4 hown hgrow
          have Hstart := Lib.hid (orel_start hb30 hc3 hown hgrow)
          clear hown hgrow hi hz0 hz1 hz2
          go_wp2
          go_loopg [37] k (fun r s37 wx => ∃ j : Nat, j + r = k ∧ s37 = .int .i64 j ∧ ORel w1.heap.size k w3.heap.size j (.slice (some ⟨g, 0, none⟩) k cp) P O' V' w wx)
          case atStart => exact ⟨0, by omega, rfl, Hstart.out⟩
          case round =>
            obtain ⟨j, hjg, rfl, cur, o1, o2, o3, o4, o5, o6⟩ := hrel
            cases gk with
            | zero =>
              have hjn : ¬ ((j : Int) < k) := by omega
              obtain rfl : j = k := by omega
              have fin : OptOut _ j D A B C w (.returned (.slice (some ⟨w3.heap.size, 0, none⟩) j j)) wr := ⟨w3.heap.size, O', V', cur, rfl, o5, o1.lt, o1, o3, hP.out⟩
              have Fin := Lib.hid fin
              clear fin
              go_wp2
              go_ret
              exact Fin.out
            | succ r =>
              have hjn : (j : Int) < k := by omega
              have hj : j < k := by omega
              obtain ⟨g', cap', e, hcell, _⟩ := o4.form hn0
              injection e with e1 e2 e3
              injection e1 with e1
              injection e1 with e1
              subst e1 e3
              have hone := o4.one rfl hcell hj
              have Hone := Lib.hid hone
              clear hone hcell
              have hGl := o1.lt
              go_wp2_with fail
              refine (at_any w1.heap.size g k cp j (P j) (O' j) (V' j) _ Hone.out hj).mono ?_
              rintro e w5 ⟨rfl, q, rfl⟩
              go_wp2_with fail
              refine (step_any (O' j) (V' j) _ (hvok.out j hj)).mono ?_
              rintro e w6 ⟨d, a, b', c, rfl, hs, hb6⟩
              have p1 : Cel w6 w3.heap.size 26 cur := (o1.drewN q).below hb6 (by simpa using hGl)
              have p4 : Codes w6 w1.heap.size w1.heap.size k (.slice (some ⟨g, 0, none⟩) k cp) P O' V' := (o4.drewN q).below hb6
              have p5 : Below w.heap.size w w6 := o5.trans (below_drewN q hb6 o5.size)
              obtain ⟨z0, hz0⟩ : ∃ z, cur[j * 4]? = some z := ⟨_, Array.getElem?_eq_getElem (by omega)⟩
              obtain ⟨z1, hz1⟩ : ∃ z, cur[j * 4 + 1]? = some z := ⟨_, Array.getElem?_eq_getElem (by omega)⟩
              obtain ⟨z2, hz2⟩ : ∃ z, cur[j * 4 + 2]? = some z := ⟨_, Array.getElem?_eq_getElem (by omega)⟩
              obtain ⟨z3, hz3⟩ : ∃ z, cur[j * 4 + 3]? = some z := ⟨_, Array.getElem?_eq_getElem (by omega)⟩
              have y0 := (p1.at_ (j * 4)).trans hz0
              have y1 := (p1.at_ (j * 4 + 1)).trans hz1
              have y2 := (p1.at_ (j * 4 + 2)).trans hz2
              have y3 := (p1.at_ (j * 4 + 3)).trans hz3
              have f0 := p1.free (j * 4)
              have f1 := p1.free (j * 4 + 1)
              have f2 := p1.free (j * 4 + 2)
              have f3 := p1.free (j * 4 + 3)
              clear hz0 hz1 hz2 hz3
              have Next := Lib.hid (orel_next p1 o2 o3 p4 p5 o6 hj hs)
              go_wp2
              go_roundg r
              case measure => omega
              case rel => exact ⟨j + 1, by omega, by go_num, Next.out⟩
    | succ r =>
      have hkn : (k : Int) < n := by omega
      have hk : k < n := by omega
      have hw := hl.below hb
      have hbl := hw.lt
      have c0 := hw.d0 k hk
      have c1 := hw.d1 k hk
      have c2 := hw.d2 k hk
      have c3 := hw.d3 k hk
      have hzapp : ∀ wx, Below wr.heap.size wr wx → Calls Try.prog 10 #[.pointer (some ⟨w1.heap.size, 0, none⟩), .int .i64 (D k), .iface (opT (D k)) (opV (D k) (A k) (B k) (C k))] wx (ZAppOut w1.heap.size w1.heap.size k P D (opW D A B C) (D k) (opW D A B C k) wx) :=
        fun wx hx => zapp_any w1.heap.size w1.heap.size k v P D (opW D A B C) (opT (D k)) (opV (D k) (A k) (B k) (C k)) (D k) wx (hc.below hx) (by omega) (Nat.le_trans (Nat.le_of_lt hc.blk.lt) hx.size)
      have HZ := Lib.hid hzapp
      have hK := hb1.size
      clear hzapp
      go_wp2_with fail
      go_region_with (first | (go_at_call 11; refine (operand2 _ _ _ _ _).mono ?_; rintro e w3 ⟨rfl, rfl⟩) | (go_at_call 10; refine (HZ.out _ (by repeat (first | exact Below.refl _ _ | refine Below.drew ?_ | refine Below.alloc ?_ (by first | (simp; done) | (simp; omega)) _))).mono ?_; rintro e w3 ⟨rfl, v3, p3, q1, q2⟩))
      all_goals
        go_wp2
        go_roundg r
        case measure => omega
        case rel => exact ⟨k + 1, by omega, by go_num, brel_next hb (by repeat (first | exact Below.refl _ _ | refine Below.drew ?_ | refine Below.alloc ?_ (by first | (simp; done) | (simp; omega)) _)) hK (e := .returned (.tuple #[])) ⟨rfl, v3, p3, q1, q2⟩⟩
end Go.Proofs.Ytggochaclebnaaa
