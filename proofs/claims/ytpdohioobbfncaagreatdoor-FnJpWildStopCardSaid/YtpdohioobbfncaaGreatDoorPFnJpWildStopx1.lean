/- what the Go functions that the law FnJpWildStop reaches compute, each as a plain function, with the proof that the Go code computes just that; no condition beside those that each theorem states. -/
import Derived.Test.YtpdohioobbfncaaGreatDoorPFnJpWildStopx0
namespace Go.Proofs.YtpdohioobbfncaaGreatDoor.PFnJpWildStop
open Go.RowKit Go.Proofs.YtpdohioobbfncaaGreatDoorW.PrintWords Go.Proofs.YtpdohioobbfncaaGreatDoorW.PrintLast Go.Proofs.YtpdohioobbfncaaGreatDoorW.PrintMore
set_option linter.unusedVariables false
set_option linter.unusedSimpArgs false
def zF_.l0 : Nat → List ByteArray → Int → Int → Option (Bool)
  | 0, _, _, _ => none
  | k + 1, x8, x9, x10 => if x10 < x9 then (if 0 ≤ x10 then (if x10 < (x8.length : Int) then (if ((rdOf ByteArray.empty x8 x10).size : Int) > 2147483647 then (some false) else (zF_.l0 k x8 x9 (wrap64 (x10 + 1)))) else (none)) else (none)) else (some true)
def zF_.f (k : Nat) (l0 : List ByteArray) : Option (Bool) := if (l0.length : Int) > 2147483647 then (some false) else (zF_.l0 k l0 (l0.length : Int) 0)
set_option maxHeartbeats 8000000 in
set_option maxRecDepth 100000 in
theorem zF_.calls (k : Nat) (A0 : Option Addr) (c0 : Nat) (l0 : List ByteArray) (r : Bool) (w : World) (hr0 : Kd.C Kd.string w A0 l0.length l0) (hc0 : l0.length ≤ c0) (h : zF_.f k l0 = some r) :
    Calls Tryz.prog 5 #[.slice A0 l0.length c0] w fun e w' => e = .returned (.bool r) ∧ Drawn0 w w' := by
 have HR0 := Aside0.mk hr0
 have HC0 := Aside0.mk hc0
 clear hr0 hc0
 have H : (if (l0.length : Int) > 2147483647 then (some false) else (zF_.l0 k l0 (l0.length : Int) 0)) = some r := h
 clear h
 by_cases c2 : (l0.length : Int) > 2147483647
 ·
  rw [if_pos c2] at H
  have c2b0 := decide_eq_true c2
  have c2b1 : decide (2147483647 < l0.length) = true := decide_eq_true (by omega)
  clear c2
  obtain rfl := Option.some.inj H
  go_enter Tryz.func5, Tryz.ntmps5
  go_wp2
  go_ret
  exact ⟨by first | rfl | (simp; done) | (simp [nil_ne_, nil_eq_]; done) | (simp [*]; done), zD⟩
 rw [if_neg c2] at H
 have c2b0 := decide_eq_false c2
 have c2b1 : decide (2147483647 < l0.length) = false := decide_eq_false (by omega)
 clear c2
 have H' := Aside0.mk H
 clear H
 go_enter Tryz.func5, Tryz.ntmps5
 go_wp2
 try simp only [Act.put, List.setIfInBounds_toArray, List.set_cons_succ, List.set_cons_zero]
 go_loopg [10] k (fun kq v10 w' => ∃ (x10_1 : Int), v10 = .int .i64 x10_1 ∧ Aside0 (zF_.l0 kq l0 (l0.length : Int) x10_1 = some r) ∧ Aside0 (kq ≤ k) ∧ Drawn0 w w')
 case atStart => exact ⟨(0), zE, H', ⟨Nat.le_refl _⟩, zD⟩
 case round =>
  clear H'
  (try clear c2b0); (try clear c2b1)
  obtain ⟨x10_1, rfl, HA, HK1, ⟨m1, rfl⟩⟩ := hrel
  rcases gk with _ | k1
  · exact absurd HA.out (by simp [zF_.l0])
  have H := HA.out
  clear HA
  simp only [zF_.l0] at H
  by_cases c3 : x10_1 < (l0.length : Int)
  ·
   rw [if_pos c3] at H
   have c3b0 := decide_eq_true c3
   clear c3
   by_cases c4 : 0 ≤ x10_1
   ·
    rw [if_pos c4] at H
    have c4b0 := decide_eq_true c4
    clear c4
    by_cases c5 : x10_1 < (l0.length : Int)
    ·
     rw [if_pos c5] at H
     have c5b0 := decide_eq_true c5
     clear c5
     by_cases c6 : ((rdOf ByteArray.empty l0 x10_1).size : Int) > 2147483647
     ·
      rw [if_pos c6] at H
      have c6b0 := decide_eq_true c6
      have c6b1 : decide (2147483647 < (rdOf ByteArray.empty l0 x10_1).size) = true := decide_eq_true (by omega)
      clear c6
      obtain rfl := Option.some.inj H
      have p101 : 0 ≤ (x10_1 : Int) := dT
      have q101 : x10_1 < (l0.length : Int) := dT
      obtain ⟨ad101, e101, hx101_0⟩ := Kd.at_string HR0.out x10_1 p101 q101
      cases e101
      replace p101 := eq_true p101
      replace q101 := eq_true q101
      go_wp2
      go_ret
      exact ⟨by first | rfl | (simp; done) | (simp [nil_ne_, nil_eq_]; done) | (simp [*]; done), zD⟩
     rw [if_neg c6] at H
     have c6b0 := decide_eq_false c6
     have c6b1 : decide (2147483647 < (rdOf ByteArray.empty l0 x10_1).size) = false := decide_eq_false (by omega)
     clear c6
     have H' := Aside0.mk H
     clear H
     have p101 : 0 ≤ (x10_1 : Int) := dT
     have q101 : x10_1 < (l0.length : Int) := dT
     obtain ⟨ad101, e101, hx101_0⟩ := Kd.at_string HR0.out x10_1 p101 q101
     cases e101
     replace p101 := eq_true p101
     replace q101 := eq_true q101
     go_wp2
     go_roundg k1
     case measure => have := HK1.out; omega
     case rel => exact ⟨(wrap64 (x10_1 + 1)), zE, H', ⟨by have := HK1.out; omega⟩, zD⟩
    rw [if_neg c5] at H
    exact absurd H (by simp)
   rw [if_neg c4] at H
   exact absurd H (by simp)
  rw [if_neg c3] at H
  have c3b0 := decide_eq_false c3
  clear c3
  obtain rfl := Option.some.inj H
  go_wp2
  go_ret
  exact ⟨by first | rfl | (simp; done) | (simp [nil_ne_, nil_eq_]; done) | (simp [*]; done), zD⟩
def BB_.f (a0 : Int) : Option (Bool) := if a0 = 32 then (some true) else (if a0 = 9 then (some true) else (if a0 = 10 then (some true) else (some (a0 == 13))))
set_option maxHeartbeats 8000000 in
set_option maxRecDepth 100000 in
theorem BB_.calls (a0 : Int) (r : Bool) (w : World) (h : BB_.f a0 = some r) :
    Calls Tryz.prog 55 #[.int .u8 a0] w fun e w' => e = .returned (.bool r) ∧ Drawn0 w w' := by
 have H : (if a0 = 32 then (some true) else (if a0 = 9 then (some true) else (if a0 = 10 then (some true) else (some (a0 == 13))))) = some r := h
 clear h
 by_cases c2 : a0 = 32
 ·
  rw [if_pos c2] at H
  have c2b0 := beq_iff_eq.mpr c2
  have c2b1 := bne_eq_false_iff_eq.mpr c2
  clear c2
  obtain rfl := Option.some.inj H
  go_enter Tryz.func55, Tryz.ntmps55
  go_wp2
  go_ret
  exact ⟨by first | rfl | (simp; done) | (simp [nil_ne_, nil_eq_]; done) | (simp [*]; done), zD⟩
 rw [if_neg c2] at H
 have c2b0 := beq_eq_false_iff_ne.mpr c2
 have c2b1 := bne_iff_ne.mpr c2
 by_cases c3 : a0 = 9
 ·
  rw [if_pos c3] at H
  have c3b0 := beq_iff_eq.mpr c3
  have c3b1 := bne_eq_false_iff_eq.mpr c3
  clear c3
  obtain rfl := Option.some.inj H
  go_enter Tryz.func55, Tryz.ntmps55
  go_wp2
  go_ret
  exact ⟨by first | rfl | (simp; done) | (simp [nil_ne_, nil_eq_]; done) | (simp [*]; done), zD⟩
 rw [if_neg c3] at H
 have c3b0 := beq_eq_false_iff_ne.mpr c3
 have c3b1 := bne_iff_ne.mpr c3
 by_cases c4 : a0 = 10
 ·
  rw [if_pos c4] at H
  have c4b0 := beq_iff_eq.mpr c4
  have c4b1 := bne_eq_false_iff_eq.mpr c4
  clear c4
  obtain rfl := Option.some.inj H
  go_enter Tryz.func55, Tryz.ntmps55
  go_wp2
  go_ret
  exact ⟨by first | rfl | (simp; done) | (simp [nil_ne_, nil_eq_]; done) | (simp [*]; done), zD⟩
 rw [if_neg c4] at H
 have c4b0 := beq_eq_false_iff_ne.mpr c4
 have c4b1 := bne_iff_ne.mpr c4
 obtain rfl := Option.some.inj H
 go_enter Tryz.func55, Tryz.ntmps55
 go_wp2
 go_ret
 exact ⟨by first | rfl | (simp; done) | (simp [nil_ne_, nil_eq_]; done) | (simp [*]; done), zD⟩
/-- A state of type 79 at block g of W; what its slices lead to came in by w0. -/
def IsS79 (w0 W : World) (g : Nat) (f0 : ByteArray) (f1 : Int) : Prop := W.heap[g]? = some (.cells #[.string f0, .int .i64 f1] 79 (0, 0)) ∧ w0.heap.size ≤ g
theorem IsS79.of_blk {w0 W : World} {g : Nat} (f0 : ByteArray) (f1 : Int) (h : W.heap[g]? = some (.cells #[.string f0, .int .i64 f1] 79 (0, 0))) (hg : w0.heap.size ≤ g) : IsS79 w0 W g f0 f1 := ⟨h, hg⟩
theorem IsS79.grown {w0 W : World} {g : Nat} {f0 : ByteArray} {f1 : Int} {W1 : World} {row : Option Nat} (h : IsS79 w0 W g f0 f1) (hw : W.grownBy W1 row) (hne : some g ≠ row) : IsS79 w0 W1 g f0 f1 := by
  obtain ⟨hb, hg⟩ := h
  exact ⟨blk_grown hb hw hne, hg⟩
theorem IsS79.below {w0 W : World} {g : Nat} {f0 : ByteArray} {f1 : Int} {W1 : World} (h : IsS79 w0 W g f0 f1) (hw : Below W.heap.size W W1) : IsS79 w0 W1 g f0 f1 := h.grown (grown_of_below hw none) (by simp)
theorem IsS79.drewN {w0 W : World} {g : Nat} {f0 : ByteArray} {f1 : Int} (h : IsS79 w0 W g f0 f1) (m : Nat) : IsS79 w0 (W.drewN m) g f0 f1 := h
theorem IsS79.apart {w0 W : World} {g : Nat} {f0 : ByteArray} {f1 : Int} {α : Type} {d : Kd α} {e : Nat} {base : Nat} {ok : Nat → Prop} {v : Value} {xs : List α} (h : IsS79 w0 W g f0 f1) (ho : d.R e W base ok v xs) (ht : ∀ q, q ∈ e :: d.E → q ≠ 79) : d.R e W base (fun k => ok k ∧ k ≠ g) v xs := by
  obtain ⟨hb, hg⟩ := h
  exact Kd.R_types ho hb ht
theorem IsS79.own_ne {w0 W : World} {g : Nat} {f0 : ByteArray} {f1 : Int} {α : Type} {d : Kd α} {e : Nat} {base : Nat} {ok : Nat → Prop} {v : Value} {xs : List α} (h : IsS79 w0 W g f0 f1) (ho : d.R e W base ok v xs) (ht : e ≠ 79) : some g ≠ v.ownBlock := by
  obtain ⟨hb, hg⟩ := h
  exact Kd.R_ne ho hb ht
theorem IsS79.lt {w0 W : World} {g : Nat} {f0 : ByteArray} {f1 : Int} (h : IsS79 w0 W g f0 f1) : g < W.heap.size := by
  obtain ⟨hb, hg⟩ := h
  exact blk_lt hb
theorem IsS79.ge {w0 W : World} {g : Nat} {f0 : ByteArray} {f1 : Int} (h : IsS79 w0 W g f0 f1) : w0.heap.size ≤ g := by
  obtain ⟨hb, hg⟩ := h
  exact hg
theorem IsS79.far {w0 W : World} {g : Nat} {f0 : ByteArray} {f1 : Int} {p : Addr} (h : IsS79 w0 W g f0 f1) (hne : g ≠ p.block) (u : Value) : IsS79 w0 (W.setCell p u) g f0 f1 := by
  obtain ⟨hb, hg⟩ := h
  exact ⟨blk_far hb hne u, hg⟩
theorem IsS79.set_0 {w0 W : World} {g : Nat} {f0 : ByteArray} {f1 : Int} (h : IsS79 w0 W g f0 f1) (x : ByteArray) : IsS79 w0 (W.setCell ⟨g, 0, none⟩ (.string x)) g x f1 := by
  obtain ⟨hb, hg⟩ := h
  exact ⟨by simpa using blk_set hb 0 (.string x), hg⟩
theorem IsS79.set_1 {w0 W : World} {g : Nat} {f0 : ByteArray} {f1 : Int} (h : IsS79 w0 W g f0 f1) (x : Int) : IsS79 w0 (W.setCell ⟨g, 1, none⟩ (.int .i64 x)) g f0 x := by
  obtain ⟨hb, hg⟩ := h
  exact ⟨by simpa using blk_set hb 1 (.int .i64 x), hg⟩
theorem zI79 {w0 W W1 : World} {g : Nat} {f0 : ByteArray} {f1 : Int} {f01 : ByteArray} {f11 : Int} (h : IsS79 w0 W g f0 f1) (m : IsS79 w0 W g f0 f1 → IsS79 w0 W1 g f01 f11 := by intro h; repeat (first | (with_reducible first | exact h | apply IsS79.alloc | apply IsS79.drewN | apply IsS79.drew | apply IsS79.set_0 | apply IsS79.set_1 | refine IsS79.far ?_ (Aside0.out (by assumption)) _) | exact h)) : IsS79 w0 W1 g f01 f11 := m h
theorem zC79 {b : Nat} {w W w1 : World} (h : Below b w W) (m : Below b w W → Below b w w1 := by intro h; repeat (first | (with_reducible first | exact h | apply below_alloc | apply pw_below_drewN | apply below_drew1 | refine below_set ?_ (IsS79.ge (Aside0.out (by assumption))) | refine below_set ?_ (Aside0.out (by assumption))) | exact h)) : Below b w w1 := m h
theorem zS79 {w0 W W1 : World} {g : Nat} {f0 : ByteArray} {f1 : Int} {α : Type} {d : Kd α} {e base : Nat} {ok : Nat → Prop} {v : Value} {xs : List α} (h : IsS79 w0 W g f0 f1) (ho : d.R e W base ok v xs) (hk : KeepBut W W1 g none) (ht : ∀ q, q ∈ e :: d.E → q ≠ 79 := by decide) : d.R e W1 base ok v xs := Kd.R_mono (Kd.R_keep (IsS79.apart h ho ht) hk (fun _ h => h.2)) (fun _ h => h.1)
theorem zhs79 {w0 W W1 W2 W3 : World} {g : Nat} {f0 : ByteArray} {f1 : Int} {α : Type} {d : Kd α} {e base : Nat} {ok : Nat → Prop} {v : Value} {xs : List α} (hi : Aside0 (IsS79 w0 W2 g f0 f1)) (ho : Aside0 (d.R e W3 base ok v xs)) (hk : KeepBut W W1 g none) (m : IsS79 w0 W2 g f0 f1 → IsS79 w0 W g f0 f1 := by intro h; repeat (first | (with_reducible first | exact h | apply IsS79.alloc | apply IsS79.drewN | apply IsS79.drew | apply IsS79.set_0 | apply IsS79.set_1 | refine IsS79.far ?_ (Aside0.out (by assumption)) _) | exact h)) (q : Below W3.heap.size W3 W := by (with_reducible repeat (first | apply below_alloc | apply pw_below_drewN | apply below_drew1)); exact Below.refl _ _) (ht : ∀ q, q ∈ e :: d.E → q ≠ 79 := by decide) : Aside0 (d.R e W1 base ok v xs) := ⟨zS79 (m hi.out) (Kd.R_below ho.out q) hk ht⟩
def b_.l0 : Nat → ByteArray → Int → Option (ByteArray × Int)
  | 0, _, _ => none
  | k + 1, x1000, x1001 => if x1001 < (x1000.size : Int) then (if 0 ≤ x1001 then ((BB_.f (bt x1000 x1001)).bind fun t102 => (if t102 = true then (b_.l0 k x1000 (wrap64 (x1001 + 1))) else (some (x1000, x1001)))) else (none)) else (some (x1000, x1001))
def b_.f (k : Nat) (s0_0 : ByteArray) (s0_1 : Int) : Option (ByteArray × Int) := b_.l0 k s0_0 s0_1
set_option maxHeartbeats 8000000 in
set_option maxRecDepth 100000 in
theorem b_.calls (k : Nat) (g : Nat) (s0_0 : ByteArray) (s0_1 : Int) (r1 : ByteArray) (r2 : Int) (w0 w : World) (hI : IsS79 w0 w g s0_0 s0_1) (hB : Below w0.heap.size w0 w) (h : b_.f k s0_0 s0_1 = some (r1, r2)) :
    Calls Tryz.prog 39 #[.pointer (some ⟨g, 0, none⟩)] w fun e w' => e = .returned (.tuple #[]) ∧ IsS79 w0 w' g r1 r2 ∧ Below w0.heap.size w0 w' ∧ KeepBut w w' g none := by
 have HI0 := Aside0.mk hI
 have HK := Aside0.mk (KeepBut.refl w g none)
 have HL := Aside0.mk hB.size
 clear hI
 have HW0 := Aside0.mk hB.size
 have HB := Aside0.mk hB
 clear hB
 have H : (b_.l0 k s0_0 s0_1) = some (r1, r2) := h
 clear h
 have H' := Aside0.mk H
 clear H
 go_enter Tryz.func39, Tryz.ntmps39
 go_wp2
 repeat (go_quiet (fail); try go_wp2)
 try simp only [Act.put, List.setIfInBounds_toArray, List.set_cons_succ, List.set_cons_zero]
 go_loopg [] k (fun kq w' => ∃ (x1001_1 : Int), Aside0 (b_.l0 kq s0_0 x1001_1 = some (r1, r2)) ∧ Aside0 (kq ≤ k) ∧ Aside0 (IsS79 w0 w' g s0_0 x1001_1) ∧ Aside0 (KeepBut w w' g none) ∧ Aside0 (Below w0.heap.size w0 w'))
 case atStart => exact ⟨(s0_1), H', ⟨Nat.le_refl _⟩, ⟨zI79 HI0.out⟩, ⟨zK HK.out⟩, ⟨zC79 HB.out⟩⟩
 case round =>
  clear H'
  obtain ⟨x1001_1, HA, HK1, HI0, HK, HB⟩ := hrel
  rcases gk with _ | k1
  · exact absurd HA.out (by simp [b_.l0])
  have H := HA.out
  clear HA
  simp only [b_.l0] at H
  by_cases c2 : x1001_1 < (s0_0.size : Int)
  ·
   rw [if_pos c2] at H
   have c2b0 := decide_eq_true c2
   clear c2
   by_cases c3 : 0 ≤ x1001_1
   ·
    rw [if_pos c3] at H
    have c3b0 := decide_eq_true c3
    clear c3
    replace H := Option.bind_eq_some_iff.mp H
    obtain ⟨t102, A50, H⟩ := H
    try dsimp only at H
    have A5 := Aside0.mk A50
    clear A50
    by_cases c6 : t102 = true
    ·
     subst c6
     rw [if_pos rfl] at H
     have H' := Aside0.mk H
     clear H
     obtain ⟨HGz7, hgz7⟩ := HI0.out
     have hz7 := zc2 HGz7
     clear HGz7 hgz7
     have p4 : 0 ≤ (x1001_1 : Int) := dT
     have q4 : x1001_1 < (s0_0.size : Int) := dT
     have hx4 := bt_at s0_0 x1001_1
     replace p4 := eq_true p4
     replace q4 := eq_true q4
     go_wp2_with (first | (go_at_call 55; (with_reducible refine (BB_.calls (bt s0_0 x1001_1) true _ A5.out).mono ?_); rintro e w' ⟨rfl, ⟨nd, rfl⟩⟩; (try first | ((with_reducible refine ⟨?_, _, World.drewN_drewN _ _ _⟩); rfl) | ((with_reducible refine ⟨?_, _, Eq.trans (World.drewN_drewN _ _ _) (congrArg (World.drewN _) (Nat.add_assoc _ _ _))⟩); rfl))))
     repeat (go_quiet (first | (go_at_call 55; (with_reducible refine (BB_.calls (bt s0_0 x1001_1) true _ A5.out).mono ?_); rintro e w' ⟨rfl, ⟨nd, rfl⟩⟩; (try first | ((with_reducible refine ⟨?_, _, World.drewN_drewN _ _ _⟩); rfl) | ((with_reducible refine ⟨?_, _, Eq.trans (World.drewN_drewN _ _ _) (congrArg (World.drewN _) (Nat.add_assoc _ _ _))⟩); rfl)))); try go_wp2_with (first | (go_at_call 55; (with_reducible refine (BB_.calls (bt s0_0 x1001_1) true _ A5.out).mono ?_); rintro e w' ⟨rfl, ⟨nd, rfl⟩⟩; (try first | ((with_reducible refine ⟨?_, _, World.drewN_drewN _ _ _⟩); rfl) | ((with_reducible refine ⟨?_, _, Eq.trans (World.drewN_drewN _ _ _) (congrArg (World.drewN _) (Nat.add_assoc _ _ _))⟩); rfl)))))
     go_roundg k1
     case measure => have := HK1.out; omega
     case rel => exact ⟨(wrap64 (x1001_1 + 1)), H', ⟨by have := HK1.out; omega⟩, ⟨zI79 HI0.out⟩, ⟨zK HK.out⟩, ⟨zC79 HB.out⟩⟩
    replace c6 := Bool.eq_false_iff.mpr c6
    subst c6
    rw [if_neg Bool.false_ne_true] at H
    simp only [Option.some.injEq, Prod.mk.injEq] at H
    obtain ⟨rfl, rfl⟩ := H
    obtain ⟨HGz8, hgz8⟩ := HI0.out
    have hz8 := zc2 HGz8
    clear HGz8 hgz8
    have p4 : 0 ≤ (x1001_1 : Int) := dT
    have q4 : x1001_1 < (s0_0.size : Int) := dT
    have hx4 := bt_at s0_0 x1001_1
    replace p4 := eq_true p4
    replace q4 := eq_true q4
    go_wp2_with (first | (go_at_call 55; (with_reducible refine (BB_.calls (bt s0_0 x1001_1) false _ A5.out).mono ?_); rintro e w' ⟨rfl, ⟨nd, rfl⟩⟩; (try first | ((with_reducible refine ⟨?_, _, World.drewN_drewN _ _ _⟩); rfl) | ((with_reducible refine ⟨?_, _, Eq.trans (World.drewN_drewN _ _ _) (congrArg (World.drewN _) (Nat.add_assoc _ _ _))⟩); rfl))))
    repeat (go_quiet (first | (go_at_call 55; (with_reducible refine (BB_.calls (bt s0_0 x1001_1) false _ A5.out).mono ?_); rintro e w' ⟨rfl, ⟨nd, rfl⟩⟩; (try first | ((with_reducible refine ⟨?_, _, World.drewN_drewN _ _ _⟩); rfl) | ((with_reducible refine ⟨?_, _, Eq.trans (World.drewN_drewN _ _ _) (congrArg (World.drewN _) (Nat.add_assoc _ _ _))⟩); rfl)))); try go_wp2_with (first | (go_at_call 55; (with_reducible refine (BB_.calls (bt s0_0 x1001_1) false _ A5.out).mono ?_); rintro e w' ⟨rfl, ⟨nd, rfl⟩⟩; (try first | ((with_reducible refine ⟨?_, _, World.drewN_drewN _ _ _⟩); rfl) | ((with_reducible refine ⟨?_, _, Eq.trans (World.drewN_drewN _ _ _) (congrArg (World.drewN _) (Nat.add_assoc _ _ _))⟩); rfl)))))
    first | go_end0 | ((try simp only [Exit.inBlock, Exit.then]); refine bodyPost_ret (results_none rfl _ _ _) rfl ?_)
    exact ⟨zX, zI79 HI0.out, zC79 HB.out, zK HK.out⟩
   rw [if_neg c3] at H
   exact absurd H (by simp)
  rw [if_neg c2] at H
  have c2b0 := decide_eq_false c2
  clear c2
  simp only [Option.some.injEq, Prod.mk.injEq] at H
  obtain ⟨rfl, rfl⟩ := H
  obtain ⟨HGz9, hgz9⟩ := HI0.out
  have hz9 := zc2 HGz9
  clear HGz9 hgz9
  go_wp2
  repeat (go_quiet (fail); try go_wp2)
  first | go_end0 | ((try simp only [Exit.inBlock, Exit.then]); refine bodyPost_ret (results_none rfl _ _ _) rfl ?_)
  exact ⟨zX, zI79 HI0.out, zC79 HB.out, zK HK.out⟩
def her_.f (s0_0 : ByteArray) (s0_1 : Int) : Option (Int × ByteArray × Int) := if s0_1 < (s0_0.size : Int) then (if 0 ≤ s0_1 then (some (bt s0_0 s0_1, s0_0, s0_1)) else (none)) else (some (0, s0_0, s0_1))
set_option maxHeartbeats 8000000 in
set_option maxRecDepth 100000 in
theorem her_.calls (g : Nat) (s0_0 : ByteArray) (s0_1 : Int) (r1 : Int) (r2 : ByteArray) (r3 : Int) (w0 w : World) (hI : IsS79 w0 w g s0_0 s0_1) (hB : Below w0.heap.size w0 w) (h : her_.f s0_0 s0_1 = some (r1, r2, r3)) :
    Calls Tryz.prog 56 #[.pointer (some ⟨g, 0, none⟩)] w fun e w' => e = .returned (.int .u8 r1) ∧ IsS79 w0 w' g r2 r3 ∧ Below w0.heap.size w0 w' ∧ KeepBut w w' g none := by
 have HI0 := Aside0.mk hI
 have HK := Aside0.mk (KeepBut.refl w g none)
 have HL := Aside0.mk hB.size
 clear hI
 have HW0 := Aside0.mk hB.size
 have HB := Aside0.mk hB
 clear hB
 have H : (if s0_1 < (s0_0.size : Int) then (if 0 ≤ s0_1 then (some (bt s0_0 s0_1, s0_0, s0_1)) else (none)) else (some (0, s0_0, s0_1))) = some (r1, r2, r3) := h
 clear h
 by_cases c2 : s0_1 < (s0_0.size : Int)
 ·
  rw [if_pos c2] at H
  have c2b0 := decide_eq_true c2
  clear c2
  by_cases c3 : 0 ≤ s0_1
  ·
   rw [if_pos c3] at H
   have c3b0 := decide_eq_true c3
   clear c3
   simp only [Option.some.injEq, Prod.mk.injEq] at H
   obtain ⟨rfl, rfl, rfl⟩ := H
   obtain ⟨HGz5, hgz5⟩ := HI0.out
   have hz5 := zc2 HGz5
   clear HGz5 hgz5
   have p4 : 0 ≤ (s0_1 : Int) := dT
   have q4 : s0_1 < (s0_0.size : Int) := dT
   have hx4 := bt_at s0_0 s0_1
   replace p4 := eq_true p4
   replace q4 := eq_true q4
   go_enter Tryz.func56, Tryz.ntmps56
   go_wp2
   repeat (go_quiet (fail); try go_wp2)
   go_ret
   exact ⟨zX, zI79 HI0.out, zC79 HB.out, zK HK.out⟩
  rw [if_neg c3] at H
  exact absurd H (by simp)
 rw [if_neg c2] at H
 have c2b0 := decide_eq_false c2
 clear c2
 simp only [Option.some.injEq, Prod.mk.injEq] at H
 obtain ⟨rfl, rfl, rfl⟩ := H
 obtain ⟨HGz6, hgz6⟩ := HI0.out
 have hz6 := zc2 HGz6
 clear HGz6 hgz6
 go_enter Tryz.func56, Tryz.ntmps56
 go_wp2
 repeat (go_quiet (fail); try go_wp2)
 go_ret
 exact ⟨zX, zI79 HI0.out, zC79 HB.out, zK HK.out⟩
mutual
def hD_.j0 : Nat → Int → Bool → Option (Int × Bool)
  | 0, _, _ => none
  | k + 1, x0, x4 => if x4 = true then (some ((x0 - 48) % 256, true)) else (if 97 ≤ x0 then (hD_.j1 k x0 (decide (x0 ≤ 102))) else (hD_.j1 k x0 false))
def hD_.j1 : Nat → Int → Bool → Option (Int × Bool)
  | 0, _, _ => none
  | k + 1, x0, x14 => if x14 = true then (some (((x0 - 97) % 256) + 10, true)) else (if 65 ≤ x0 then (if x0 ≤ 70 then (some (((x0 - 65) % 256) + 10, true)) else (some (0, false))) else (some (0, false)))
end
def hD_.f (k : Nat) (a0 : Int) : Option (Int × Bool) := if 48 ≤ a0 then (hD_.j0 k a0 (decide (a0 ≤ 57))) else (hD_.j0 k a0 false)
set_option maxHeartbeats 8000000 in
set_option maxRecDepth 100000 in
theorem hD_.calls (k : Nat) (a0 : Int) (r1 : Int) (r2 : Bool) (w : World) (h : hD_.f k a0 = some (r1, r2)) :
    Calls Tryz.prog 62 #[.int .u8 a0] w fun e w' => e = .returned (.tuple #[.int .i64 r1, .bool r2]) ∧ Drawn0 w w' := by
 have H : (if 48 ≤ a0 then (hD_.j0 k a0 (decide (a0 ≤ 57))) else (hD_.j0 k a0 false)) = some (r1, r2) := h
 clear h
 have HC2 := Aside0.mk H
 clear H
 go_enter Tryz.func62, Tryz.ntmps62
 go_upto_region 1 with (fail)
 go_cut [4] (fun v4 wc => ∃ (kq : Nat) (x4_1 : Bool), v4 = .bool x4_1 ∧ Aside0 (hD_.j0 kq a0 x4_1 = some (r1, r2)) ∧ Aside0 (kq ≤ k) ∧ Drawn0 w wc)
 case first =>
  have H := HC2.out
  clear HC2
  by_cases c3 : 48 ≤ a0
  ·
   rw [if_pos c3] at H
   have c3b0 := decide_eq_true c3
   clear c3
   (first | rw [c3b0] | (simp only [i64_w, i32_w]; rw [c3b0]) | rw [c3b1] | skip)
   have H' := Aside0.mk H
   clear H
   go_wp2
   go_meet
   case rel => exact ⟨_, (decide (a0 ≤ 57)), zE, H', ⟨by first | omega | exact Nat.le_refl _⟩, zD⟩
  rw [if_neg c3] at H
  have c3b0 := decide_eq_false c3
  clear c3
  (first | rw [c3b0] | (simp only [i64_w, i32_w]; rw [c3b0]) | rw [c3b1] | skip)
  have H' := Aside0.mk H
  clear H
  go_wp2
  go_meet
  case rel => exact ⟨_, (false), zE, H', ⟨by first | omega | exact Nat.le_refl _⟩, zD⟩
 clear HC2
 obtain ⟨kq, x4_1, rfl, HA, HJ1, ⟨mc1, rfl⟩⟩ := hcut
 rcases kq with _ | kj1
 · exact absurd HA.out (by simp [hD_.j0])
 have H := HA.out
 clear HA
 simp only [hD_.j0] at H
 by_cases c4 : x4_1 = true
 ·
  subst c4
  rw [if_pos rfl] at H
  simp only [Option.some.injEq, Prod.mk.injEq] at H
  obtain ⟨rfl, rfl⟩ := H
  go_wp2
  go_ret2
  exact ⟨by first | rfl | (simp; done) | (simp [nil_ne_, nil_eq_]; done) | (simp [*]; done), zD⟩
 replace c4 := Bool.eq_false_iff.mpr c4
 subst c4
 rw [if_neg Bool.false_ne_true] at H
 have HC5 := Aside0.mk H
 clear H
 go_upto_region 3 with (fail)
 go_cut [14] (fun v14 wc => ∃ (kq : Nat) (x14_4 : Bool), v14 = .bool x14_4 ∧ Aside0 (hD_.j1 kq a0 x14_4 = some (r1, r2)) ∧ Aside0 (kq ≤ kj1) ∧ Drawn0 w wc)
 case first =>
  have H := HC5.out
  clear HC5
  by_cases c6 : 97 ≤ a0
  ·
   rw [if_pos c6] at H
   have c6b0 := decide_eq_true c6
   clear c6
   (first | rw [c6b0] | (simp only [i64_w, i32_w]; rw [c6b0]) | rw [c6b1] | skip)
   have H' := Aside0.mk H
   clear H
   go_wp2
   go_meet
   case rel => exact ⟨_, (decide (a0 ≤ 102)), zE, H', ⟨by have := HJ1.out; first | omega | exact Nat.le_refl _⟩, zD⟩
  rw [if_neg c6] at H
  have c6b0 := decide_eq_false c6
  clear c6
  (first | rw [c6b0] | (simp only [i64_w, i32_w]; rw [c6b0]) | rw [c6b1] | skip)
  have H' := Aside0.mk H
  clear H
  go_wp2
  go_meet
  case rel => exact ⟨_, (false), zE, H', ⟨by have := HJ1.out; first | omega | exact Nat.le_refl _⟩, zD⟩
 clear HC5
 (try clear c4)
 obtain ⟨kq, x14_4, rfl, HA, HJ4, ⟨mc4, rfl⟩⟩ := hcut
 rcases kq with _ | kj4
 · exact absurd HA.out (by simp [hD_.j1])
 have H := HA.out
 clear HA
 simp only [hD_.j1] at H
 by_cases c7 : x14_4 = true
 ·
  subst c7
  rw [if_pos rfl] at H
  simp only [Option.some.injEq, Prod.mk.injEq] at H
  obtain ⟨rfl, rfl⟩ := H
  go_wp2
  go_ret2
  exact ⟨by first | rfl | (simp; done) | (simp [nil_ne_, nil_eq_]; done) | (simp [*]; done), zD⟩
 replace c7 := Bool.eq_false_iff.mpr c7
 subst c7
 rw [if_neg Bool.false_ne_true] at H
 by_cases c8 : 65 ≤ a0
 ·
  rw [if_pos c8] at H
  have c8b0 := decide_eq_true c8
  clear c8
  by_cases c9 : a0 ≤ 70
  ·
   rw [if_pos c9] at H
   have c9b0 := decide_eq_true c9
   clear c9
   simp only [Option.some.injEq, Prod.mk.injEq] at H
   obtain ⟨rfl, rfl⟩ := H
   go_wp2
   go_ret2
   exact ⟨by first | rfl | (simp; done) | (simp [nil_ne_, nil_eq_]; done) | (simp [*]; done), zD⟩
  rw [if_neg c9] at H
  have c9b0 := decide_eq_false c9
  clear c9
  simp only [Option.some.injEq, Prod.mk.injEq] at H
  obtain ⟨rfl, rfl⟩ := H
  go_wp2
  go_ret2
  exact ⟨by first | rfl | (simp; done) | (simp [nil_ne_, nil_eq_]; done) | (simp [*]; done), zD⟩
 rw [if_neg c8] at H
 have c8b0 := decide_eq_false c8
 clear c8
 simp only [Option.some.injEq, Prod.mk.injEq] at H
 obtain ⟨rfl, rfl⟩ := H
 go_wp2
 go_ret2
 exact ⟨by first | rfl | (simp; done) | (simp [nil_ne_, nil_eq_]; done) | (simp [*]; done), zD⟩
end Go.Proofs.YtpdohioobbfncaaGreatDoor.PFnJpWildStop