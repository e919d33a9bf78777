/- What the decoder of UTF-8 gives: its width, and that it looks no further than the first byte that continues nothing; no condition beside those that each theorem states. -/
import Derived.Test.YtljmeaemonpkoaaDoorPFnMtNoCaseSmallx
import Derived.Shelf.Unicode.DecodeSlow
namespace Go.Proofs.YtljmeaemonpkoaaDoor.UFnMtNoCaseSmall
open Go.RowKit Go.Proofs.YtljmeaemonpkoaaDoor.PFnMtNoCaseSmall Go.Proofs.YtljmeaemonpkoaaDoorW.PrintWords Go.Proofs.YtljmeaemonpkoaaDoorW.PrintLast Go.Proofs.YtljmeaemonpkoaaDoorW.PrintMore

set_option linter.unusedSimpArgs false
set_option linter.unusedVariables false
theorem w64 {x : Int} (h0 : -9223372036854775808 ≤ x) (h1 : x ≤ 9223372036854775807) : wrap64 x = x := by
  unfold wrap64; omega
theorem Ev.pos {α : Type} {c : Prop} [Decidable c] {f g : Nat → Option α} {r : α} (h : c) (e : Ev f r) : Ev (fun k => if c then f k else g k) r :=
  Ev.congr (fun _ => if_pos h) e
theorem Ev.neg {α : Type} {c : Prop} [Decidable c] {f g : Nat → Option α} {r : α} (h : ¬ c) (e : Ev g r) : Ev (fun k => if c then f k else g k) r :=
  Ev.congr (fun _ => if_neg h) e
theorem Ev.bd {α β : Type} {g : Option α} {f : Nat → α → Option β} {a : α} {r : β} (h : g = some a) (k : Ev (fun n => f n a) r) : Ev (fun n => g.bind (f n)) r :=
  Ev.congr (fun n => by rw [h]; rfl) k
theorem Ev.eq {α : Type} {f : Nat → Option α} {a b : α} (h : a = b) (e : Ev f a) : Ev f b := h ▸ e
theorem Ev.get {α : Type} {f g : Nat → Option α} {r : α} (h : f = g) (e : Ev g r) : Ev f r := h ▸ e

theorem get_bt (s : ByteArray) (n : Nat) : ((s.get! n).toNat : Int) = bt s n := by
  unfold bt
  by_cases h : n < s.size
  · rw [dif_pos (by simpa using h)]
    rw [Utf8W.get!_of_lt s n h]
    rfl
  · rw [dif_neg (by simpa using h)]
    cases s with
    | mk d =>
      have : ¬ n < d.size := h
      show ((d[n]!).toNat : Int) = 0
      rw [getElem!_neg d n this]
      rfl
theorem bt_l (x y : ByteArray) (q : Int) (h0 : 0 ≤ q) (h : q < x.size) : bt (x ++ y) q = bt x q := by
  unfold bt
  have h1 : q.toNat < x.size := by omega
  have h2 : q.toNat < (x ++ y).size := by rw [ByteArray.size_append]; omega
  rw [dif_pos h1, dif_pos h2, ByteArray.getElem_append_left h1]
theorem bt_r (x y : ByteArray) (q : Int) (h0 : 0 ≤ q) (h : q < y.size) : bt (x ++ y) (x.size + q) = bt y q := by
  unfold bt
  have h1 : q.toNat < y.size := by omega
  have h2 : ((x.size : Int) + q).toNat < (x ++ y).size := by rw [ByteArray.size_append]; omega
  rw [dif_pos h1, dif_pos h2, ByteArray.getElem_append_right (by omega)]
  congr 3
  omega
/-- A byte of a piece. -/
theorem bt_x (s : ByteArray) (a b : Nat) (q : Int) (h0 : 0 ≤ q) (h : a + q < b) (hb : b ≤ s.size) : bt (s.extract a b) q = bt s (a + q) := by
  unfold bt
  have h1 : q.toNat < (s.extract a b).size := by rw [ByteArray.size_extract]; omega
  have h2 : ((a : Int) + q).toNat < s.size := by omega
  rw [dif_pos h1, dif_pos h2, ByteArray.getElem_extract]
  congr 3
  omega
theorem dec_eq (u : ByteArray) (h : 0 < u.size) : Lib.decodeGo u = Lib.decodeN u.size (bt u 0).toNat (bt u 1).toNat (bt u 2).toNat (bt u 3).toNat := by
  unfold Lib.decodeGo
  rw [if_neg (by omega), Lib.decode_at]
  have g0 : ((u.get! 0).toNat : Int) = bt u 0 := get_bt u 0
  have g1 : ((u.get! 1).toNat : Int) = bt u 1 := get_bt u 1
  have g2 : ((u.get! 2).toNat : Int) = bt u 2 := get_bt u 2
  have g3 : ((u.get! 3).toNat : Int) = bt u 3 := get_bt u 3
  simp only [Nat.zero_add, Nat.sub_zero]
  congr 1 <;> omega
theorem dec_width (u : ByteArray) (h : 0 < u.size) : 1 ≤ (Lib.decodeGo u).2 ∧ (Lib.decodeGo u).2 ≤ u.size ∧ (Lib.decodeGo u).2 ≤ 4 := by
  rw [dec_eq u h]
  unfold Lib.decodeN
  repeat' split
  all_goals (simp only []; omega)
theorem dec_ascii (u : ByteArray) (h : 0 < u.size) (h0 : bt u 0 < 128) : Lib.decodeGo u = ((bt u 0).toNat, 1) := by
  rw [dec_eq u h]
  unfold Lib.decodeN
  rw [if_pos (by omega)]
/-- The decoder's answer hangs on the bytes up to the first that continues nothing. -/
theorem dN_loc (n m b0 b1 b2 b3 c1 c2 c3 : Nat) (h1 : (1 < n ∧ b1 / 64 = 2) ↔ (1 < m ∧ c1 / 64 = 2))
    (h2 : (1 < n ∧ b1 / 64 = 2) → b1 = c1 ∧ ((2 < n ∧ b2 / 64 = 2) ↔ (2 < m ∧ c2 / 64 = 2)))
    (h3 : (1 < n ∧ b1 / 64 = 2) → (2 < n ∧ b2 / 64 = 2) → b2 = c2 ∧ ((3 < n ∧ b3 / 64 = 2) ↔ (3 < m ∧ c3 / 64 = 2)))
    (h4 : (1 < n ∧ b1 / 64 = 2) → (2 < n ∧ b2 / 64 = 2) → (3 < n ∧ b3 / 64 = 2) → b3 = c3) : Lib.decodeN n b0 b1 b2 b3 = Lib.decodeN m b0 c1 c2 c3 := by
  by_cases p1 : 1 < n ∧ b1 / 64 = 2
  · have q1 := h1.1 p1
    obtain ⟨e1, k2⟩ := h2 p1
    subst e1
    by_cases p2 : 2 < n ∧ b2 / 64 = 2
    · have q2 := k2.1 p2
      obtain ⟨e2, k3⟩ := h3 p1 p2
      subst e2
      by_cases p3 : 3 < n ∧ b3 / 64 = 2
      · have q3 := k3.1 p3
        have e3 := h4 p1 p2 p3
        subst e3
        unfold Lib.decodeN
        simp only [p1, q1, p2, q2, p3, q3, and_true, true_and]
      · have q3 : ¬ (3 < m ∧ c3 / 64 = 2) := fun h => p3 (k3.2 h)
        unfold Lib.decodeN
        simp only [p1, q1, p2, q2, p3, q3, and_true, true_and, and_false, if_false]
    · have q2 : ¬ (2 < m ∧ c2 / 64 = 2) := fun h => p2 (k2.2 h)
      unfold Lib.decodeN
      simp only [p1, q1, p2, q2, and_true, true_and, and_false, false_and, if_false]
  · have q1 : ¬ (1 < m ∧ c1 / 64 = 2) := fun h => p1 (h1.2 h)
    unfold Lib.decodeN
    simp only [p1, q1, and_false, false_and, if_false]
/-- Behind a text whose last byte is ASCII anything may stand. -/
theorem dec_app (u v : ByteArray) (h : 0 < u.size) (hl : bt u (u.size - 1) < 128) : Lib.decodeGo (u ++ v) = Lib.decodeGo u := by
  have hs : (u ++ v).size = u.size + v.size := ByteArray.size_append
  rw [dec_eq u h, dec_eq (u ++ v) (by omega), bt_l u v 0 (by omega) (by omega)]
  have g : ∀ q : Int, 0 ≤ q → q < u.size → bt (u ++ v) q = bt u q := fun q a b => bt_l u v q a b
  have r0 := bt_range u 0; have r1 := bt_range u 1; have r2 := bt_range u 2; have r3 := bt_range u 3
  by_cases a0 : bt u 0 < 128
  · unfold Lib.decodeN
    rw [if_pos (by omega), if_pos (by omega)]
  have s1 : 1 < u.size := by
    apply Decidable.byContradiction
    intro c
    rw [show ((u.size : Nat) : Int) - 1 = 0 by omega] at hl
    exact a0 hl
  rw [g 1 (by omega) (by omega)]
  have s2 : (bt u 1).toNat / 64 = 2 → 2 < u.size := by
    intro hc
    apply Decidable.byContradiction
    intro c
    rw [show ((u.size : Nat) : Int) - 1 = 1 by omega] at hl
    omega
  have s3 : (bt u 1).toNat / 64 = 2 → (bt u 2).toNat / 64 = 2 → 3 < u.size := by
    intro hc hd
    have := s2 hc
    apply Decidable.byContradiction
    intro c
    rw [show ((u.size : Nat) : Int) - 1 = 2 by omega] at hl
    omega
  refine dN_loc _ _ _ _ _ _ _ _ _ ⟨fun x => ⟨by omega, x.2⟩, fun x => ⟨by omega, x.2⟩⟩ (fun x => ⟨rfl, ?_⟩) (fun x y => ?_) (fun x y z => ?_)
  · rw [g 2 (by omega) (by have := s2 x.2; omega)]
    have := s2 x.2
    exact ⟨fun y => ⟨by omega, y.2⟩, fun y => ⟨by omega, y.2⟩⟩
  · have e2 := s2 x.2
    have y2 : (bt u 2).toNat / 64 = 2 := by rw [← g 2 (by omega) (by omega)]; exact y.2
    have e3 := s3 x.2 y2
    rw [g 2 (by omega) (by omega), g 3 (by omega) (by omega)]
    exact ⟨rfl, fun z => ⟨by omega, z.2⟩, fun z => ⟨by omega, z.2⟩⟩
  · have e2 := s2 x.2
    have y2 : (bt u 2).toNat / 64 = 2 := by rw [← g 2 (by omega) (by omega)]; exact y.2
    have e3 := s3 x.2 y2
    rw [g 3 (by omega) (by omega)]
end Go.Proofs.YtljmeaemonpkoaaDoor.UFnMtNoCaseSmall
