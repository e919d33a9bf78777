/- What the decoder of UTF-8 gives: its width, and that it looks no further than the first byte that continues nothing; no condition beside those that each theorem states. -/
import Derived.Test.YtobmnfbplmefoaaDoorPFnJqPathOfx
import Derived.Shelf.Unicode.DecodeSlow
import Derived.Lib.SpaceU
namespace Go.Proofs.YtobmnfbplmefoaaDoor.UFnJqPathOf
open Go.RowKit Go.Proofs.YtobmnfbplmefoaaDoor.PFnJqPathOf Go.Proofs.YtobmnfbplmefoaaDoorW.PrintWords Go.Proofs.YtobmnfbplmefoaaDoorW.PrintLast Go.Proofs.YtobmnfbplmefoaaDoorW.PrintMore

set_option linter.unusedSimpArgs false
set_option linter.unusedVariables false
theorem w64 {x : Int} (h0 : -9223372036854775808 ≤ x) (h1 : x ≤ 9223372036854775807) : wrap64 x = x := by
  unfold wrap64; omega
theorem Ev.pos {α : Type} {c : Prop} [Decidable c] {f g : Nat → Option α} {r : α} (h : c) (e : Ev f r) : Ev (fun k => if c then f k else g k) r :=
  Ev.congr (fun _ => if_pos h) e
theorem Ev.neg {α : Type} {c : Prop} [Decidable c] {f g : Nat → Option α} {r : α} (h : ¬ c) (e : Ev g r) : Ev (fun k => if c then f k else g k) r :=
  Ev.congr (fun _ => if_neg h) e
theorem Ev.bd {α β : Type} {g : Option α} {f : Nat → α → Option β} {a : α} {r : β} (h : g = some a) (k : Ev (fun n => f n a) r) : Ev (fun n => g.bind (f n)) r :=
  Ev.congr (fun n => by rw [h]; rfl) k
theorem Ev.eq {α : Type} {f : Nat → Option α} {a b : α} (h : a = b) (e : Ev f a) : Ev f b := h ▸ e
theorem Ev.get {α : Type} {f g : Nat → Option α} {r : α} (h : f = g) (e : Ev g r) : Ev f r := h ▸ e

theorem get_bt (s : ByteArray) (n : Nat) : ((s.get! n).toNat : Int) = bt s n := by
  unfold bt
  by_cases h : n < s.size
  · rw [dif_pos (by simpa using h)]
    rw [Utf8W.get!_of_lt s n h]
    rfl
  · rw [dif_neg (by simpa using h)]
    cases s with
    | mk d =>
      have : ¬ n < d.size := h
      show ((d[n]!).toNat : Int) = 0
      rw [getElem!_neg d n this]
      rfl
theorem bt_l (x y : ByteArray) (q : Int) (h0 : 0 ≤ q) (h : q < x.size) : bt (x ++ y) q = bt x q := by
  unfold bt
  have h1 : q.toNat < x.size := by omega
  have h2 : q.toNat < (x ++ y).size := by rw [ByteArray.size_append]; omega
  rw [dif_pos h1, dif_pos h2, ByteArray.getElem_append_left h1]
theorem bt_r (x y : ByteArray) (q : Int) (h0 : 0 ≤ q) (h : q < y.size) : bt (x ++ y) (x.size + q) = bt y q := by
  unfold bt
  have h1 : q.toNat < y.size := by omega
  have h2 : ((x.size : Int) + q).toNat < (x ++ y).size := by rw [ByteArray.size_append]; omega
  rw [dif_pos h1, dif_pos h2, ByteArray.getElem_append_right (by omega)]
  congr 3
  omega
/-- A byte of a piece. -/
theorem bt_x (s : ByteArray) (a b : Nat) (q : Int) (h0 : 0 ≤ q) (h : a + q < b) (hb : b ≤ s.size) : bt (s.extract a b) q = bt s (a + q) := by
  unfold bt
  have h1 : q.toNat < (s.extract a b).size := by rw [ByteArray.size_extract]; omega
  have h2 : ((a : Int) + q).toNat < s.size := by omega
  rw [dif_pos h1, dif_pos h2, ByteArray.getElem_extract]
  congr 3
  omega
theorem dec_eq (u : ByteArray) (h : 0 < u.size) : Lib.decodeGo u = Lib.decodeN u.size (bt u 0).toNat (bt u 1).toNat (bt u 2).toNat (bt u 3).toNat := by
  unfold Lib.decodeGo
  rw [if_neg (by omega), Lib.decode_at]
  have g0 : ((u.get! 0).toNat : Int) = bt u 0 := get_bt u 0
  have g1 : ((u.get! 1).toNat : Int) = bt u 1 := get_bt u 1
  have g2 : ((u.get! 2).toNat : Int) = bt u 2 := get_bt u 2
  have g3 : ((u.get! 3).toNat : Int) = bt u 3 := get_bt u 3
  simp only [Nat.zero_add, Nat.sub_zero]
  congr 1 <;> omega
theorem dec_width (u : ByteArray) (h : 0 < u.size) : 1 ≤ (Lib.decodeGo u).2 ∧ (Lib.decodeGo u).2 ≤ u.size ∧ (Lib.decodeGo u).2 ≤ 4 := by
  rw [dec_eq u h]
  unfold Lib.decodeN
  repeat' split
  all_goals (simp only []; omega)
theorem dec_ascii (u : ByteArray) (h : 0 < u.size) (h0 : bt u 0 < 128) : Lib.decodeGo u = ((bt u 0).toNat, 1) := by
  rw [dec_eq u h]
  unfold Lib.decodeN
  rw [if_pos (by omega)]
/-- The decoder's answer hangs on the bytes up to the first that continues nothing. -/
theorem dN_loc (n m b0 b1 b2 b3 c1 c2 c3 : Nat) (h1 : (1 < n ∧ b1 / 64 = 2) ↔ (1 < m ∧ c1 / 64 = 2))
    (h2 : (1 < n ∧ b1 / 64 = 2) → b1 = c1 ∧ ((2 < n ∧ b2 / 64 = 2) ↔ (2 < m ∧ c2 / 64 = 2)))
    (h3 : (1 < n ∧ b1 / 64 = 2) → (2 < n ∧ b2 / 64 = 2) → b2 = c2 ∧ ((3 < n ∧ b3 / 64 = 2) ↔ (3 < m ∧ c3 / 64 = 2)))
    (h4 : (1 < n ∧ b1 / 64 = 2) → (2 < n ∧ b2 / 64 = 2) → (3 < n ∧ b3 / 64 = 2) → b3 = c3) : Lib.decodeN n b0 b1 b2 b3 = Lib.decodeN m b0 c1 c2 c3 := by
  by_cases p1 : 1 < n ∧ b1 / 64 = 2
  · have q1 := h1.1 p1
    obtain ⟨e1, k2⟩ := h2 p1
    subst e1
    by_cases p2 : 2 < n ∧ b2 / 64 = 2
    · have q2 := k2.1 p2
      obtain ⟨e2, k3⟩ := h3 p1 p2
      subst e2
      by_cases p3 : 3 < n ∧ b3 / 64 = 2
      · have q3 := k3.1 p3
        have e3 := h4 p1 p2 p3
        subst e3
        unfold Lib.decodeN
        simp only [p1, q1, p2, q2, p3, q3, and_true, true_and]
      · have q3 : ¬ (3 < m ∧ c3 / 64 = 2) := fun h => p3 (k3.2 h)
        unfold Lib.decodeN
        simp only [p1, q1, p2, q2, p3, q3, and_true, true_and, and_false, if_false]
    · have q2 : ¬ (2 < m ∧ c2 / 64 = 2) := fun h => p2 (k2.2 h)
      unfold Lib.decodeN
      simp only [p1, q1, p2, q2, and_true, true_and, and_false, false_and, if_false]
  · have q1 : ¬ (1 < m ∧ c1 / 64 = 2) := fun h => p1 (h1.2 h)
    unfold Lib.decodeN
    simp only [p1, q1, and_false, false_and, if_false]
/-- Behind a text whose last byte is ASCII anything may stand. -/
theorem dec_app (u v : ByteArray) (h : 0 < u.size) (hl : bt u (u.size - 1) < 128) : Lib.decodeGo (u ++ v) = Lib.decodeGo u := by
  have hs : (u ++ v).size = u.size + v.size := ByteArray.size_append
  rw [dec_eq u h, dec_eq (u ++ v) (by omega), bt_l u v 0 (by omega) (by omega)]
  have g : ∀ q : Int, 0 ≤ q → q < u.size → bt (u ++ v) q = bt u q := fun q a b => bt_l u v q a b
  have r0 := bt_range u 0; have r1 := bt_range u 1; have r2 := bt_range u 2; have r3 := bt_range u 3
  by_cases a0 : bt u 0 < 128
  · unfold Lib.decodeN
    rw [if_pos (by omega), if_pos (by omega)]
  have s1 : 1 < u.size := by
    apply Decidable.byContradiction
    intro c
    rw [show ((u.size : Nat) : Int) - 1 = 0 by omega] at hl
    exact a0 hl
  rw [g 1 (by omega) (by omega)]
  have s2 : (bt u 1).toNat / 64 = 2 → 2 < u.size := by
    intro hc
    apply Decidable.byContradiction
    intro c
    rw [show ((u.size : Nat) : Int) - 1 = 1 by omega] at hl
    omega
  have s3 : (bt u 1).toNat / 64 = 2 → (bt u 2).toNat / 64 = 2 → 3 < u.size := by
    intro hc hd
    have := s2 hc
    apply Decidable.byContradiction
    intro c
    rw [show ((u.size : Nat) : Int) - 1 = 2 by omega] at hl
    omega
  refine dN_loc _ _ _ _ _ _ _ _ _ ⟨fun x => ⟨by omega, x.2⟩, fun x => ⟨by omega, x.2⟩⟩ (fun x => ⟨rfl, ?_⟩) (fun x y => ?_) (fun x y z => ?_)
  · rw [g 2 (by omega) (by have := s2 x.2; omega)]
    have := s2 x.2
    exact ⟨fun y => ⟨by omega, y.2⟩, fun y => ⟨by omega, y.2⟩⟩
  · have e2 := s2 x.2
    have y2 : (bt u 2).toNat / 64 = 2 := by rw [← g 2 (by omega) (by omega)]; exact y.2
    have e3 := s3 x.2 y2
    rw [g 2 (by omega) (by omega), g 3 (by omega) (by omega)]
    exact ⟨rfl, fun z => ⟨by omega, z.2⟩, fun z => ⟨by omega, z.2⟩⟩
  · have e2 := s2 x.2
    have y2 : (bt u 2).toNat / 64 = 2 := by rw [← g 2 (by omega) (by omega)]; exact y.2
    have e3 := s3 x.2 y2
    rw [g 3 (by omega) (by omega)]
end Go.Proofs.YtobmnfbplmefoaaDoor.UFnJqPathOf
/- Characters and their bytes in UTF-8: written, read from either end; no condition beside those that each theorem states. -/
namespace Go.Proofs.YtobmnfbplmefoaaDoor.UFnJqPathOf
open Go.RowKit Go.Proofs.YtobmnfbplmefoaaDoor.PFnJqPathOf Go.Proofs.YtobmnfbplmefoaaDoorW.PrintWords Go.Proofs.YtobmnfbplmefoaaDoorW.PrintLast Go.Proofs.YtobmnfbplmefoaaDoorW.PrintMore
set_option linter.unusedSimpArgs false
set_option linter.unusedVariables false

/-! ### bytes out of numbers -/
def By (xs : List Int) : Prop := ∀ x ∈ xs, 0 ≤ x ∧ x < 256
theorem By.app {a b : List Int} (h : By a) (k : By b) : By (a ++ b) := fun x hx => by
  rcases List.mem_append.1 hx with h1 | h1
  · exact h x h1
  · exact k x h1
theorem strApp (x y : List Int) : strOfNums (x ++ y) = strOfNums x ++ strOfNums y := by
  apply ByteArray.ext
  simp [strOfNums]
theorem bt_nums (xs : List Int) (h : By xs) (i : Nat) (hi : i < xs.length) : bt (strOfNums xs) i = xs[i] := by
  unfold bt
  have h1 : (i : Int).toNat < (strOfNums xs).size := by rw [strOfNums_size]; simpa using hi
  rw [dif_pos h1]
  have hx := h xs[i] (List.getElem_mem hi)
  have e : (strOfNums xs)[(i : Int).toNat]'h1 = UInt8.ofNat (xs[i]).toNat := by
    have e2 : (strOfNums xs)[(i : Int).toNat]'h1 = ((xs.map fun n => UInt8.ofNat n.toNat).toArray)[(i : Int).toNat]'(by simpa using hi) := rfl
    rw [e2]
    simp
  rw [e]
  have : (UInt8.ofNat (xs[i]).toNat).toNat = (xs[i]).toNat := by
    rw [UInt8.toNat_ofNat']
    omega
  rw [this]
  omega
theorem bt_num {xs : List Int} (h : By xs) {i : Nat} {z : Int} (hz : xs[i]? = some z) : bt (strOfNums xs) i = z := by
  obtain ⟨hi, e⟩ := List.getElem?_eq_some_iff.1 hz
  rw [bt_nums xs h i hi, e]

/-! ### characters -/
def Vd (c : Int) : Prop := 0 ≤ c ∧ c ≤ 1114111 ∧ ¬ (55296 ≤ c ∧ c ≤ 57343)
def en (c : Int) : List Int :=
  if c < 128 then [c] else if c < 2048 then [192 + c / 64, 128 + c % 64] else if c < 65536 then [224 + c / 4096, 128 + c / 64 % 64, 128 + c % 64]
  else [240 + c / 262144, 128 + c / 4096 % 64, 128 + c / 64 % 64, 128 + c % 64]
def bs (cs : List Int) : ByteArray := strOfNums (cs.flatMap en)
theorem en_by {c : Int} (h : Vd c) : By (en c) := by
  unfold Vd at h
  unfold By en
  intro x
  split
  · simp; omega
  · split
    · simp; omega
    · split
      · simp; omega
      · simp; omega
theorem en_len (c : Int) : 1 ≤ (en c).length ∧ (en c).length ≤ 4 := by
  unfold en
  repeat' split
  all_goals simp
theorem en_ascii {c : Int} (h : c < 128) : en c = [c] := if_pos h
theorem bs_by {cs : List Int} (h : ∀ c ∈ cs, Vd c) : By (cs.flatMap en) := by
  intro x hx
  obtain ⟨c, hc, hx⟩ := List.mem_flatMap.1 hx
  exact en_by (h c hc) x hx
theorem bs_nil : bs [] = ByteArray.empty := rfl
theorem bs_cons (c : Int) (cs : List Int) : bs (c :: cs) = strOfNums (en c) ++ bs cs := by
  unfold bs
  rw [List.flatMap_cons, strApp]
theorem bs_app (a b : List Int) : bs (a ++ b) = bs a ++ bs b := by
  unfold bs
  rw [List.flatMap_append, strApp]
theorem bs_one (c : Int) : bs [c] = strOfNums (en c) := by
  unfold bs; simp
theorem bs_size_cons (c : Int) (cs : List Int) : (bs (c :: cs)).size = (en c).length + (bs cs).size := by
  rw [bs_cons, ByteArray.size_append, strOfNums_size]
theorem bs_size_app (a b : List Int) : (bs (a ++ b)).size = (bs a).size + (bs b).size := by
  rw [bs_app, ByteArray.size_append]
theorem bs_size_one (c : Int) : (bs [c]).size = (en c).length := by rw [bs_one, strOfNums_size]
theorem bs_size_nil : (bs []).size = 0 := rfl
theorem bs_pos {cs : List Int} : 0 < (bs cs).size ↔ cs ≠ [] := by
  cases cs with
  | nil => simp [bs_size_nil]
  | cons c r => have := (en_len c).1; rw [bs_size_cons]; simp; omega
theorem bs_len (cs : List Int) : cs.length ≤ (bs cs).size := by
  induction cs with
  | nil => exact Nat.zero_le _
  | cons c r ih => have := (en_len c).1; rw [bs_size_cons, List.length_cons]; omega
theorem bs_left (a b : List Int) : (bs (a ++ b)).extract 0 (bs a).size = bs a := by
  rw [bs_app]; exact ByteArray.extract_append_eq_left rfl
theorem bs_right (a b : List Int) : (bs (a ++ b)).extract (bs a).size (bs (a ++ b)).size = bs b := by
  rw [bs_app]; exact ByteArray.extract_append_eq_right rfl (by rw [ByteArray.size_append])
theorem bs_tail (c : Int) (cs : List Int) : (bs (c :: cs)).extract (en c).length (bs (c :: cs)).size = bs cs := by
  have := bs_right [c] cs
  rw [bs_size_one] at this
  exact this
/-- A byte of the character that begins a text. -/
theorem bs_head {c : Int} (h : Vd c) (cs : List Int) {i : Nat} {z : Int} (hz : (en c)[i]? = some z) : bt (bs (c :: cs)) i = z := by
  obtain ⟨hi, _⟩ := List.getElem?_eq_some_iff.1 hz
  rw [bs_cons, bt_l _ _ _ (by omega) (by rw [strOfNums_size]; omega)]
  exact bt_num (en_by h) hz
theorem bs_last {c : Int} (h : Vd c) (cs : List Int) {i : Nat} {z : Int} (hz : (en c)[i]? = some z) : bt (bs (cs ++ [c])) ((bs cs).size + i) = z := by
  obtain ⟨hi, _⟩ := List.getElem?_eq_some_iff.1 hz
  rw [bs_app, bt_r _ _ _ (by omega) (by rw [bs_size_one]; omega), bs_one]
  exact bt_num (en_by h) hz
theorem head_ascii {c : Int} (h : Vd c) (cs : List Int) (ha : c < 128) : bt (bs (c :: cs)) 0 = c :=
  bs_head h cs (i := 0) (by rw [en_ascii ha]; rfl)
theorem head_high {c : Int} (h : Vd c) (cs : List Int) (ha : ¬ c < 128) : 128 ≤ bt (bs (c :: cs)) 0 := by
  unfold Vd at h
  have hen : ∃ z, (en c)[0]? = some z ∧ 128 ≤ z := by
    unfold en
    rw [if_neg ha]
    split
    · exact ⟨_, rfl, by omega⟩
    · split
      · exact ⟨_, rfl, by omega⟩
      · exact ⟨_, rfl, by omega⟩
  obtain ⟨z, hz, h2⟩ := hen
  have := bs_head (by unfold Vd; exact h) cs (i := 0) hz
  have e : bt (bs (c :: cs)) 0 = z := this
  omega
/-- The last byte of a text is an ASCII character just if that is its last character. -/
theorem last_byte {c : Int} (h : Vd c) (cs : List Int) : (c < 128 → bt (bs (cs ++ [c])) ((bs (cs ++ [c])).size - 1) = c) ∧ (¬ c < 128 → 128 ≤ bt (bs (cs ++ [c])) ((bs (cs ++ [c])).size - 1)) := by
  have hz : (bs (cs ++ [c])).size = (bs cs).size + (en c).length := by rw [bs_size_app, bs_size_one]
  have hv := h
  unfold Vd at hv
  constructor
  · intro ha
    have := bs_last h cs (i := 0) (z := c) (by rw [en_ascii ha]; rfl)
    have e1 : (((bs cs).size + (en c).length : Nat) : Int) - 1 = (bs cs).size + ((0 : Nat) : Int) := by rw [en_ascii ha]; simp
    rw [hz, e1]
    exact this
  · intro ha
    have hen : ∃ i z, (en c)[i]? = some z ∧ i + 1 = (en c).length ∧ 128 ≤ z := by
      unfold en
      rw [if_neg ha]
      split
      · exact ⟨1, _, rfl, rfl, by omega⟩
      · split
        · exact ⟨2, _, rfl, rfl, by omega⟩
        · exact ⟨3, _, rfl, rfl, by omega⟩
    obtain ⟨i, z, h1, h2, h3⟩ := hen
    have := bs_last h cs h1
    rw [hz, show (((bs cs).size + (en c).length : Nat) : Int) - 1 = (bs cs).size + i by omega, this]
    exact h3
/-- THE DECODER reads what was written. -/
theorem dec_bs {c : Int} (h : Vd c) (cs : List Int) : Lib.decodeGo (bs (c :: cs)) = (c.toNat, (en c).length) := by
  have hz := bs_size_cons c cs
  have hl := en_len c
  rw [dec_eq _ (by omega)]
  have hv := h
  unfold Vd at hv
  by_cases h1 : c < 128
  · have b0 := bs_head h cs (i := 0) (z := c) (by rw [en_ascii h1]; rfl)
    have b0' : bt (bs (c :: cs)) 0 = c := b0
    rw [b0', en_ascii h1]
    unfold Lib.decodeN
    rw [if_pos (by omega)]
    rfl
  by_cases h2 : c < 2048
  · have e : en c = [192 + c / 64, 128 + c % 64] := by unfold en; rw [if_neg h1, if_pos h2]
    have b0 : bt (bs (c :: cs)) 0 = 192 + c / 64 := bs_head h cs (i := 0) (by rw [e]; rfl)
    have b1 : bt (bs (c :: cs)) 1 = 128 + c % 64 := bs_head h cs (i := 1) (by rw [e]; rfl)
    rw [e] at hz ⊢
    simp only [List.length_cons, List.length_nil] at hz ⊢
    rw [b0, b1]
    unfold Lib.decodeN
    rw [if_neg (by omega), if_pos (by omega), if_pos (by omega)]
    congr 1
    omega
  by_cases h3 : c < 65536
  · have e : en c = [224 + c / 4096, 128 + c / 64 % 64, 128 + c % 64] := by unfold en; rw [if_neg h1, if_neg h2, if_pos h3]
    have b0 : bt (bs (c :: cs)) 0 = 224 + c / 4096 := bs_head h cs (i := 0) (by rw [e]; rfl)
    have b1 : bt (bs (c :: cs)) 1 = 128 + c / 64 % 64 := bs_head h cs (i := 1) (by rw [e]; rfl)
    have b2 : bt (bs (c :: cs)) 2 = 128 + c % 64 := bs_head h cs (i := 2) (by rw [e]; rfl)
    rw [e] at hz ⊢
    simp only [List.length_cons, List.length_nil] at hz ⊢
    rw [b0, b1, b2]
    unfold Lib.decodeN
    rw [if_neg (by omega), if_neg (by omega), if_pos (by omega), if_pos (by omega)]
    congr 1
    omega
  · have e : en c = [240 + c / 262144, 128 + c / 4096 % 64, 128 + c / 64 % 64, 128 + c % 64] := by unfold en; rw [if_neg h1, if_neg h2, if_neg h3]
    have b0 : bt (bs (c :: cs)) 0 = 240 + c / 262144 := bs_head h cs (i := 0) (by rw [e]; rfl)
    have b1 : bt (bs (c :: cs)) 1 = 128 + c / 4096 % 64 := bs_head h cs (i := 1) (by rw [e]; rfl)
    have b2 : bt (bs (c :: cs)) 2 = 128 + c / 64 % 64 := bs_head h cs (i := 2) (by rw [e]; rfl)
    have b3 : bt (bs (c :: cs)) 3 = 128 + c % 64 := bs_head h cs (i := 3) (by rw [e]; rfl)
    rw [e] at hz ⊢
    simp only [List.length_cons, List.length_nil] at hz ⊢
    rw [b0, b1, b2, b3]
    unfold Lib.decodeN
    rw [if_neg (by omega), if_neg (by omega), if_neg (by omega), if_pos (by omega), if_pos (by omega)]
    congr 1
    omega
/-- THE DECODER FROM THE END reads what was written. -/
theorem decL_bs {c : Int} (h : Vd c) (cs : List Int) : Lib.decodeLastL (bs (cs ++ [c])).data.toList = (c.toNat, (en c).length) := by
  obtain ⟨l, hl⟩ : ∃ l, (bs (cs ++ [c])).data.toList = l := ⟨_, rfl⟩
  obtain ⟨p, hp⟩ : ∃ p, (bs cs).data.toList = p := ⟨_, rfl⟩
  obtain ⟨E, hE⟩ : ∃ E, (bs [c]).data.toList = E := ⟨_, rfl⟩
  have el : l = p ++ E := by rw [← hl, ← hp, ← hE, bs_app, ByteArray.toList_data_append]
  have lE : E.length = (en c).length := by rw [← hE, data_length, bs_size_one]
  have dE : Lib.decodeL E = (c.toNat, (en c).length) := by
    have d := dec_bs h []
    unfold Lib.decodeGo at d
    rw [if_neg (by rw [bs_size_one]; have := (en_len c).1; omega)] at d
    unfold Lib.decodeL
    rw [← hE]
    exact d
  have hg : ∀ i, i < (en c).length → ((l.getD (l.length - ((en c).length - i)) 0).toNat : Int) = (en c).getD i 0 := by
    intro i hi
    have e1 : l.length - ((en c).length - i) = p.length + i := by rw [el, List.length_append, lE]; omega
    have e2 : E.getD i 0 = l.getD (p.length + i) 0 := by
      rw [el, List.getD_eq_getElem?_getD, List.getD_eq_getElem?_getD, List.getElem?_append_right (by omega)]
      congr 2
      omega
    rw [e1, ← e2]
    have hb := bt_nums (en c) (en_by h) i hi
    rw [← rd_bytesOf, bytesOf, ← bs_one, hE] at hb
    unfold rd at hb
    rw [List.getD_eq_getElem?_getD, List.getElem?_map] at hb
    rw [List.getD_eq_getElem?_getD, List.getD_eq_getElem?_getD, List.getElem?_eq_getElem hi]
    have hi2 : i < E.length := by omega
    rw [show ((i : Int)).toNat = i by omega, List.getElem?_eq_getElem hi2] at hb
    rw [List.getElem?_eq_getElem hi2]
    exact hb
  have ll : l.length = p.length + (en c).length := by rw [el, List.length_append, lE]
  have dr : l.drop p.length = E := by rw [el, List.drop_left]
  have lne : l ≠ [] := by
    intro e
    rw [e] at ll
    have := (en_len c).1
    simp only [List.length_nil] at ll
    omega
  rw [hl]
  have hv := h
  unfold Vd at hv
  unfold Lib.decodeLastL
  rw [if_neg lne]
  by_cases h1 : c < 128
  · have g := hg 0 (by rw [en_ascii h1]; simp)
    rw [en_ascii h1] at g ⊢
    simp only [List.length_cons, List.length_nil] at g ⊢
    have g' : ((l.getD (l.length - 1) 0).toNat : Int) = c := g
    rw [if_pos (by omega)]
    congr 1
    omega
  have rs : ∀ b : UInt8, Lib.runeStartB b = (b.toNat / 64 != 2) := fun _ => rfl
  by_cases h2 : c < 2048
  · have e : en c = [192 + c / 64, 128 + c % 64] := by unfold en; rw [if_neg h1, if_pos h2]
    have g0 := hg 0 (by rw [e]; simp)
    have g1 := hg 1 (by rw [e]; simp)
    rw [e] at g0 g1 ll dE ⊢
    simp only [List.length_cons, List.length_nil] at g0 g1 ll dE ⊢
    have g0' : ((l.getD (l.length - 2) 0).toNat : Int) = 192 + c / 64 := g0
    have g1' : ((l.getD (l.length - 1) 0).toNat : Int) = 128 + c % 64 := g1
    have ls : Lib.lastStart l = p.length := by
      unfold Lib.lastStart
      have r2 : (l.getD (l.length - 2) 0).toNat / 64 = 3 := by omega
      simp only [rs, r2]
      rw [if_neg (by omega), if_pos (by decide)]
      omega
    rw [if_neg (by omega)]
    simp only [ls, dr, dE]
    rw [if_pos (by omega)]
  by_cases h3 : c < 65536
  · have e : en c = [224 + c / 4096, 128 + c / 64 % 64, 128 + c % 64] := by unfold en; rw [if_neg h1, if_neg h2, if_pos h3]
    have g0 := hg 0 (by rw [e]; simp)
    have g1 := hg 1 (by rw [e]; simp)
    have g2 := hg 2 (by rw [e]; simp)
    rw [e] at g0 g1 g2 ll dE ⊢
    simp only [List.length_cons, List.length_nil] at g0 g1 g2 ll dE ⊢
    have g0' : ((l.getD (l.length - 3) 0).toNat : Int) = 224 + c / 4096 := g0
    have g1' : ((l.getD (l.length - 2) 0).toNat : Int) = 128 + c / 64 % 64 := g1
    have g2' : ((l.getD (l.length - 1) 0).toNat : Int) = 128 + c % 64 := g2
    have ls : Lib.lastStart l = p.length := by
      unfold Lib.lastStart
      have r2 : (l.getD (l.length - 2) 0).toNat / 64 = 2 := by omega
      have r3 : (l.getD (l.length - 3) 0).toNat / 64 = 3 := by omega
      simp only [rs, r2, r3]
      rw [if_neg (by omega), if_neg (by decide), if_neg (by omega), if_pos (by decide)]
      omega
    rw [if_neg (by omega)]
    simp only [ls, dr, dE]
    rw [if_pos (by omega)]
  · have e : en c = [240 + c / 262144, 128 + c / 4096 % 64, 128 + c / 64 % 64, 128 + c % 64] := by unfold en; rw [if_neg h1, if_neg h2, if_neg h3]
    have g0 := hg 0 (by rw [e]; simp)
    have g1 := hg 1 (by rw [e]; simp)
    have g2 := hg 2 (by rw [e]; simp)
    have g3 := hg 3 (by rw [e]; simp)
    rw [e] at g0 g1 g2 g3 ll dE ⊢
    simp only [List.length_cons, List.length_nil] at g0 g1 g2 g3 ll dE ⊢
    have g0' : ((l.getD (l.length - 4) 0).toNat : Int) = 240 + c / 262144 := g0
    have g1' : ((l.getD (l.length - 3) 0).toNat : Int) = 128 + c / 4096 % 64 := g1
    have g2' : ((l.getD (l.length - 2) 0).toNat : Int) = 128 + c / 64 % 64 := g2
    have g3' : ((l.getD (l.length - 1) 0).toNat : Int) = 128 + c % 64 := g3
    have ls : Lib.lastStart l = p.length := by
      unfold Lib.lastStart
      have r2 : (l.getD (l.length - 2) 0).toNat / 64 = 2 := by omega
      have r3 : (l.getD (l.length - 3) 0).toNat / 64 = 2 := by omega
      have r4 : (l.getD (l.length - 4) 0).toNat / 64 = 3 := by omega
      simp only [rs, r2, r3, r4]
      rw [if_neg (by omega), if_neg (by decide), if_neg (by omega), if_neg (by decide), if_neg (by omega), if_pos (by decide)]
      omega
    rw [if_neg (by omega)]
    simp only [ls, dr, dE]
    rw [if_pos (by omega)]
end Go.Proofs.YtobmnfbplmefoaaDoor.UFnJqPathOf
/- The reference's reader of UTF-8: what it reads is what was written; no condition beside those that each theorem states. -/
namespace Go.Proofs.YtobmnfbplmefoaaDoor.UFnJqPathOf
open Go.RowKit Go.Proofs.YtobmnfbplmefoaaDoor.PFnJqPathOf Go.Proofs.YtobmnfbplmefoaaDoorW.PrintWords Go.Proofs.YtobmnfbplmefoaaDoorW.PrintLast Go.Proofs.YtobmnfbplmefoaaDoorW.PrintMore
set_option linter.unusedSimpArgs false
set_option linter.unusedVariables false

theorem ext_zero (s : ByteArray) : s.extract 0 0 = ByteArray.empty := by
  apply ByteArray.ext
  simp
theorem ext_next (s : ByteArray) (i W : Nat) (h : i + W ≤ s.size) : (s.extract i s.size).extract W (s.extract i s.size).size = s.extract (i + W) s.size := by
  rw [ByteArray.extract_extract, ByteArray.size_extract]
  congr 1
  omega
/-- A piece, byte for byte. -/
theorem ext_bytes (s : ByteArray) (i n : Nat) (h : i + n ≤ s.size) : s.extract i (i + n) = strOfNums ((List.range n).map fun (j : Nat) => bt s ((i : Int) + (j : Int))) := by
  apply ByteArray.ext
  apply Array.ext
  · have h1 : (s.extract i (i + n)).data.size = n := by
      show (s.extract i (i + n)).size = n
      rw [ByteArray.size_extract]; omega
    rw [h1]
    simp [strOfNums]
  · intro j h1 h2
    have hj : j < n := by
      have h3 : (s.extract i (i + n)).data.size = n := by
        show (s.extract i (i + n)).size = n
        rw [ByteArray.size_extract]; omega
      omega
    have hb := bt_x s i (i + n) j (by omega) (by omega) (by omega)
    unfold bt at hb
    rw [dif_pos (by simpa using h1), dif_pos (by omega)] at hb
    have e1 : (s.extract i (i + n)).data[j] = s[((i : Int) + (j : Int)).toNat]'(by omega) := by
      apply UInt8.toNat_inj.1
      have : ((s.extract i (i + n))[((j : Nat) : Int).toNat]'(by simpa using h1)).toNat = (s[((i : Int) + (j : Int)).toNat]'(by omega)).toNat := by exact_mod_cast hb
      exact this
    rw [e1]
    have e2 : (strOfNums ((List.range n).map fun (j : Nat) => bt s ((i : Int) + (j : Int)))).data[j] = UInt8.ofNat (bt s ((i : Int) + (j : Int))).toNat := by
      simp [strOfNums]
    rw [e2]
    unfold bt
    rw [dif_pos (by omega)]
    simp
theorem ext_split (s : ByteArray) (i n : Nat) (h : i + n ≤ s.size) : s.extract i s.size = s.extract i (i + n) ++ s.extract (i + n) s.size := by
  rw [ByteArray.extract_append_extract, Nat.min_eq_left (by omega), Nat.max_eq_right h]
theorem ext_of_size (s : ByteArray) (i : Nat) (h : s.size ≤ i) : s.extract i s.size = ByteArray.empty := by
  apply ByteArray.ext
  simp only [ByteArray.data_extract]
  apply Array.ext'
  rw [Array.toList_extract, List.extract_eq_take_drop, show s.size - i = 0 by omega]
  rfl

/-! ### one character -/
/-- What the reference's reader says of place i. -/
structure Chr (s : ByteArray) (i : Nat) (c n : Int) (ok : Bool) : Prop where
  n1 : 1 ≤ n
  n4 : n ≤ 4
  vd : ok = true → Vd c
  wd : ok = true → n = (en c).length
  le : ok = true → i + n ≤ s.size
  ex : ok = true → s.extract i (i + n.toNat) = strOfNums (en c)
theorem Chr.bad (s : ByteArray) (i : Nat) : Chr s i 65533 1 false := ⟨by omega, by omega, nofun, nofun, nofun, nofun⟩
section
variable (s : ByteArray) (hs : (s.size : Int) ≤ 100000) (i : Nat)
include hs
theorem l0_cont (x7 x8 x9 j : Int) (hj : 1 ≤ j) (h8 : x8 ≤ 3) (hl : j ≤ x8) (hi : i + x8 < s.size) (h7 : 0 ≤ x7 ∧ x7 ≤ 100000000) {r : Int × Int × Bool}
    (no : ¬ (128 ≤ bt s (i + j) ∧ bt s (i + j) ≤ 191) → r = (65533, 1, false))
    (yes : 128 ≤ bt s (i + j) ∧ bt s (i + j) ≤ 191 → Ev (fun k => spec_Character.l0 k s i (x7 * 64 + bt s (i + j) - 128) x8 x9 (j + 1)) r) : Ev (fun k => spec_Character.l0 k s i x7 x8 x9 j) r := by
  have br := bt_range s (i + j)
  have st := fun k => (show spec_Character.l0 (k + 1) s i x7 x8 x9 j = _ by rw [spec_Character.l0])
  have e1 : wrap64 ((i : Int) + j) = i + j := w64 (by omega) (by omega)
  have e2 : wrap64 (j + 1) = j + 1 := w64 (by omega) (by omega)
  have e3 : wrap64 (bt s (i + j)) = bt s (i + j) := w64 (by omega) (by omega)
  have e4 : wrap64 (x7 * 64) = x7 * 64 := w64 (by omega) (by omega)
  have e5 : wrap64 (x7 * 64 + bt s (i + j)) = x7 * 64 + bt s (i + j) := w64 (by omega) (by omega)
  have e6 : wrap64 (x7 * 64 + bt s (i + j) - 128) = x7 * 64 + bt s (i + j) - 128 := w64 (by omega) (by omega)
  rw [e1, e2, e3, e4, e5, e6] at st
  refine Ev.step st (Ev.pos hl (Ev.pos (by omega) (Ev.pos (by omega) ?_)))
  by_cases c1 : bt s (i + j) < 128
  · rw [no (by omega)]; exact Ev.pos c1 (Ev.now _)
  refine Ev.neg c1 ?_
  by_cases c2 : bt s (i + j) > 191
  · rw [no (by omega)]; exact Ev.pos c2 (Ev.now _)
  exact Ev.neg c2 (yes (by omega))
theorem l0_end (x7 x8 x9 : Int) (h8 : 0 ≤ x8 ∧ x8 ≤ 3) (h7 : 0 ≤ x7 ∧ x7 ≤ 100000000) : ∃ c n b, Ev (fun k => spec_Character.l0 k s i x7 x8 x9 (x8 + 1)) (c, n, b) ∧ ((b = true ∧ c = x7 ∧ n = x8 + 1 ∧ x9 ≤ x7 ∧ Vd x7) ∨ (b = false ∧ c = 65533 ∧ n = 1)) := by
  have _h := hs
  have st := fun k => (show spec_Character.l0 (k + 1) s i x7 x8 x9 (x8 + 1) = _ by rw [spec_Character.l0])
  have e8 : wrap64 (x8 + 1) = x8 + 1 := w64 (by omega) (by omega)
  rw [e8] at st
  by_cases c1 : x7 < x9
  · exact ⟨_, _, _, Ev.step st (Ev.neg (by omega) (Ev.pos c1 (Ev.now _))), .inr ⟨rfl, rfl, rfl⟩⟩
  by_cases c2 : x7 > 1114111
  · exact ⟨_, _, _, Ev.step st (Ev.neg (by omega) (Ev.neg c1 (Ev.pos c2 (Ev.now _)))), .inr ⟨rfl, rfl, rfl⟩⟩
  have hh : spec_high.f x7 = some (decide (55296 ≤ x7 ∧ x7 ≤ 56319)) := by
    unfold spec_high.f
    by_cases h : 55296 ≤ x7
    · rw [if_pos h]; simp [h]
    · rw [if_neg h]; simp [h]
  have hl : spec_low.f x7 = some (decide (56320 ≤ x7 ∧ x7 ≤ 57343)) := by
    unfold spec_low.f
    by_cases h : 56320 ≤ x7
    · rw [if_pos h]; simp [h]
    · rw [if_neg h]; simp [h]
  by_cases c3 : 55296 ≤ x7 ∧ x7 ≤ 56319
  · rw [decide_eq_true c3] at hh
    exact ⟨_, _, _, Ev.step st (Ev.neg (by omega) (Ev.neg c1 (Ev.neg c2 (Ev.bd hh (Ev.pos rfl (Ev.now _)))))), .inr ⟨rfl, rfl, rfl⟩⟩
  rw [decide_eq_false c3] at hh
  by_cases c4 : 56320 ≤ x7 ∧ x7 ≤ 57343
  · rw [decide_eq_true c4] at hl
    exact ⟨_, _, _, Ev.step st (Ev.neg (by omega) (Ev.neg c1 (Ev.neg c2 (Ev.bd hh (Ev.neg Bool.false_ne_true (Ev.bd hl (Ev.pos rfl (Ev.now _)))))))), .inr ⟨rfl, rfl, rfl⟩⟩
  rw [decide_eq_false c4] at hl
  refine ⟨_, _, _, Ev.step st (Ev.neg (by omega) (Ev.neg c1 (Ev.neg c2 (Ev.bd hh (Ev.neg Bool.false_ne_true (Ev.bd hl (Ev.neg Bool.false_ne_true (Ev.now _)))))))), .inl ⟨rfl, rfl, rfl, by omega, ?_⟩⟩
  unfold Vd
  omega
theorem nums1 (b0 b1 : Int) (h0 : bt s i = b0) (h1 : bt s (i + 1) = b1) (hi : i + 2 ≤ s.size) : s.extract i (i + 2) = strOfNums [b0, b1] := by
  have _h := hs
  rw [ext_bytes s i 2 hi]
  congr 1
  show [bt s ((i : Int) + ((0 : Nat) : Int)), bt s ((i : Int) + ((1 : Nat) : Int))] = _
  rw [show (i : Int) + ((0 : Nat) : Int) = i by omega, h0, show (i : Int) + ((1 : Nat) : Int) = i + 1 by omega, h1]
theorem nums2 (b0 b1 b2 : Int) (h0 : bt s i = b0) (h1 : bt s (i + 1) = b1) (h2 : bt s (i + 2) = b2) (hi : i + 3 ≤ s.size) : s.extract i (i + 3) = strOfNums [b0, b1, b2] := by
  have _h := hs
  rw [ext_bytes s i 3 hi]
  congr 1
  show [bt s ((i : Int) + ((0 : Nat) : Int)), bt s ((i : Int) + ((1 : Nat) : Int)), bt s ((i : Int) + ((2 : Nat) : Int))] = _
  rw [show (i : Int) + ((0 : Nat) : Int) = i by omega, h0, show (i : Int) + ((1 : Nat) : Int) = i + 1 by omega, h1, show (i : Int) + ((2 : Nat) : Int) = i + 2 by omega, h2]
theorem nums3 (b0 b1 b2 b3 : Int) (h0 : bt s i = b0) (h1 : bt s (i + 1) = b1) (h2 : bt s (i + 2) = b2) (h3 : bt s (i + 3) = b3) (hi : i + 4 ≤ s.size) : s.extract i (i + 4) = strOfNums [b0, b1, b2, b3] := by
  have _h := hs
  rw [ext_bytes s i 4 hi]
  congr 1
  show [bt s ((i : Int) + ((0 : Nat) : Int)), bt s ((i : Int) + ((1 : Nat) : Int)), bt s ((i : Int) + ((2 : Nat) : Int)), bt s ((i : Int) + ((3 : Nat) : Int))] = _
  rw [show (i : Int) + ((0 : Nat) : Int) = i by omega, h0, show (i : Int) + ((1 : Nat) : Int) = i + 1 by omega, h1, show (i : Int) + ((2 : Nat) : Int) = i + 2 by omega, h2, show (i : Int) + ((3 : Nat) : Int) = i + 3 by omega, h3]
theorem two_ev (b0 : Int) (h0 : bt s i = b0) (hb : 194 ≤ b0 ∧ b0 ≤ 223) (hi : i < s.size) : ∃ c n b, Ev (fun k => spec_Character.j2 k s i (b0 - 192) 1 128) (c, n, b) ∧ Chr s i c n b := by
  have st := fun k => (show spec_Character.j2 (k + 1) s i (b0 - 192) 1 128 = _ by rw [spec_Character.j2])
  rw [w64 (x := (s.size : Int) - i) (by omega) (by omega)] at st
  by_cases c0 : (s.size : Int) - i ≤ 1
  · exact ⟨_, _, _, Ev.step st (Ev.pos c0 (Ev.now _)), Chr.bad s i⟩
  by_cases c1 : 128 ≤ bt s (i + 1) ∧ bt s (i + 1) ≤ 191
  · obtain ⟨c, n, b, e, h⟩ := l0_end s hs i ((b0 - 192) * 64 + bt s (i + 1) - 128) 1 128 (by omega) (by omega)
    refine ⟨c, n, b, Ev.step st (Ev.neg c0 (l0_cont s hs i _ 1 128 1 (by omega) (by omega) (by omega) (by omega) (by omega) (fun h => absurd c1 h) (fun _ => e))), ?_⟩
    rcases h with ⟨rfl, rfl, rfl, h3, hv⟩ | ⟨rfl, rfl, rfl⟩
    · have hen : en ((b0 - 192) * 64 + bt s (i + 1) - 128) = [b0, bt s (i + 1)] := by
        unfold en
        rw [if_neg (by omega), if_pos (by omega)]
        congr 1
        · omega
        · congr 1
          omega
      exact ⟨by omega, by omega, fun _ => hv, fun _ => by rw [hen]; rfl, fun _ => by omega, fun _ => by rw [hen]; exact nums1 s hs i _ _ h0 rfl (by omega)⟩
    · exact Chr.bad s i
  · exact ⟨_, _, _, Ev.step st (Ev.neg c0 (l0_cont s hs i _ 1 128 1 (by omega) (by omega) (by omega) (by omega) (by omega) (fun _ => rfl) (fun h => absurd h c1))), Chr.bad s i⟩
theorem three_ev (b0 : Int) (h0 : bt s i = b0) (hb : 224 ≤ b0 ∧ b0 ≤ 239) (hi : i < s.size) : ∃ c n b, Ev (fun k => spec_Character.j2 k s i (b0 - 224) 2 2048) (c, n, b) ∧ Chr s i c n b := by
  have st := fun k => (show spec_Character.j2 (k + 1) s i (b0 - 224) 2 2048 = _ by rw [spec_Character.j2])
  rw [w64 (x := (s.size : Int) - i) (by omega) (by omega)] at st
  by_cases c0 : (s.size : Int) - i ≤ 2
  · exact ⟨_, _, _, Ev.step st (Ev.pos c0 (Ev.now _)), Chr.bad s i⟩
  by_cases c1 : 128 ≤ bt s (i + 1) ∧ bt s (i + 1) ≤ 191
  · by_cases c2 : 128 ≤ bt s (i + (1 + 1)) ∧ bt s (i + (1 + 1)) ≤ 191
    · obtain ⟨c, n, b, e, h⟩ := l0_end s hs i (((b0 - 224) * 64 + bt s (i + 1) - 128) * 64 + bt s (i + (1 + 1)) - 128) 2 2048 (by omega) (by omega)
      refine ⟨c, n, b, Ev.step st (Ev.neg c0 (l0_cont s hs i _ 2 2048 1 (by omega) (by omega) (by omega) (by omega) (by omega) (fun h => absurd c1 h) (fun _ => l0_cont s hs i _ 2 2048 (1 + 1) (by omega) (by omega) (by omega) (by omega) (by omega) (fun h => absurd c2 h) (fun _ => e)))), ?_⟩
      rcases h with ⟨rfl, rfl, rfl, h3, hv⟩ | ⟨rfl, rfl, rfl⟩
      · have hen : en (((b0 - 224) * 64 + bt s (i + 1) - 128) * 64 + bt s (i + (1 + 1)) - 128) = [b0, bt s (i + 1), bt s (i + (1 + 1))] := by
          unfold en
          rw [if_neg (by omega), if_neg (by omega), if_pos (by omega)]
          congr 1
          · omega
          · congr 1
            · omega
            · congr 1
              omega
        exact ⟨by omega, by omega, fun _ => hv, fun _ => by rw [hen]; rfl, fun _ => by omega, fun _ => by rw [hen]; exact nums2 s hs i _ _ _ h0 rfl rfl (by omega)⟩
      · exact Chr.bad s i
    · exact ⟨_, _, _, Ev.step st (Ev.neg c0 (l0_cont s hs i _ 2 2048 1 (by omega) (by omega) (by omega) (by omega) (by omega) (fun h => absurd c1 h) (fun _ => l0_cont s hs i _ 2 2048 (1 + 1) (by omega) (by omega) (by omega) (by omega) (by omega) (fun _ => rfl) (fun h => absurd h c2)))), Chr.bad s i⟩
  · exact ⟨_, _, _, Ev.step st (Ev.neg c0 (l0_cont s hs i _ 2 2048 1 (by omega) (by omega) (by omega) (by omega) (by omega) (fun _ => rfl) (fun h => absurd h c1))), Chr.bad s i⟩
theorem four_ev (b0 : Int) (h0 : bt s i = b0) (hb : 240 ≤ b0 ∧ b0 ≤ 244) (hi : i < s.size) : ∃ c n b, Ev (fun k => spec_Character.j2 k s i (b0 - 240) 3 65536) (c, n, b) ∧ Chr s i c n b := by
  have st := fun k => (show spec_Character.j2 (k + 1) s i (b0 - 240) 3 65536 = _ by rw [spec_Character.j2])
  rw [w64 (x := (s.size : Int) - i) (by omega) (by omega)] at st
  by_cases c0 : (s.size : Int) - i ≤ 3
  · exact ⟨_, _, _, Ev.step st (Ev.pos c0 (Ev.now _)), Chr.bad s i⟩
  by_cases c1 : 128 ≤ bt s (i + 1) ∧ bt s (i + 1) ≤ 191
  · by_cases c2 : 128 ≤ bt s (i + (1 + 1)) ∧ bt s (i + (1 + 1)) ≤ 191
    · by_cases c3 : 128 ≤ bt s (i + (1 + 1 + 1)) ∧ bt s (i + (1 + 1 + 1)) ≤ 191
      · obtain ⟨c, n, b, e, h⟩ := l0_end s hs i ((((b0 - 240) * 64 + bt s (i + 1) - 128) * 64 + bt s (i + (1 + 1)) - 128) * 64 + bt s (i + (1 + 1 + 1)) - 128) 3 65536 (by omega) (by omega)
        refine ⟨c, n, b, Ev.step st (Ev.neg c0 (l0_cont s hs i _ 3 65536 1 (by omega) (by omega) (by omega) (by omega) (by omega) (fun h => absurd c1 h) (fun _ => l0_cont s hs i _ 3 65536 (1 + 1) (by omega) (by omega) (by omega) (by omega) (by omega) (fun h => absurd c2 h) (fun _ => l0_cont s hs i _ 3 65536 (1 + 1 + 1) (by omega) (by omega) (by omega) (by omega) (by omega) (fun h => absurd c3 h) (fun _ => e))))), ?_⟩
        rcases h with ⟨rfl, rfl, rfl, h3, hv⟩ | ⟨rfl, rfl, rfl⟩
        · have hen : en ((((b0 - 240) * 64 + bt s (i + 1) - 128) * 64 + bt s (i + (1 + 1)) - 128) * 64 + bt s (i + (1 + 1 + 1)) - 128) = [b0, bt s (i + 1), bt s (i + (1 + 1)), bt s (i + (1 + 1 + 1))] := by
            unfold en
            rw [if_neg (by omega), if_neg (by omega), if_neg (by omega)]
            congr 1
            · omega
            · congr 1
              · omega
              · congr 1
                · omega
                · congr 1
                  omega
          exact ⟨by omega, by omega, fun _ => hv, fun _ => by rw [hen]; rfl, fun _ => by omega, fun _ => by rw [hen]; exact nums3 s hs i _ _ _ _ h0 rfl rfl rfl (by omega)⟩
        · exact Chr.bad s i
      · exact ⟨_, _, _, Ev.step st (Ev.neg c0 (l0_cont s hs i _ 3 65536 1 (by omega) (by omega) (by omega) (by omega) (by omega) (fun h => absurd c1 h) (fun _ => l0_cont s hs i _ 3 65536 (1 + 1) (by omega) (by omega) (by omega) (by omega) (by omega) (fun h => absurd c2 h) (fun _ => l0_cont s hs i _ 3 65536 (1 + 1 + 1) (by omega) (by omega) (by omega) (by omega) (by omega) (fun _ => rfl) (fun h => absurd h c3))))), Chr.bad s i⟩
    · exact ⟨_, _, _, Ev.step st (Ev.neg c0 (l0_cont s hs i _ 3 65536 1 (by omega) (by omega) (by omega) (by omega) (by omega) (fun h => absurd c1 h) (fun _ => l0_cont s hs i _ 3 65536 (1 + 1) (by omega) (by omega) (by omega) (by omega) (by omega) (fun _ => rfl) (fun h => absurd h c2)))), Chr.bad s i⟩
  · exact ⟨_, _, _, Ev.step st (Ev.neg c0 (l0_cont s hs i _ 3 65536 1 (by omega) (by omega) (by omega) (by omega) (by omega) (fun _ => rfl) (fun h => absurd h c1))), Chr.bad s i⟩
/-- The reference's reader at a place of a text. -/
theorem char_ev (hi : i < s.size) : ∃ c n b, Ev (fun k => spec_Character.f k s i) (c, n, b) ∧ Chr s i c n b := by
  obtain ⟨b0, h0⟩ : ∃ b0, bt s i = b0 := ⟨_, rfl⟩
  have br := bt_range s i
  unfold spec_Character.f
  rw [w64 (x := bt s i) (by omega) (by omega), h0]
  rw [h0] at br
  by_cases c1 : b0 < 128
  · refine ⟨_, _, _, Ev.pos (by omega) (Ev.pos (by omega) (Ev.pos c1 (Ev.now _))), ⟨by omega, by omega, fun _ => by unfold Vd; omega, fun _ => by rw [en_ascii c1]; rfl, fun _ => by omega, fun _ => ?_⟩⟩
    rw [en_ascii c1]
    have := ext_bytes s i 1 (by omega)
    rw [show (1 : Int).toNat = 1 by rfl, this]
    congr 1
    show [bt s ((i : Int) + ((0 : Nat) : Int))] = _
    rw [show (i : Int) + ((0 : Nat) : Int) = i by omega, h0]
  have fin : ∀ {b : Bool} {r : Int × Int × Bool}, Ev (fun k => spec_Character.j0 k s i b0 b) r → (194 ≤ b0 → b = decide (b0 ≤ 223)) → (¬ 194 ≤ b0 → b = false) → Ev (fun k => if (0 : Int) ≤ i then (if (i : Int) < (s.size : Int) then (if b0 < 128 then (some (b0, 1, true)) else (if 194 ≤ b0 then (spec_Character.j0 k s i b0 (decide (b0 ≤ 223))) else (spec_Character.j0 k s i b0 false))) else (none)) else (none)) r := by
    intro b r e h1 h2
    refine Ev.pos (by omega) (Ev.pos (by omega) (Ev.neg c1 ?_))
    by_cases c2 : 194 ≤ b0
    · refine Ev.pos c2 ?_; rw [← h1 c2]; exact e
    · refine Ev.neg c2 ?_; rw [← h2 c2]; exact e
  by_cases c2 : 194 ≤ b0 ∧ b0 ≤ 223
  · obtain ⟨c, n, b, e, h⟩ := two_ev s hs i b0 h0 c2 hi
    refine ⟨c, n, b, fin (b := true) (Ev.step (fun k => by rw [spec_Character.j0]) ?_) (fun _ => by simp [c2.2]) (fun h => absurd c2.1 h), h⟩
    rw [w64 (by omega) (by omega)]
    exact Ev.pos rfl e
  have f0 : ∀ {b : Bool} {r : Int × Int × Bool}, Ev (fun k => spec_Character.j1 k s i b0 b) r → (224 ≤ b0 → b = decide (b0 ≤ 239)) → (¬ 224 ≤ b0 → b = false) → Ev (fun k => if (0 : Int) ≤ i then (if (i : Int) < (s.size : Int) then (if b0 < 128 then (some (b0, 1, true)) else (if 194 ≤ b0 then (spec_Character.j0 k s i b0 (decide (b0 ≤ 223))) else (spec_Character.j0 k s i b0 false))) else (none)) else (none)) r := by
    intro b r e h1 h2
    refine fin (b := false) (Ev.step (fun k => by rw [spec_Character.j0]) ?_) (fun h => by simp; omega) (fun _ => rfl)
    refine Ev.neg Bool.false_ne_true ?_
    by_cases c3 : 224 ≤ b0
    · refine Ev.pos c3 ?_; rw [← h1 c3]; exact e
    · refine Ev.neg c3 ?_; rw [← h2 c3]; exact e
  by_cases c3 : 224 ≤ b0 ∧ b0 ≤ 239
  · obtain ⟨c, n, b, e, h⟩ := three_ev s hs i b0 h0 c3 hi
    refine ⟨c, n, b, f0 (b := true) (Ev.step (fun k => by rw [spec_Character.j1]) ?_) (fun _ => by simp [c3.2]) (fun h => absurd c3.1 h), h⟩
    rw [w64 (by omega) (by omega)]
    exact Ev.pos rfl e
  by_cases c4 : 240 ≤ b0 ∧ b0 ≤ 244
  · obtain ⟨c, n, b, e, h⟩ := four_ev s hs i b0 h0 c4 hi
    refine ⟨c, n, b, f0 (b := false) (Ev.step (fun k => by rw [spec_Character.j1]) ?_) (fun h => by simp; omega) (fun _ => rfl), h⟩
    rw [w64 (x := b0 - 240) (by omega) (by omega)]
    exact Ev.neg Bool.false_ne_true (Ev.pos c4.1 (Ev.pos c4.2 e))
  refine ⟨_, _, _, f0 (b := false) (Ev.step (fun k => by rw [spec_Character.j1]) ?_) (fun h => by simp; omega) (fun _ => rfl), Chr.bad s i⟩
  refine Ev.neg Bool.false_ne_true ?_
  by_cases c5 : 240 ≤ b0
  · exact Ev.pos c5 (Ev.neg (by omega) (Ev.now _))
  · exact Ev.neg c5 (Ev.now _)
end
/-- A character that was read: the text from there on is it and what is behind it. -/
theorem Chr.tail {s : ByteArray} {i : Nat} {c n : Int} (h : Chr s i c n true) {cs : List Int} (e : s.extract (i + n.toNat) s.size = bs cs) : s.extract i s.size = bs (c :: cs) := by
  have h1 := h.le rfl
  have h2 := h.n1
  rw [ext_split s i n.toNat (by omega), h.ex rfl, e, bs_cons]
end Go.Proofs.YtobmnfbplmefoaaDoor.UFnJqPathOf
