/- The number of every text of decimal digits with a minus sign or none that is an int64; conditions: none beside the statement's own. -/
import Derived.Test.YtljmeaemonpkoaaDoorPFnFfInt64x
namespace Go.Proofs.YtljmeaemonpkoaaDoor.Pure
open Go.RowKit Go.Proofs.YtljmeaemonpkoaaDoor.PFnFfInt64 Go.Proofs.YtljmeaemonpkoaaDoorW.PrintWords Go.Proofs.YtljmeaemonpkoaaDoorW.PrintLast Go.Proofs.YtljmeaemonpkoaaDoorW.PrintMore
set_option linter.unusedSimpArgs false
set_option linter.unusedVariables false
theorem w64 {x : Int} (h0 : -9223372036854775808 ≤ x) (h1 : x ≤ 9223372036854775807) : wrap64 x = x := by
  unfold wrap64; omega
theorem u64 {x : Int} (h0 : 0 ≤ x) (h1 : x < 18446744073709551616) : IntKind.u64.wrap x = x := by
  rw [IntKind.wrap_u64]; omega
theorem Ev.pos {α : Type} {c : Prop} [Decidable c] {f g : Nat → Option α} {r : α} (h : c) (e : Ev f r) : Ev (fun k => if c then f k else g k) r :=
  Ev.congr (fun _ => if_pos h) e
theorem Ev.neg {α : Type} {c : Prop} [Decidable c] {f g : Nat → Option α} {r : α} (h : ¬ c) (e : Ev g r) : Ev (fun k => if c then f k else g k) r :=
  Ev.congr (fun _ => if_neg h) e
theorem Ev.bd {α β : Type} {g : Option α} {f : Nat → α → Option β} {a : α} {r : β} (h : g = some a) (k : Ev (fun n => f n a) r) : Ev (fun n => g.bind (f n)) r :=
  Ev.congr (fun n => by rw [h]; rfl) k
theorem Ev.eq {α : Type} {f : Nat → Option α} {a b : α} (h : a = b) (e : Ev f a) : Ev f b := h ▸ e
/-! ### a text's letters -/
theorem at_cons {s : ByteArray} {i : Nat} {c : UInt8} {r : List UInt8} (h : s.data.toList.drop i = c :: r) : i < s.size ∧ bt s i = c.toNat ∧ s.data.toList.drop (i + 1) = r := by
  have hl : s.data.toList.length = s.size := by rw [Array.length_toList]; rfl
  have hi : i < s.size := by
    rw [← hl]
    apply Decidable.byContradiction
    intro hn
    rw [List.drop_eq_nil_of_le (by omega)] at h
    cases h
  have he := List.drop_eq_getElem_cons (show i < s.data.toList.length by omega)
  rw [he] at h
  obtain ⟨h1, h2⟩ := List.cons.inj h
  refine ⟨hi, ?_, h2⟩
  unfold bt
  rw [dif_pos (show (i : Int).toNat < s.size by omega), ← h1]
  rfl
theorem at_nil {s : ByteArray} {i : Nat} (h : s.data.toList.drop i = []) : s.size ≤ i := by
  have hl : s.data.toList.length = s.size := by rw [Array.length_toList]; rfl
  have := List.drop_eq_nil_iff.1 h
  omega
/-! ### the number of a row of digits -/
/-- What digits spell behind n; none for another sign and beyond the greatest uint64. -/
def U : Nat → List UInt8 → Option Nat
  | n, [] => some n
  | n, c :: r => if 48 ≤ c.toNat ∧ c.toNat ≤ 57 then (if 18446744073709551615 < n * 10 + (c.toNat - 48) then none else U (n * 10 + (c.toNat - 48)) r) else none
def UV (l : List UInt8) : Option Nat := if l = [] then none else U 0 l
def sgn (neg : Bool) : Option Nat → Option Int
  | none => none
  | some m => if neg = true then (if m ≤ 9223372036854775808 then some (-(m : Int)) else none) else (if m < 9223372036854775808 then some (m : Int) else none)
def toO {α : Type} : Lib.NumEnd α → Option α
  | .ok v => some v
  | _ => none
theorem um (l : List UInt8) : ∀ n : Nat, n ≤ 18446744073709551615 → toO (Lib.parseUintM 18446744073709551615 n l) = U n l := by
  induction l with
  | nil => intro n _; rfl
  | cons c r ih =>
    intro n hn
    unfold Lib.parseUintM U
    by_cases hc : 48 ≤ c.toNat ∧ c.toNat ≤ 57
    · rw [if_pos hc, if_pos hc]
      by_cases h1 : 1844674407370955162 ≤ n
      · rw [if_pos h1, if_pos (by omega)]; rfl
      · rw [if_neg h1]
        by_cases h2 : 18446744073709551615 < n * 10 + (c.toNat - 48)
        · rw [if_pos h2, if_pos h2]; rfl
        · rw [if_neg h2, if_neg h2]
          exact ih _ (by omega)
    · rw [if_neg hc, if_neg hc]; rfl
theorem uv (l : List UInt8) : toO (Lib.parseUintB 64 l) = UV l := by
  unfold Lib.parseUintB UV
  by_cases h : l = []
  · rw [if_pos h, if_pos h]; rfl
  · rw [if_neg h, if_neg h]
    exact um l 0 (by omega)
/-- What a text's number is. -/
def ans : List UInt8 → Option Int
  | [] => none
  | c :: r => sgn (c.toNat == 45) (UV (if c.toNat = 45 then r else c :: r))
theorem pars (l : List UInt8) (h : ∀ c r, l = c :: r → c.toNat ≠ 43) : toO (Lib.parseIntB 64 l) = ans l := by
  cases l with
  | nil => rfl
  | cons c r =>
    have h43 := h c r rfl
    unfold Lib.parseIntB ans
    dsimp only
    rw [← uv]
    by_cases h45 : c.toNat = 45
    · simp only [h45, or_true, if_true, beq_self_eq_true]
      cases Lib.parseUintB 64 r with
      | ok u =>
        simp only [toO, sgn]
        by_cases hu : u ≤ 9223372036854775808
        · rw [if_neg (by simp), if_neg (by simp; omega), if_pos hu]; simp
        · rw [if_neg (by simp), if_pos (by simp; omega), if_neg hu]; simp
      | «syntax» => rfl
      | range => rfl
    · have hb : (c.toNat == 45) = false := by simpa using h45
      simp only [h45, h43, or_self, if_false, hb]
      cases Lib.parseUintB 64 (c :: r) with
      | ok u =>
        simp only [toO, sgn]
        by_cases hu : u < 9223372036854775808
        · rw [if_neg (by simp; omega), if_neg (by simp), if_neg (by simp), if_pos hu]
        · rw [if_pos (by simp; omega), if_neg (by simp), if_neg hu]
      | «syntax» => rfl
      | range => rfl
/-! ### the reference -/
def R2 : Option Nat → Int × Bool
  | some m => ((m : Int), true)
  | none => (0, false)
def I2 : Option Int → Int × Bool
  | some m => (m, true)
  | none => (0, false)
theorem u_ev (s : ByteArray) (hs : s.size ≤ 1000) (l : List UInt8) : ∀ (i n : Nat), s.data.toList.drop i = l → n ≤ 18446744073709551615 → Ev (fun k => spec_Uint64.l0 k s (n : Int) (i : Int)) (R2 (U n l)) := by
  induction l with
  | nil =>
    intro i n hl hn
    have := at_nil hl
    refine Ev.step (fun k => by rw [spec_Uint64.l0]) ?_
    exact Ev.neg (by omega) (Ev.now _)
  | cons c r ih =>
    intro i n hl hn
    obtain ⟨h1, h2, h3⟩ := at_cons hl
    have bad : ¬ (48 ≤ c.toNat ∧ c.toNat ≤ 57) → R2 (U n (c :: r)) = (0, false) := fun h => by unfold U; rw [if_neg h]; rfl
    have out : Ev (fun k => spec_Uint64.j1 k s (n : Int) (i : Int) true) (0, false) := by
      refine Ev.step (fun k => by rw [spec_Uint64.j1]) ?_
      exact Ev.pos rfl (Ev.now _)
    refine Ev.step (fun k => by rw [spec_Uint64.l0]) ?_
    rw [h2]
    refine Ev.pos (by omega) (Ev.pos (by omega) ?_)
    by_cases a : c.toNat < 48
    · rw [bad (by omega)]
      exact Ev.pos (by omega) out
    refine Ev.neg (by omega) ?_
    by_cases b : c.toNat > 57
    · rw [bad (by omega), decide_eq_true (by omega)]
      exact out
    rw [decide_eq_false (by omega)]
    refine Ev.step (fun k => by rw [spec_Uint64.j1]) ?_
    rw [h2]
    refine Ev.neg Bool.false_ne_true (Ev.pos (by omega) (Ev.pos (by omega) ?_))
    unfold U
    rw [if_pos (by omega)]
    by_cases g : 18446744073709551615 < n * 10 + (c.toNat - 48)
    · rw [if_pos g]
      exact Ev.pos (by omega) (Ev.now _)
    · rw [if_neg g]
      refine Ev.neg (by omega) ?_
      have e1 : IntKind.u64.wrap (IntKind.u64.wrap ((n : Int) * 10) + ((c.toNat : Int) - 48) % 256) = ((n * 10 + (c.toNat - 48) : Nat) : Int) := by
        rw [u64 (x := (n : Int) * 10) (by omega) (by omega), u64 (by omega) (by omega)]; omega
      have e2 : wrap64 ((i : Int) + 1) = ((i + 1 : Nat) : Int) := by rw [w64 (by omega) (by omega)]; omega
      rw [e1, e2]
      exact ih (i + 1) _ h3 (by omega)
theorem uint_ev (s : ByteArray) (hs : s.size ≤ 1000) : Ev (fun k => spec_Uint64.f k s) (R2 (UV s.data.toList)) := by
  unfold spec_Uint64.f UV
  rw [ByteArray.toList_eq]
  by_cases h : s.data.toList = []
  · rw [if_pos h]
    exact Ev.pos h (Ev.now _)
  · rw [if_neg h]
    exact Ev.neg h (u_ev s hs s.data.toList 0 0 rfl (by omega))
theorem int_j1 (s : ByteArray) (hs : s.size ≤ 1000) (neg : Bool) : Ev (fun k => spec_Int64.j1 k s neg) (I2 (sgn neg (UV s.data.toList))) := by
  refine Ev.step (fun k => by rw [spec_Int64.j1]) ?_
  refine Ev.bind (uint_ev s hs) ?_
  cases UV s.data.toList with
  | none => exact Ev.neg Bool.false_ne_true (Ev.now _)
  | some m =>
    refine Ev.pos rfl ?_
    dsimp only [R2, sgn]
    cases neg with
    | true =>
      refine Ev.pos rfl ?_
      refine Ev.step (fun k => by rw [spec_Int64.j2]) ?_
      by_cases h : m ≤ 9223372036854775808
      · rw [if_pos h]
        refine Ev.pos (decide_eq_true (by omega)) (Ev.eq ?_ (Ev.now _))
        have : wrap64 (IntKind.u64.wrap (-(m : Int))) = -(m : Int) := by
          rw [IntKind.wrap_u64]; unfold wrap64; omega
        rw [this]
        rfl
      · rw [if_neg h]
        exact Ev.neg (fun hq => absurd (of_decide_eq_true hq) (by omega)) (Ev.pos rfl (Ev.now _))
    | false =>
      refine Ev.neg Bool.false_ne_true ?_
      refine Ev.step (fun k => by rw [spec_Int64.j2]) ?_
      refine Ev.neg Bool.false_ne_true (Ev.neg Bool.false_ne_true ?_)
      by_cases h : m < 9223372036854775808
      · rw [if_neg Bool.false_ne_true, if_pos h]
        refine Ev.pos (by omega) (Ev.eq ?_ (Ev.now _))
        unfold I2
        rw [w64 (by omega) (by omega)]
      · rw [if_neg Bool.false_ne_true, if_neg h]
        exact Ev.neg (by omega) (Ev.now _)
theorem head_45 (c : UInt8) : (((c.toNat : Int)) == 45) = (c.toNat == 45) := by
  by_cases h : c.toNat = 45
  · rw [h]; rfl
  · rw [show (c.toNat == 45) = false by simpa using h]
    simp; omega
theorem int_ev (s : ByteArray) (hs : s.size ≤ 1000) : Ev (fun k => spec_Int64.f k s) (I2 (ans s.data.toList)) := by
  unfold spec_Int64.f
  rw [ByteArray.toList_eq]
  cases hl : s.data.toList with
  | nil =>
    refine Ev.pos rfl ?_
    refine Ev.step (fun k => by rw [spec_Int64.j0]) ?_
    refine Ev.neg Bool.false_ne_true ?_
    have := int_j1 s hs false
    rw [hl] at this
    exact this
  | cons c r =>
    obtain ⟨h1, h2, h3⟩ := at_cons (show s.data.toList.drop 0 = c :: r from hl)
    have h2' : bt s 0 = c.toNat := h2
    refine Ev.neg (by intro h; cases h) (Ev.pos (by omega) ?_)
    rw [h2', head_45]
    refine Ev.step (fun k => by rw [spec_Int64.j0]) ?_
    unfold ans
    dsimp only
    by_cases h45 : c.toNat = 45
    · have hb : (c.toNat == 45) = true := by simpa using h45
      rw [hb, if_pos h45]
      refine Ev.pos rfl (Ev.pos (by omega) ?_)
      have := int_j1 (s.extract 1 s.size) (by rw [ByteArray.size_extract]; omega) true
      have e : (s.extract 1 s.size).data.toList = r := by
        rw [ByteArray.data_extract, Array.toList_extract, List.extract_eq_take_drop, ← h3, List.take_of_length_le]
        rw [List.length_drop, Array.length_toList]; exact Nat.le_refl _
      rw [e] at this
      exact this
    · have hb : (c.toNat == 45) = false := by simpa using h45
      rw [hb, if_neg h45]
      refine Ev.neg Bool.false_ne_true ?_
      have := int_j1 s hs false
      rw [hl] at this
      exact this
/-! ### the code -/
def Good (o : Option Int) (r : Int × Option Int) : Prop := (∃ v, o = some v ∧ r = (v, none)) ∨ (o = none ∧ ∃ x, r.2 = some x)
theorem slow (s : ByteArray) (hs : s.size ≤ 1000) (h43 : ∀ c r, s.data.toList = c :: r → c.toNat ≠ 43) : ∃ r, Ev (fun _ => (strconv_ParseInt.f s 10 64).bind fun t => (if t.2.isNone = true then (some (t.1, none)) else (some (0, some (t.2.getD 0))))) r ∧ Good (ans s.data.toList) r := by
  have hp := pars _ h43
  unfold strconv_ParseInt.f
  rw [if_pos ⟨rfl, rfl, by omega⟩]
  rw [← hp]
  cases Lib.parseIntB 64 s.data.toList with
  | ok v => exact ⟨_, Ev.now _, .inl ⟨v, rfl, rfl⟩⟩
  | «syntax» => exact ⟨_, Ev.now _, .inr ⟨rfl, 0, rfl⟩⟩
  | range => exact ⟨_, Ev.now _, .inr ⟨rfl, 0, rfl⟩⟩
theorem loop (s : ByteArray) (hs : s.size ≤ 1000) (h43 : ∀ c r, s.data.toList = c :: r → c.toNat ≠ 43) (neg : Bool) (j : Nat) (ha : ans s.data.toList = sgn neg (UV (s.data.toList.drop j))) (l : List UInt8) :
    ∀ i D : Nat, s.data.toList.drop i = l → j ≤ i → i ≤ 18 → i ≤ s.size → D < 10 ^ (i - j) → U 0 (s.data.toList.drop j) = U D l → ∃ r, Ev (fun k => fastfloat_ParseInt64.l0 k s (i : Int) neg (D : Int) (j : Int)) r ∧ Good (ans s.data.toList) r := by
  have us : IntKind.u64.wrap (s.size : Int) = (s.size : Int) := u64 (by omega) (by omega)
  -- behind the digits, none to come
  have stop : ∀ i D : Nat, j ≤ i → (i ≤ j ∨ i < s.size) → U 0 (s.data.toList.drop j) = none ∨ s.data.toList.drop j = [] → ∃ r, Ev (fun k => fastfloat_ParseInt64.j3 k s (i : Int) neg (D : Int) (j : Int)) r ∧ Good (ans s.data.toList) r := by
    intro i D hj hi hn
    have hU : UV (s.data.toList.drop j) = none := by
      unfold UV
      rcases hn with h | h
      · rw [h]; split <;> rfl
      · rw [if_pos h]
    have hN : ans s.data.toList = none := by rw [ha, hU]; rfl
    refine ⟨(0, some 0), ?_, .inr ⟨hN, 0, rfl⟩⟩
    refine Ev.step (fun k => by rw [fastfloat_ParseInt64.j3]) ?_
    by_cases hij : i ≤ j
    · exact Ev.pos (by omega) (Ev.bd rfl (Ev.now _))
    · rw [us]
      exact Ev.neg (by omega) (Ev.pos (by omega) (Ev.bd rfl (Ev.now _)))
  induction l with
  | nil =>
    intro i D hl hj hi hz hD hU
    have hz1 := at_nil hl
    have en : ∀ {r : Int × Option Int}, Ev (fun k => fastfloat_ParseInt64.j3 k s (i : Int) neg (D : Int) (j : Int)) r → Ev (fun k => fastfloat_ParseInt64.l0 k s (i : Int) neg (D : Int) (j : Int)) r := fun e => by
      refine Ev.step (fun k => by rw [fastfloat_ParseInt64.l0]) ?_
      rw [us]
      exact Ev.neg (by omega) e
    by_cases hT : s.data.toList.drop j = []
    · have hz2 := at_nil hT
      obtain ⟨r, h1, h2⟩ := stop i D hj (.inl (by omega)) (.inr hT)
      exact ⟨r, en h1, h2⟩
    · have hjs : j < i := by
        apply Decidable.byContradiction
        intro hn
        apply hT
        rw [show j = i by omega]
        exact hl
      have hDb : D < 1000000000000000000 := Nat.lt_of_lt_of_le hD (Nat.pow_le_pow_right (by omega) (show i - j ≤ 18 by omega))
      have hV : UV (s.data.toList.drop j) = some D := by
        unfold UV
        rw [if_neg hT, hU]
        rfl
      have e3 : Ev (fun k => fastfloat_ParseInt64.j3 k s (i : Int) neg (D : Int) (j : Int)) (if neg = true then -(D : Int) else (D : Int), none) := by
        refine Ev.step (fun k => by rw [fastfloat_ParseInt64.j3]) ?_
        rw [us, w64 (x := -(D : Int)) (by omega) (by omega)]
        refine Ev.neg (by omega) (Ev.neg (by omega) ?_)
        cases neg with
        | true => exact Ev.pos rfl (Ev.now _)
        | false => exact Ev.neg Bool.false_ne_true (Ev.now _)
      refine ⟨_, en e3, .inl ⟨_, ?_, rfl⟩⟩
      rw [ha, hV]
      unfold sgn
      dsimp only
      cases neg with
      | true => rw [if_pos rfl, if_pos rfl, if_pos (by omega)]
      | false => rw [if_neg Bool.false_ne_true, if_neg Bool.false_ne_true, if_pos (by omega)]
  | cons c r ih =>
    intro i D hl hj hi hz hD hU
    obtain ⟨h1, h2, h3⟩ := at_cons hl
    have en : ∀ (b : Bool) {r : Int × Option Int}, b = decide (48 ≤ c.toNat ∧ c.toNat ≤ 57) → Ev (fun k => fastfloat_ParseInt64.j2 k s (i : Int) neg (D : Int) (j : Int) b) r → Ev (fun k => fastfloat_ParseInt64.l0 k s (i : Int) neg (D : Int) (j : Int)) r := fun b r hb e => by
      refine Ev.step (fun k => by rw [fastfloat_ParseInt64.l0]) ?_
      rw [us, h2]
      refine Ev.pos (by omega) (Ev.pos (by omega) (Ev.pos (by omega) ?_))
      by_cases a : c.toNat ≥ 48
      · refine Ev.pos (by omega) ?_
        have : decide ((c.toNat : Int) ≤ 57) = b := by
          rw [hb]
          by_cases q : c.toNat ≤ 57
          · rw [decide_eq_true (by omega), decide_eq_true (by omega)]
          · rw [decide_eq_false (by omega), decide_eq_false (by omega)]
        rw [this]
        exact e
      · refine Ev.neg (by omega) ?_
        rw [hb, decide_eq_false (by omega)] at e
        exact e
    by_cases hc : 48 ≤ c.toNat ∧ c.toNat ≤ 57
    · have ei : IntKind.u64.wrap ((i : Int) + 1) = ((i + 1 : Nat) : Int) := by rw [u64 (by omega) (by omega)]; omega
      by_cases h18 : i = 18
      · obtain ⟨x, hx1, hx2⟩ := slow s hs h43
        refine ⟨x, en true (by rw [decide_eq_true hc]) ?_, hx2⟩
        refine Ev.step (fun k => by rw [fastfloat_ParseInt64.j2]) ?_
        rw [ei]
        exact Ev.pos rfl (Ev.pos (by omega) (Ev.pos (by omega) (Ev.pos (by omega) hx1)))
      · have hDb : D < 100000000000000000 := Nat.lt_of_lt_of_le hD (Nat.pow_le_pow_right (by omega) (show i - j ≤ 17 by omega))
        have hp : 10 ^ (i + 1 - j) = 10 ^ (i - j) * 10 := by rw [show i + 1 - j = (i - j) + 1 by omega, Nat.pow_succ]
        have hU2 : U D (c :: r) = U (D * 10 + (c.toNat - 48)) r := by
          rw [U, if_pos hc, if_neg (by omega)]
        obtain ⟨x, hx1, hx2⟩ := ih (i + 1) (D * 10 + (c.toNat - 48)) h3 (by omega) (by omega) (by omega) (by rw [hp]; omega) (hU.trans hU2)
        refine ⟨x, en true (by rw [decide_eq_true hc]) ?_, hx2⟩
        refine Ev.step (fun k => by rw [fastfloat_ParseInt64.j2]) ?_
        have ed : wrap64 (wrap64 ((D : Int) * 10) + (bt s (i : Int) - 48) % 256) = ((D * 10 + (c.toNat - 48) : Nat) : Int) := by
          rw [h2, w64 (x := (D : Int) * 10) (by omega) (by omega), w64 (by omega) (by omega)]; omega
        rw [ei, ed]
        exact Ev.pos rfl (Ev.pos (by omega) (Ev.pos (by omega) (Ev.neg (by omega) hx1)))
    · have hN : U 0 (s.data.toList.drop j) = none := by rw [hU, U, if_neg hc]
      obtain ⟨x, hx1, hx2⟩ := stop i D hj (.inr h1) (.inl hN)
      refine ⟨x, en false (by rw [decide_eq_false hc]) ?_, hx2⟩
      refine Ev.step (fun k => by rw [fastfloat_ParseInt64.j2]) ?_
      exact Ev.neg Bool.false_ne_true hx1
theorem parse_ev (s : ByteArray) (hs : s.size ≤ 1000) (h43 : ∀ c r, s.data.toList = c :: r → c.toNat ≠ 43) : ∃ r, Ev (fun k => fastfloat_ParseInt64.f k s) r ∧ Good (ans s.data.toList) r := by
  have hlen : s.data.toList.length = s.size := by rw [Array.length_toList]; rfl
  have us : IntKind.u64.wrap (s.size : Int) = (s.size : Int) := u64 (by omega) (by omega)
  unfold fastfloat_ParseInt64.f
  rw [us]
  by_cases h0 : s.size = 0
  · have hl : s.data.toList = [] := List.length_eq_zero_iff.1 (by omega)
    refine ⟨(0, some 0), Ev.pos (by omega) (Ev.bd rfl (Ev.now _)), .inr ⟨by rw [hl]; rfl, 0, rfl⟩⟩
  · obtain ⟨c, r, hl⟩ : ∃ c r, s.data.toList = c :: r := by
      cases h : s.data.toList with
      | nil => rw [h] at hlen; simp at hlen; omega
      | cons c r => exact ⟨c, r, rfl⟩
    obtain ⟨h1, h2, h3⟩ := at_cons (show s.data.toList.drop 0 = c :: r from hl)
    have h2' : bt s 0 = c.toNat := h2
    rw [h2', head_45]
    have an : ans s.data.toList = sgn (c.toNat == 45) (UV (if c.toNat = 45 then r else c :: r)) := by rw [hl]; rfl
    have ent : ∀ (j : Nat) (neg : Bool), j ≤ 1 → j ≤ s.size → ans s.data.toList = sgn neg (UV (s.data.toList.drop j)) → ∃ r, Ev (fun k => fastfloat_ParseInt64.j0 k s (j : Int) neg) r ∧ Good (ans s.data.toList) r := by
      intro j neg hj hjs ha
      obtain ⟨x, hx1, hx2⟩ := loop s hs h43 neg j ha (s.data.toList.drop j) j 0 rfl (Nat.le_refl _) (by omega) hjs (by rw [Nat.sub_self]; decide) rfl
      refine ⟨x, ?_, hx2⟩
      refine Ev.step (fun k => by rw [fastfloat_ParseInt64.j0]) ?_
      exact hx1
    by_cases h45 : c.toNat = 45
    · have hb : (c.toNat == 45) = true := by simpa using h45
      rw [hb, if_pos h45, ← h3] at an
      rw [hb]
      by_cases hsz : s.size ≤ 1
      · refine ⟨(0, some 0), Ev.neg (by omega) (Ev.pos (by omega) (Ev.pos (by omega) (Ev.pos (by omega) (Ev.bd rfl (Ev.now _))))), .inr ⟨?_, 0, rfl⟩⟩
        rw [an]
        have : s.data.toList.drop (0 + 1) = [] := List.drop_eq_nil_of_le (by omega)
        rw [this]
        rfl
      · obtain ⟨x, hx1, hx2⟩ := ent 1 true (by omega) (by omega) an
        exact ⟨x, Ev.neg (by omega) (Ev.pos (by omega) (Ev.pos (by omega) (Ev.neg (by omega) hx1))), hx2⟩
    · have hb : (c.toNat == 45) = false := by simpa using h45
      rw [hb, if_neg h45, ← hl] at an
      rw [hb]
      obtain ⟨x, hx1, hx2⟩ := ent 0 false (by omega) (by omega) an
      exact ⟨x, Ev.neg (by omega) (Ev.pos (by omega) (Ev.neg (by omega) hx1)), hx2⟩
theorem impl_ev (s : ByteArray) (hs : s.size ≤ 1000) (h43 : ∀ c r, s.data.toList = c :: r → c.toNat ≠ 43) : ∃ x b, Ev (fun k => impl_FfInt64.f k s) (x, b) ∧ ((∃ v, ans s.data.toList = some v ∧ x = v ∧ b = true) ∨ (ans s.data.toList = none ∧ b = false)) := by
  obtain ⟨⟨x, o⟩, h1, h2⟩ := parse_ev s hs h43
  unfold impl_FfInt64.f
  rcases h2 with ⟨v, h2, h3⟩ | ⟨h2, y, h3⟩
  · obtain ⟨rfl, rfl⟩ := Prod.mk.inj h3
    exact ⟨x, true, Ev.bind h1 (Ev.pos rfl (Ev.now _)), .inl ⟨x, h2, rfl, rfl⟩⟩
  · dsimp only at h3
    subst h3
    exact ⟨x, false, Ev.bind h1 (Ev.neg Bool.false_ne_true (Ev.now _)), .inr ⟨h2, rfl⟩⟩
theorem FnFfInt64 : laws_FnFfInt64.Pure := by
  intro s _
  refine Ev.rounds (r := true) (g := fun k => laws_FnFfInt64.f k s) ?_
  have hlen : s.data.toList.length = s.size := by rw [Array.length_toList]; rfl
  unfold laws_FnFfInt64.f
  have yes : Ev (fun k => laws_FnFfInt64.j0 k s true) true := by
    refine Ev.step (fun k => by rw [laws_FnFfInt64.j0]) ?_
    exact Ev.pos rfl (Ev.now _)
  by_cases c1 : (s.size : Int) > 2147483647
  · exact Ev.pos c1 (Ev.now _)
  refine Ev.neg c1 ?_
  by_cases c2 : (s.size : Int) > 1000
  · exact Ev.pos c2 yes
  refine Ev.neg c2 ?_
  have no : (∀ c r, s.data.toList = c :: r → c.toNat ≠ 43) → Ev (fun k => laws_FnFfInt64.j0 k s false) true := by
    intro h43
    obtain ⟨x, b, e1, h⟩ := impl_ev s (by omega) h43
    obtain ⟨x', b', e1', h'⟩ := impl_ev (⟨#[48]⟩ : ByteArray) (by decide) (fun c r h => by
      obtain ⟨rfl, _⟩ := List.cons.inj h
      decide)
    have hb' : b' = true := by
      rcases h' with ⟨v, _, _, h⟩ | ⟨h, _⟩
      · exact h
      · exact absurd h (by decide)
    subst hb'
    have e2 := int_ev s (by omega)
    refine Ev.step (fun k => by rw [laws_FnFfInt64.j0]) ?_
    refine Ev.neg Bool.false_ne_true (Ev.bind e1 (Ev.bind e2 (Ev.bind e1' ?_)))
    rcases h with ⟨v, h1, h2, h3⟩ | ⟨h1, h2⟩
    · rw [h1, h2, h3]
      exact Ev.pos rfl (Ev.pos rfl (Ev.pos rfl (Ev.now _)))
    · rw [h1, h2]
      exact Ev.pos rfl (Ev.neg Bool.false_ne_true (Ev.now _))
  rw [ByteArray.toList_eq]
  cases hl : s.data.toList with
  | nil => exact Ev.pos rfl (no (fun c r h => by rw [hl] at h; cases h))
  | cons c r =>
    obtain ⟨h1, h2, h3⟩ := at_cons (i := 0) (show s.data.toList.drop 0 = c :: r from hl)
    have h2' : bt s 0 = c.toNat := h2
    refine Ev.neg (fun h => by cases h) (Ev.pos (by omega) ?_)
    rw [h2']
    by_cases h43 : c.toNat = 43
    · rw [h43]
      exact yes
    · have : (((c.toNat : Int)) == 43) = false := by simp; omega
      rw [this]
      exact no (fun c' r' h => by
        rw [hl] at h
        obtain ⟨rfl, _⟩ := List.cons.inj h
        exact h43)
end Go.Proofs.YtljmeaemonpkoaaDoor.Pure
