/- What fastjson's check of a number answers. -/
import Derived.Test.YtdhiihegfdmokaaDoorVUFnFjCheckObject
namespace Go.Proofs.YtdhiihegfdmokaaDoor.JFnFjCheckObject
open Go.RowKit Go.Proofs.YtdhiihegfdmokaaDoor.PFnFjCheckObject Go.Proofs.YtdhiihegfdmokaaDoorW.PrintWords Go.Proofs.YtdhiihegfdmokaaDoorW.PrintLast Go.Proofs.YtdhiihegfdmokaaDoorW.PrintMore
set_option linter.unusedSimpArgs false
set_option linter.unusedVariables false

abbrev R2 := ByteArray × Option Int
def NOut (T : ByteArray) (P : Int → Prop) (r : R2) : Prop := (r.2.isSome = true ∧ ∀ j, ¬ P j) ∨ ∃ j : Nat, j ≤ T.size ∧ r = (sx T j, none) ∧ P j
theorem digs_uniq {s : ByteArray} {a b c : Int} (h : Digs s a b) (h1 : a ≤ c) (h2 : c ≤ s.size) (h3 : ∀ q, a ≤ q → q < c → 48 ≤ bt s q ∧ bt s q ≤ 57) (h4 : c = s.size ∨ ¬ (48 ≤ bt s c ∧ bt s c ≤ 57)) : c = b := by
  have := h.hi; have := h.lt
  by_cases e : c < b
  · exact absurd (h.all c h1 e) (h4.resolve_left (by omega))
  · by_cases e2 : b < c
    · exact absurd (h3 b (by omega) e2) (h.stop.resolve_left (by omega))
    · omega
/-- A run of digits: what the three loops over digits go over. -/
structure Dig (T : ByteArray) (o n : Nat) : Prop where
  hi : o + n ≤ T.size
  all : ∀ q : Int, o ≤ q → q < o + n → 48 ≤ bt T q ∧ bt T q ≤ 57
  stop : ((o + n : Nat) : Int) = T.size ∨ ¬ (48 ≤ bt T ((o + n : Nat) : Int) ∧ bt T ((o + n : Nat) : Int) ≤ 57)
theorem Dig.digs {T : ByteArray} {o n : Nat} (h : Dig T o n) (hn : 0 < n) : Digs T o ((o + n : Nat) : Int) :=
  ⟨by omega, by have := h.hi; omega, fun q a b => h.all q a (by omega), h.stop⟩
theorem Dig.uniq {T : ByteArray} {o n : Nat} (h : Dig T o n) {b : Int} (hb : Digs T o b) : b = ((o + n : Nat) : Int) ∧ 0 < n := by
  have e := digs_uniq hb (c := ((o + n : Nat) : Int)) (by omega) (by have := h.hi; omega) (fun q a b => h.all q a (by omega)) h.stop
  exact ⟨e.symm, by have := hb.lt; omega⟩
theorem run_l (L J : Nat → ByteArray → Int → Option R2)
    (hL : ∀ k x0 x4, L (k + 1) x0 x4 = if x4 < (x0.size : Int) then (if 0 ≤ x4 then (if (bt x0 x4) < 48 then (J k x0 x4) else (if (bt x0 x4) > 57 then (J k x0 x4) else (L k x0 (wrap64 (x4 + 1))))) else none) else (J k x0 x4))
    (T : ByteArray) (hs : T.size ≤ 100000) (o : Nat) (ho : o ≤ T.size) (d : Nat) : ∀ x : Nat, T.size - (o + x) = d → o + x ≤ T.size → (∀ q : Int, o ≤ q → q < o + x → 48 ≤ bt T q ∧ bt T q ≤ 57) →
      ∃ n, Dig T o n ∧ ∀ r, Ev (fun k => J k (sx T o) (n : Int)) r → Ev (fun k => L k (sx T o) (x : Int)) r := by
  have hz := sx_size T o
  induction d with
  | zero =>
    intro x hd hx hq
    exact ⟨x, ⟨hx, hq, .inl (by omega)⟩, fun r e => Ev.step (fun k => hL k _ _) (Ev.neg (by omega) e)⟩
  | succ d ih =>
    intro x hd hx hq
    have hb := sx_nat T o x
    by_cases c1 : bt T ((o + x : Nat) : Int) < 48
    · exact ⟨x, ⟨hx, hq, .inr (by omega)⟩, fun r e => Ev.step (fun k => hL k _ _) (Ev.pos (by omega) (Ev.pos (by omega) (Ev.pos (by omega) e)))⟩
    by_cases c2 : bt T ((o + x : Nat) : Int) > 57
    · exact ⟨x, ⟨hx, hq, .inr (by omega)⟩, fun r e => Ev.step (fun k => hL k _ _) (Ev.pos (by omega) (Ev.pos (by omega) (Ev.neg (by omega) (Ev.pos (by omega) e))))⟩
    obtain ⟨n, h1, h2⟩ := ih (x + 1) (by omega) (by omega) (fun q a b => by
      by_cases e : q = ((o + x : Nat) : Int)
      · rw [e]; omega
      · exact hq q a (by omega))
    refine ⟨n, h1, fun r e => Ev.step (fun k => hL k _ _) (Ev.pos (by omega) (Ev.pos (by omega) (Ev.neg (by omega) (Ev.neg (by omega) ?_))))⟩
    rw [w1 x (by omega)]
    exact h2 r e
theorem err_r (P : Int → Prop) (T : ByteArray) (x : ByteArray) (h : ∀ j, ¬ P j) : NOut T P (x, some 0) := .inl ⟨rfl, h⟩
/-- The digits of a power. -/
theorem e9 (T : ByteArray) (hs : T.size ≤ 100000) (o : Nat) (ho : o ≤ T.size) : ∃ r, Ev (fun k => fastjson_validateNumber.j9 k (sx T o)) r ∧ NOut T (fun j => Digs T o j) r := by
  have hz := sx_size T o
  obtain ⟨n, hd, h⟩ := run_l fastjson_validateNumber.l2 fastjson_validateNumber.j11 (fun k x0 x4 => by rw [fastjson_validateNumber.l2]) T hs o ho _ 0 rfl (by omega) (fun q a b => by omega)
  have fin : ∀ r, Ev (fun k => fastjson_validateNumber.j11 k (sx T o) (n : Int)) r → Ev (fun k => fastjson_validateNumber.j9 k (sx T o)) r := fun r e => by
    have e2 : Ev (fun k => fastjson_validateNumber.l2 k (sx T o) 0) r := h r e
    exact Ev.step (fun k => by rw [fastjson_validateNumber.j9]) e2
  have hi := hd.hi
  by_cases h0 : n = 0
  · refine ⟨_, fin _ (Ev.step (fun k => by rw [fastjson_validateNumber.j11]) (Ev.pos (by omega) (Ev.bd (err_new _) (Ev.now _)))), err_r _ _ _ (fun j hj => ?_)⟩
    have := (hd.uniq hj).2; omega
  · by_cases h1 : o + n = T.size
    · refine ⟨_, fin _ (Ev.step (fun k => by rw [fastjson_validateNumber.j11]) (Ev.neg (by omega) (Ev.pos (by omega) (Ev.now _)))), .inr ⟨T.size, Nat.le_refl _, by rw [sx_end T], ?_⟩⟩
      rw [← h1]; exact hd.digs (by omega)
    · refine ⟨_, fin _ (Ev.step (fun k => by rw [fastjson_validateNumber.j11]) (Ev.neg (by omega) (Ev.neg (by omega) (Ev.pos (by omega) (Ev.pos (by omega) (Ev.now _)))))), .inr ⟨o + n, hi, ?_, hd.digs (by omega)⟩⟩
      rw [Int.toNat_natCast, sx_cut T o n hi]
def SgnC (T : ByteArray) (c j : Int) : Prop := (hr T c ≠ 43 ∧ hr T c ≠ 45 ∧ Digs T c j) ∨ ((bt T c = 43 ∨ bt T c = 45) ∧ Digs T (c + 1) j)
theorem e8 (T : ByteArray) (hs : T.size ≤ 100000) (o : Nat) (ho : o < T.size) (b : Bool) (hb : b = true ↔ bt T o = 45 ∨ bt T o = 43) : ∃ r, Ev (fun k => fastjson_validateNumber.j8 k (sx T o) b) r ∧ NOut T (SgnC T o) r := by
  have hz := sx_size T o
  have hh : hr T o = bt T o := hr_lt (by omega)
  have cut := sx_cut T o 1 (by omega)
  cases b with
  | true =>
    have hs' := hb.1 rfl
    have hz1 := sx_size T (o + 1)
    by_cases h1 : o + 1 = T.size
    · refine ⟨_, Ev.step (fun k => by rw [fastjson_validateNumber.j8]) (Ev.pos rfl (Ev.pos (by omega) (Ev.pos (by rw [cut]; omega) (Ev.bd (err_new _) (Ev.now _))))), err_r _ _ _ (fun j hj => ?_)⟩
      rcases hj with ⟨h2, h3, _⟩ | ⟨_, h2⟩
      · omega
      · have := h2.lt; have := h2.hi; omega
    · obtain ⟨r, e, ho2⟩ := e9 T hs (o + 1) (by omega)
      refine ⟨r, Ev.step (fun k => by rw [fastjson_validateNumber.j8]) (Ev.pos rfl (Ev.pos (by omega) (Ev.neg (by rw [cut]; omega) (by rw [cut]; exact e)))), ?_⟩
      have ec : ((o + 1 : Nat) : Int) = (o : Int) + 1 := by omega
      rw [ec] at ho2
      rcases ho2 with ⟨h2, h3⟩ | ⟨j, h2, h3, h4⟩
      · refine .inl ⟨h2, fun j hj => ?_⟩
        rcases hj with ⟨h4, h5, _⟩ | ⟨_, h4⟩
        · omega
        · exact h3 j h4
      · exact .inr ⟨j, h2, h3, .inr ⟨by omega, h4⟩⟩
  | false =>
    have hs' : ¬ (bt T o = 45 ∨ bt T o = 43) := fun h => Bool.false_ne_true (hb.2 h)
    obtain ⟨r, e, ho2⟩ := e9 T hs o (by omega)
    refine ⟨r, Ev.step (fun k => by rw [fastjson_validateNumber.j8]) (Ev.neg Bool.false_ne_true e), ?_⟩
    rcases ho2 with ⟨h2, h3⟩ | ⟨j, h2, h3, h4⟩
    · refine .inl ⟨h2, fun j hj => ?_⟩
      rcases hj with ⟨_, _, h4⟩ | ⟨h4, _⟩
      · exact h3 j h4
      · omega
    · exact .inr ⟨j, h2, h3, .inl ⟨by omega, by omega, h4⟩⟩
/-- A power, or none. -/
def ExpC (T : ByteArray) (c j : Int) : Prop := (j = c ∧ hr T c ≠ 101 ∧ hr T c ≠ 69) ∨ ((bt T c = 101 ∨ bt T c = 69) ∧ SgnC T (c + 1) j)
theorem e6 (T : ByteArray) (hs : T.size ≤ 100000) (o x : Nat) (ho : o + x < T.size) : ∃ r, Ev (fun k => fastjson_validateNumber.j6 k (sx T o) (x : Int)) r ∧ NOut T (ExpC T ((o + x : Nat) : Int)) r := by
  have hz := sx_size T o
  have hb := sx_nat T o x
  have hh : hr T ((o + x : Nat) : Int) = bt T ((o + x : Nat) : Int) := hr_lt (by omega)
  have key : ∀ b : Bool, (b = true ↔ bt T ((o + x : Nat) : Int) = 101 ∨ bt T ((o + x : Nat) : Int) = 69) → ∃ r, Ev (fun k => fastjson_validateNumber.j7 k (sx T o) (x : Int) b) r ∧ NOut T (ExpC T ((o + x : Nat) : Int)) r := by
    intro b hb1
    cases b with
    | true =>
      have h1 := hb1.1 rfl
      have cut := sx_cut T o (x + 1) (by omega)
      have hz1 := sx_size T (o + (x + 1))
      have st : ∀ r, Ev (fun k => if ((sx T (o + (x + 1))).size : Int) = 0 then ((errors_New.f (⟨#[109, 105, 115, 115, 105, 110, 103, 32, 101, 120, 112, 111, 110, 101, 110, 116, 32, 112, 97, 114, 116]⟩ : ByteArray)).bind fun t316 => (some (sx T (o + (x + 1)), t316))) else (if 0 < ((sx T (o + (x + 1))).size : Int) then (if (bt (sx T (o + (x + 1))) 0) = 45 then (fastjson_validateNumber.j8 k (sx T (o + (x + 1))) true) else (fastjson_validateNumber.j8 k (sx T (o + (x + 1))) ((bt (sx T (o + (x + 1))) 0) == 43))) else (none))) r → Ev (fun k => fastjson_validateNumber.j7 k (sx T o) (x : Int) true) r := fun r e => by
        refine Ev.step (fun k => by rw [fastjson_validateNumber.j7]) (Ev.pos rfl ?_)
        rw [w1 x (by omega), Int.toNat_natCast, cut]
        exact Ev.pos (by omega) (Ev.pos (by omega) e)
      by_cases h2 : o + x + 1 = T.size
      · refine ⟨_, st _ (Ev.pos (by omega) (Ev.bd (err_new _) (Ev.now _))), err_r _ _ _ (fun j hj => ?_)⟩
        rcases hj with ⟨_, h3, h4⟩ | ⟨_, ⟨_, _, h3⟩ | ⟨_, h3⟩⟩
        · omega
        · have := h3.lt; have := h3.hi; omega
        · have := h3.lt; have := h3.hi; omega
      · have hb0 : bt (sx T (o + (x + 1))) 0 = bt T ((o + (x + 1) : Nat) : Int) := by
          have := sx_nat T (o + (x + 1)) 0
          simpa using this
        have e8' : ∀ b : Bool, (b = true ↔ bt T ((o + (x + 1) : Nat) : Int) = 45 ∨ bt T ((o + (x + 1) : Nat) : Int) = 43) → ∃ r, Ev (fun k => fastjson_validateNumber.j8 k (sx T (o + (x + 1))) b) r ∧ NOut T (ExpC T ((o + x : Nat) : Int)) r := fun b hb => by
          obtain ⟨r, e, ho2⟩ := e8 T hs (o + (x + 1)) (by omega) b hb
          have ec : ((o + (x + 1) : Nat) : Int) = ((o + x : Nat) : Int) + 1 := by omega
          rw [ec] at ho2
          refine ⟨r, e, ?_⟩
          rcases ho2 with ⟨h2, h3⟩ | ⟨j, h2, h3, h4⟩
          · refine .inl ⟨h2, fun j hj => ?_⟩
            rcases hj with ⟨_, h4, h5⟩ | ⟨_, h4⟩
            · omega
            · exact h3 j h4
          · exact .inr ⟨j, h2, h3, .inr ⟨h1, h4⟩⟩
        by_cases c1 : bt T ((o + (x + 1) : Nat) : Int) = 45
        · obtain ⟨r, e, h3⟩ := e8' true ⟨fun _ => .inl c1, fun _ => rfl⟩
          exact ⟨r, st r (Ev.neg (by omega) (Ev.pos (by omega) (Ev.pos (by omega) e))), h3⟩
        · obtain ⟨r, e, h3⟩ := e8' (bt (sx T (o + (x + 1))) 0 == 43) (by rw [hb0, beq_iff_eq]; omega)
          exact ⟨r, st r (Ev.neg (by omega) (Ev.pos (by omega) (Ev.neg (by omega) e))), h3⟩
    | false =>
      have h1 : ¬ (bt T ((o + x : Nat) : Int) = 101 ∨ bt T ((o + x : Nat) : Int) = 69) := fun h => Bool.false_ne_true (hb1.2 h)
      refine ⟨_, Ev.step (fun k => by rw [fastjson_validateNumber.j7]) (Ev.neg Bool.false_ne_true (Ev.pos (by omega) (Ev.pos (by omega) (Ev.now _)))), .inr ⟨o + x, by omega, ?_, .inl ⟨rfl, by omega, by omega⟩⟩⟩
      rw [Int.toNat_natCast, sx_cut T o x (by omega)]
  by_cases c1 : bt T ((o + x : Nat) : Int) = 101
  · obtain ⟨r, e, h⟩ := key true ⟨fun _ => .inl c1, fun _ => rfl⟩
    exact ⟨r, Ev.step (fun k => by rw [fastjson_validateNumber.j6]) (Ev.pos (by omega) (Ev.pos (by omega) (Ev.pos (by omega) e))), h⟩
  · obtain ⟨r, e, h⟩ := key (bt (sx T o) (x : Int) == 69) (by rw [beq_iff_eq]; omega)
    exact ⟨r, Ev.step (fun k => by rw [fastjson_validateNumber.j6]) (Ev.pos (by omega) (Ev.pos (by omega) (Ev.neg (by omega) e))), h⟩
/-- A fraction and a power, or none. -/
def FracC (T : ByteArray) (b j : Int) : Prop := ∃ c : Int, ((c = b ∧ hr T b ≠ 46) ∨ (bt T b = 46 ∧ Digs T (b + 1) c)) ∧ ExpC T c j
theorem exp_end (T : ByteArray) : ExpC T (T.size : Int) (T.size : Int) := .inl ⟨rfl, by rw [hr_ge (by omega)]; omega, by rw [hr_ge (by omega)]; omega⟩
theorem e3 (T : ByteArray) (hs : T.size ≤ 100000) (o x : Nat) (ho : o + x ≤ T.size) : ∃ r, Ev (fun k => fastjson_validateNumber.j3 k (sx T o) (x : Int) false) r ∧ NOut T (FracC T ((o + x : Nat) : Int)) r := by
  have hz := sx_size T o
  have hb := sx_nat T o x
  by_cases h1 : o + x = T.size
  · refine ⟨_, Ev.step (fun k => by rw [fastjson_validateNumber.j3]) (Ev.neg Bool.false_ne_true (Ev.pos (by omega) (Ev.now _))), .inr ⟨T.size, Nat.le_refl _, by rw [sx_end T], T.size, .inl ⟨by omega, ?_⟩, exp_end T⟩⟩
    rw [hr_ge (by omega)]; omega
  have hh : hr T ((o + x : Nat) : Int) = bt T ((o + x : Nat) : Int) := hr_lt (by omega)
  by_cases c1 : bt T ((o + x : Nat) : Int) = 46
  · have cut := sx_cut T o (x + 1) (by omega)
    have hz1 := sx_size T (o + (x + 1))
    have ec : ((o + (x + 1) : Nat) : Int) = ((o + x : Nat) : Int) + 1 := by omega
    have st : ∀ r, Ev (fun k => if ((sx T (o + (x + 1))).size : Int) = 0 then ((errors_New.f (⟨#[109, 105, 115, 115, 105, 110, 103, 32, 102, 114, 97, 99, 116, 105, 111, 110, 97, 108, 32, 112, 97, 114, 116]⟩ : ByteArray)).bind fun t314 => (some (sx T (o + (x + 1)), t314))) else (fastjson_validateNumber.l1 k (sx T (o + (x + 1))) 0)) r → Ev (fun k => fastjson_validateNumber.j3 k (sx T o) (x : Int) false) r := fun r e => by
      refine Ev.step (fun k => by rw [fastjson_validateNumber.j3]) (Ev.neg Bool.false_ne_true (Ev.neg (by omega) (Ev.pos (by omega) (Ev.pos (by omega) (Ev.pos (by omega) ?_)))))
      rw [w1 x (by omega), Int.toNat_natCast, cut]
      exact Ev.pos (by omega) (Ev.pos (by omega) e)
    by_cases h2 : o + x + 1 = T.size
    · refine ⟨_, st _ (Ev.pos (by omega) (Ev.bd (err_new _) (Ev.now _))), err_r _ _ _ (fun j hj => ?_)⟩
      obtain ⟨c, ⟨_, h3⟩ | ⟨_, h3⟩, _⟩ := hj
      · omega
      · have := h3.lt; have := h3.hi; omega
    obtain ⟨n, hd, h⟩ := run_l fastjson_validateNumber.l1 fastjson_validateNumber.j5 (fun k x0 x4 => by rw [fastjson_validateNumber.l1]) T hs (o + (x + 1)) (by omega) _ 0 rfl (by omega) (fun q a b => by omega)
    have fin : ∀ r, Ev (fun k => fastjson_validateNumber.j5 k (sx T (o + (x + 1))) (n : Int)) r → Ev (fun k => fastjson_validateNumber.j3 k (sx T o) (x : Int) false) r := fun r e => st r (Ev.neg (by omega) (h r e))
    have hi := hd.hi
    have un : ∀ c : Int, Digs T (((o + x : Nat) : Int) + 1) c → c = ((o + (x + 1) + n : Nat) : Int) ∧ 0 < n := fun c hc => hd.uniq (by rw [ec]; exact hc)
    by_cases h0 : n = 0
    · refine ⟨_, fin _ (Ev.step (fun k => by rw [fastjson_validateNumber.j5]) (Ev.pos (by omega) (Ev.bd (err_new _) (Ev.now _)))), err_r _ _ _ (fun j hj => ?_)⟩
      obtain ⟨c, ⟨_, h3⟩ | ⟨_, h3⟩, _⟩ := hj
      · omega
      · have := (un c h3).2; omega
    · have dg := hd.digs (by omega)
      rw [ec] at dg
      by_cases h3 : o + (x + 1) + n = T.size
      · refine ⟨_, fin _ (Ev.step (fun k => by rw [fastjson_validateNumber.j5]) (Ev.neg (by omega) (Ev.pos (by omega) (Ev.now _)))), .inr ⟨T.size, Nat.le_refl _, by rw [sx_end T], _, .inr ⟨c1, dg⟩, ?_⟩⟩
        rw [h3]; exact exp_end T
      · obtain ⟨r, e, ho2⟩ := e6 T hs (o + (x + 1)) n (by omega)
        refine ⟨r, fin r (Ev.step (fun k => by rw [fastjson_validateNumber.j5]) (Ev.neg (by omega) (Ev.neg (by omega) e))), ?_⟩
        rcases ho2 with ⟨h4, h5⟩ | ⟨j, h4, h5, h6⟩
        · refine .inl ⟨h4, fun j hj => ?_⟩
          obtain ⟨c, ⟨_, h6⟩ | ⟨_, h6⟩, h7⟩ := hj
          · omega
          · rw [(un c h6).1] at h7
            exact h5 j h7
        · exact .inr ⟨j, h4, h5, _, .inr ⟨c1, dg⟩, h6⟩
  · obtain ⟨r, e, ho2⟩ := e6 T hs o x (by omega)
    refine ⟨r, Ev.step (fun k => by rw [fastjson_validateNumber.j3]) (Ev.neg Bool.false_ne_true (Ev.neg (by omega) (Ev.pos (by omega) (Ev.pos (by omega) (Ev.neg (by omega) e))))), ?_⟩
    rcases ho2 with ⟨h4, h5⟩ | ⟨j, h4, h5, h6⟩
    · refine .inl ⟨h4, fun j hj => ?_⟩
      obtain ⟨c, ⟨h6, _⟩ | ⟨h6, _⟩, h7⟩ := hj
      · subst h6; exact h5 j h7
      · omega
    · exact .inr ⟨j, h4, h5, _, .inl ⟨rfl, by omega⟩, h6⟩
theorem frac_le {T : ByteArray} {b j : Int} (h : FracC T b j) : b ≤ j := by
  obtain ⟨c, h1, h2⟩ := h
  have h3 : b ≤ c := by
    rcases h1 with ⟨h1, _⟩ | ⟨_, h1⟩
    · omega
    · have := h1.lt; omega
  rcases h2 with ⟨h2, _⟩ | ⟨_, ⟨_, _, h2⟩ | ⟨_, h2⟩⟩
  · omega
  · have := h2.lt; omega
  · have := h2.lt; omega
theorem num_iff (T : ByteArray) (i j : Int) : Num T i j ↔ ∃ a b : Int, ((a = i ∧ hr T i ≠ 45) ∨ (bt T i = 45 ∧ a = i + 1)) ∧ ((a < T.size ∧ bt T a = 48 ∧ b = a + 1) ∨ (hr T a ≠ 48 ∧ Digs T a b)) ∧ FracC T b j := by
  constructor
  · rintro ⟨a, b, c, h1, h2, h3, h4⟩
    refine ⟨a, b, h1, h2, c, h3, ?_⟩
    rcases h4 with h4 | ⟨h4, h5⟩
    · exact .inl h4
    · refine .inr ⟨h4, ?_⟩
      unfold SgnC
      rw [show c + 1 + 1 = c + 2 by omega]
      exact h5
  · rintro ⟨a, b, h1, h2, c, h3, h4⟩
    refine ⟨a, b, c, h1, h2, h3, ?_⟩
    rcases h4 with h4 | ⟨h4, h5⟩
    · exact .inl h4
    · refine .inr ⟨h4, ?_⟩
      unfold SgnC at h5
      rw [show c + 1 + 1 = c + 2 by omega] at h5
      exact h5
/-- A number, or none; a zero ahead of a digit is none, and no number ends ahead of a digit. -/
def NumOut (T : ByteArray) (i : Nat) (r : R2) : Prop := (r.2.isSome = true ∧ ∀ j : Int, Num T i j → j < T.size ∧ 48 ≤ bt T j ∧ bt T j ≤ 57) ∨ ∃ j : Nat, i < j ∧ j ≤ T.size ∧ r = (sx T j, none) ∧ Num T i j
theorem num_out (T : ByteArray) (hs : T.size ≤ 100000) (i : Nat) (hi : i ≤ T.size) : ∃ r, Ev (fun k => fastjson_validateNumber.f k (sx T i)) r ∧ NumOut T i r := by
  have hz := sx_size T i
  have main : ∀ a : Nat, i ≤ a → a ≤ T.size → (((a : Int) = i ∧ hr T i ≠ 45) ∨ (bt T i = 45 ∧ (a : Int) = i + 1)) → ∃ r, Ev (fun k => fastjson_validateNumber.j0 k (sx T a)) r ∧ NumOut T i r := by
    intro a ha1 ha2 ha
    have hza := sx_size T a
    have aun : ∀ a' : Int, ((a' = i ∧ hr T i ≠ 45) ∨ (bt T i = 45 ∧ a' = i + 1)) → a' = a := fun a' h => by
      rcases ha with ⟨h1, h2⟩ | ⟨h1, h2⟩
      · rcases h with ⟨h3, h4⟩ | ⟨h3, h4⟩
        · omega
        · have : (i : Nat) < T.size := bt_in (by omega)
          rw [hr_lt (by omega)] at h2; omega
      · rcases h with ⟨h3, h4⟩ | ⟨h3, h4⟩
        · have : (i : Nat) < T.size := bt_in (by omega)
          rw [hr_lt (by omega)] at h4; omega
        · omega
    obtain ⟨n, hd, h⟩ := run_l fastjson_validateNumber.l0 fastjson_validateNumber.j2 (fun k x0 x4 => by rw [fastjson_validateNumber.l0]) T hs a ha2 _ 0 rfl (by omega) (fun q a b => by omega)
    have fin : ∀ r, Ev (fun k => fastjson_validateNumber.j2 k (sx T a) (n : Int)) r → Ev (fun k => fastjson_validateNumber.j0 k (sx T a)) r := fun r e => by
      have e2 : Ev (fun k => fastjson_validateNumber.l0 k (sx T a) 0) r := h r e
      exact Ev.step (fun k => by rw [fastjson_validateNumber.j0]) e2
    have hn := hd.hi
    by_cases h0 : n = 0
    · refine ⟨_, fin _ (Ev.step (fun k => by rw [fastjson_validateNumber.j2]) (Ev.pos (by omega) (Ev.bd (err_new _) (Ev.now _)))), .inl ⟨rfl, fun j hj => ?_⟩⟩
      exfalso
      obtain ⟨a', b, h1, h2, h3⟩ := (num_iff T i j).1 hj
      obtain rfl := aun a' h1
      rcases h2 with ⟨h2, h4, _⟩ | ⟨_, h4⟩
      · have := hd.stop
        rw [h0, Nat.add_zero] at this
        omega
      · have := (hd.uniq h4).2; omega
    have hb : bt (sx T a) 0 = bt T a := by
      have := sx_nat T a 0
      simpa using this
    have hd0 := hd.all a (by omega) (by omega)
    have hra : hr T a = bt T a := hr_lt (by omega)
    have stp := hd.stop
    have j3 : ∀ r, ((bt T a = 48 → n = 1) → Ev (fun k => fastjson_validateNumber.j3 k (sx T a) (n : Int) false) r → Ev (fun k => fastjson_validateNumber.j0 k (sx T a)) r) := fun r hz1 e => by
      refine fin r (Ev.step (fun k => by rw [fastjson_validateNumber.j2]) (Ev.neg (by omega) (Ev.pos (by omega) ?_)))
      by_cases c : bt T a = 48
      · have := hz1 c
        refine Ev.pos (by omega) ?_
        rw [show ((n : Int) != 1) = false by simp; omega]
        exact e
      · exact Ev.neg (by omega) e
    by_cases hz1 : bt T a = 48 → n = 1
    · obtain ⟨r, e, ho⟩ := e3 T hs a n hn
      refine ⟨r, j3 r hz1 e, ?_⟩
      have bun : ∀ b : Int, ((((a : Nat) : Int) < T.size ∧ bt T a = 48 ∧ b = a + 1) ∨ (hr T a ≠ 48 ∧ Digs T a b)) → b = ((a + n : Nat) : Int) := fun b h => by
        rcases h with ⟨h1, h2, h3⟩ | ⟨h1, h2⟩
        · have := hz1 h2; omega
        · exact (hd.uniq h2).1
      rcases ho with ⟨h1, h2⟩ | ⟨j, h1, h2, h3⟩
      · refine .inl ⟨h1, fun j hj => ?_⟩
        exfalso
        obtain ⟨a', b, h4, h5, h6⟩ := (num_iff T i j).1 hj
        obtain rfl := aun a' h4
        rw [bun b h5] at h6
        exact h2 j h6
      · have := frac_le h3
        refine .inr ⟨j, by omega, h1, h2, (num_iff T i j).2 ⟨a, ((a + n : Nat) : Int), ha, ?_, h3⟩⟩
        by_cases c : bt T a = 48
        · have := hz1 c
          exact .inl ⟨by omega, c, by omega⟩
        · exact .inr ⟨by omega, hd.digs (by omega)⟩
    · have c : bt T a = 48 := by
        apply Decidable.byContradiction
        intro h; exact hz1 (fun h2 => absurd h2 h)
      have c2 : n ≠ 1 := fun h => hz1 (fun _ => h)
      have hd1 := hd.all ((a : Int) + 1) (by omega) (by omega)
      have hr1 : hr T ((a : Int) + 1) = bt T ((a : Int) + 1) := hr_lt (by omega)
      refine ⟨(sx T a, some 0), fin _ ?_, .inl ⟨rfl, fun j hj => ?_⟩⟩
      · refine Ev.step (fun k => by rw [fastjson_validateNumber.j2]) ?_
        refine Ev.neg (by omega) (Ev.pos (by omega) (Ev.pos (by omega) ?_))
        rw [show ((n : Int) != 1) = true by simp; omega]
        exact Ev.step (fun k => by rw [fastjson_validateNumber.j3]) (Ev.pos rfl (Ev.bd (err_new _) (Ev.now _)))
      · obtain ⟨a', b, h4, h5, h6⟩ := (num_iff T i j).1 hj
        obtain rfl := aun a' h4
        have hb1 : b = (a : Int) + 1 := by
          rcases h5 with ⟨_, _, h5⟩ | ⟨h5, _⟩
          · exact h5
          · omega
        subst hb1
        obtain ⟨c3, h7, h8⟩ := h6
        have hc3 : c3 = (a : Int) + 1 := by
          rcases h7 with ⟨h7, _⟩ | ⟨h7, _⟩
          · exact h7
          · omega
        subst hc3
        rcases h8 with ⟨h8, _, _⟩ | ⟨h8, _⟩
        · rw [h8]; exact ⟨by omega, hd1⟩
        · omega
  have hb : bt (sx T i) 0 = bt T i := by
    have := sx_nat T i 0
    simpa using this
  unfold fastjson_validateNumber.f
  by_cases h0 : i = T.size
  · refine ⟨_, Ev.pos (by omega) (Ev.bd (err_new _) (Ev.now _)), .inl ⟨rfl, fun j hj => ?_⟩⟩
    exfalso
    obtain ⟨a', b, h4, h5, h6⟩ := (num_iff T i j).1 hj
    have ha' : (i : Int) ≤ a' := by omega
    rcases h5 with ⟨h5, _, _⟩ | ⟨_, h5⟩
    · omega
    · have := h5.lt; have := h5.hi; omega
  have hri : hr T i = bt T i := hr_lt (by omega)
  by_cases c1 : bt T i = 45
  · have cut := sx_cut T i 1 (by omega)
    have hz1 := sx_size T (i + 1)
    by_cases h2 : i + 1 = T.size
    · refine ⟨_, Ev.neg (by omega) (Ev.pos (by omega) (Ev.pos (by omega) (Ev.pos (by omega) (Ev.pos (by rw [cut]; omega) (Ev.bd (err_new _) (Ev.now _)))))), .inl ⟨rfl, fun j hj => ?_⟩⟩
      exfalso
      obtain ⟨a', b, h4, h5, h6⟩ := (num_iff T i j).1 hj
      have ha' : (i : Int) + 1 = a' := by omega
      rcases h5 with ⟨h5, _, _⟩ | ⟨_, h5⟩
      · omega
      · have := h5.lt; have := h5.hi; omega
    · obtain ⟨r, e, ho⟩ := main (i + 1) (by omega) (by omega) (.inr ⟨c1, by omega⟩)
      exact ⟨r, Ev.neg (by omega) (Ev.pos (by omega) (Ev.pos (by omega) (Ev.pos (by omega) (Ev.neg (by rw [cut]; omega) (by rw [cut]; exact e))))), ho⟩
  · obtain ⟨r, e, ho⟩ := main i (by omega) hi (.inl ⟨rfl, by omega⟩)
    exact ⟨r, Ev.neg (by omega) (Ev.pos (by omega) (Ev.neg (by omega) e)), ho⟩
end Go.Proofs.YtdhiihegfdmokaaDoor.JFnFjCheckObject
