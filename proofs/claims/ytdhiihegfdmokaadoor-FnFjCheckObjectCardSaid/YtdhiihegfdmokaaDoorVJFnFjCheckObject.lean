/- The reference's reader and fastjson's check of a value go over the same texts. -/
import Derived.Test.YtdhiihegfdmokaaDoorVXFnFjCheckObject
import Derived.Test.YtdhiihegfdmokaaDoorVSFnFjCheckObject
import Derived.Test.YtdhiihegfdmokaaDoorJWFnFjCheckObject
import Derived.Lib.Strings
namespace Go.Proofs.YtdhiihegfdmokaaDoor.JFnFjCheckObject
open Go.RowKit Go.Proofs.YtdhiihegfdmokaaDoor.PFnFjCheckObject Go.Proofs.YtdhiihegfdmokaaDoorW.PrintWords Go.Proofs.YtdhiihegfdmokaaDoorW.PrintLast Go.Proofs.YtdhiihegfdmokaaDoorW.PrintMore
set_option linter.unusedSimpArgs false
set_option linter.unusedVariables false

abbrev Pl := S39
abbrev Sp := S87
theorem Blk.uniq {s : ByteArray} {a b c : Int} (h : Blk s a b) (h2 : Blk s a c) : b = c := by
  have := h.le; have := h.hi; have := h2.le; have := h2.hi
  by_cases e : b < c
  · exact absurd (h2.all b (by omega) e) (h.stop.resolve_left (by omega))
  · by_cases e2 : c < b
    · exact absurd (h.all c (by omega) e2) (h2.stop.resolve_left (by omega))
    · omega
theorem blanks_n (T : ByteArray) (hs : T.size ≤ 100000) (i : Nat) (hi : i ≤ T.size) : ∃ n : Nat, n ≤ T.size ∧ Ev (fun k => fastjson_skipWS.f k (sx T i)) (sx T n) ∧ Ev (fun k => spec_reader_blanks.f k T (i : Int)) (T, (n : Int)) ∧ Blk T i n := by
  obtain ⟨n, hn, e, hb⟩ := skip_at T hs i hi
  obtain ⟨j, e2, hb2⟩ := blanks_f_ev T (by omega) (i : Int) (by omega) (by omega)
  rw [hb2.uniq hb] at e2
  exact ⟨n, hn, e, e2, hb⟩
/-! ### strings -/
/-- A control character that a backslash follows has a quotation mark between the two. -/
def CtlOk (T : ByteArray) : Prop := ∀ q e : Nat, q < e → e < T.size → bt T q < 32 → bt T e = 92 → ∃ x : Nat, q < x ∧ x < e ∧ bt T x = 34
theorem str_joint (T : ByteArray) (hs : T.size ≤ 100000) (hst : CtlOk T) (i : Nat) (hi : i < T.size) (r : R3) (ho : StrOut (sx T (i + 1)) r) :
    ∃ (ok : Bool) (j : Int), Ev (fun k => spec_reader_quoted.f k T (i : Int)) (ok, T, j) ∧ i ≤ j ∧ j ≤ T.size ∧ ((r.2.2.isSome = true ∧ ok = false) ∨
      ∃ (sv : ByteArray) (n : Nat), i < n ∧ n ≤ T.size ∧ r = (sv, sx T n, none) ∧ sv.size ≤ 100000 ∧ ((∀ q : Nat, q < sv.size → 32 ≤ bt sv q) → ok = true ∧ j = n) ∧ ((∃ q : Nat, q < sv.size ∧ bt sv q < 32) → ok = false)) := by
  have hz := sx_size T (i + 1)
  obtain ⟨b, j, e, h2, h3, h4⟩ := quoted_ev T (by omega) (i : Int) (by omega) (by omega)
  have hN : i + 1 + (sx T (i + 1)).size = T.size := by omega
  have hg : ∀ q : Nat, gb (sx T (i + 1)) q = bt T ((i + 1 + q : Nat) : Int) := fun q => sx_nat T (i + 1) q
  have up : b = true → ∃ p : Nat, j = ((i + 1 + p + 1 : Nat) : Int) ∧ Bd (gb (sx T (i + 1))) (sx T (i + 1)).size 0 p ∧ EL (gb (sx T (i + 1))) p 0 ∧ ∀ q, 0 ≤ q → q < p → 32 ≤ gb (sx T (i + 1)) q := fun hb => strT_to hg hN (h4 hb).2 0 (by omega)
  rcases ho with ⟨h5, h6⟩ | ⟨m, p, hmp, hp, hr, hbd, hel, hct⟩
  · refine ⟨b, j, e, by omega, h3, .inl ⟨h5, ?_⟩⟩
    cases b with
    | false => rfl
    | true =>
      obtain ⟨p, _, h7, h8, _⟩ := up rfl
      exact absurd ⟨h7, h8⟩ (h6 p)
  · have cut : (sx T (i + 1)).extract (p + 1) (sx T (i + 1)).size = sx T (i + 1 + (p + 1)) := sx_cut T (i + 1) (p + 1) (by omega)
    rw [cut] at hr
    have zs : ((sx T (i + 1)).extract m p).size = p - m := by rw [ByteArray.size_extract]; omega
    have sb : ∀ q : Nat, q < p - m → bt ((sx T (i + 1)).extract m p) (q : Int) = bt (sx T (i + 1)) ((m + q : Nat) : Int) := fun q hq => by
      rw [bt_x _ m p q (by omega) (by omega) (by omega)]
      congr 1
    by_cases ha : ∀ q : Nat, q < ((sx T (i + 1)).extract m p).size → 32 ≤ bt ((sx T (i + 1)).extract m p) q
    · have nc : ∀ q, 0 ≤ q → q < p → 32 ≤ gb (sx T (i + 1)) q := by
        intro q _ hq
        apply Decidable.byContradiction
        intro hlt
        by_cases hqm : q < m
        · obtain ⟨e, h7, h8, h9⟩ := hct q hqm (by show gb (sx T (i + 1)) q < 32; omega)
          refine hbd.calm (g := gb (sx T (i + 1))) (fun q e a b c d => ?_) (q := q) (by omega) e h7 (by omega) h9
          rw [hg] at c d
          obtain ⟨x, h10, h11, h12⟩ := hst _ _ (by omega) (by omega) c d
          refine ⟨x - (i + 1), by omega, by omega, ?_⟩
          rw [hg, show i + 1 + (x - (i + 1)) = x by omega]
          exact h12
        · have h7 := ha (q - m) (by omega)
          rw [sb (q - m) (by omega), show m + (q - m) = q by omega] at h7
          have h8 : 32 ≤ gb (sx T (i + 1)) q := h7
          omega
      have ht := strT_of hg hN hel hbd nc
      have ey := quoted_yes T (by omega) (i := (i : Int)) (j := ((i + 1 + p + 1 : Nat) : Int)) (by omega) (by omega) (by rw [show (i : Int) + 1 = ((i + 1 + 0 : Nat) : Int) by omega]; exact ht)
      refine ⟨true, _, ey, by omega, by omega, .inr ⟨_, i + 1 + (p + 1), by omega, by omega, hr, by omega, fun _ => ⟨rfl, by omega⟩, fun ⟨q, h7, h8⟩ => ?_⟩⟩
      have := ha q h7
      omega
    · refine ⟨b, j, e, by omega, h3, .inr ⟨_, i + 1 + (p + 1), by omega, by omega, hr, by omega, fun h => absurd h ha, fun _ => ?_⟩⟩
      cases b with
      | false => rfl
      | true =>
        obtain ⟨p', _, h7, _, h8⟩ := up rfl
        obtain rfl := hbd.det h7
        exfalso
        apply ha
        intro q hq
        rw [sb q (by omega)]
        exact h8 (m + q) (by omega) (by omega)
/-! ### numbers -/
theorem num_joint (T : ByteArray) (hs : T.size ≤ 100000) (i : Nat) (hi : i ≤ T.size) (r : R2) (ho : NumOut T i r) :
    ∃ (ok : Bool) (j : Int), Ev (fun k => spec_reader_number.f k T (i : Int)) (ok, T, j) ∧ i ≤ j ∧ j ≤ T.size ∧ ((ok = true ∧ ∃ n : Nat, j = n ∧ i < n ∧ n ≤ T.size ∧ r = (sx T n, none)) ∨ (r.2.isSome = true ∧ (ok = true → j < T.size ∧ 48 ≤ bt T j ∧ bt T j ≤ 57))) := by
  rcases ho with ⟨h1, h2⟩ | ⟨n, h1, h2, h3, h4⟩
  · obtain ⟨o, j, e, h3, h4, h5⟩ := num_ev T (by omega) (i : Int) (by omega) (by omega)
    exact ⟨o, j, e, h3, h4, .inr ⟨h1, fun h => h2 j (h5 h)⟩⟩
  · exact ⟨true, n, num_yes T (by omega) (by omega) h4, by omega, by omega, .inl ⟨rfl, n, rfl, h1, h2, h3⟩⟩
theorem num_first (T : ByteArray) (i j : Int) (h0 : 0 ≤ i) (h : Num T i j) : bt T i = 45 ∨ (48 ≤ bt T i ∧ bt T i ≤ 57) := by
  obtain ⟨a, b, c, ha, hb, _, _⟩ := h
  rcases ha with ⟨rfl, _⟩ | ⟨h, _⟩
  · rcases hb with ⟨_, h, _⟩ | ⟨_, h⟩
    · omega
    · have := h.all a (by omega) h.lt; omega
  · exact .inl h
/-! ### words -/
theorem word_f (s w : ByteArray) (hs : (s.size : Int) ≤ 140737488351232) (hw : (w.size : Int) ≤ 100) (i : Int) (h0 : 0 ≤ i) (h1 : i ≤ s.size) :
    (Word s i w ∧ spec_reader_word.f s i w = some (true, s, i + w.size)) ∨ (¬ Word s i w ∧ spec_reader_word.f s i w = some (false, s, i)) := by
  unfold spec_reader_word.f
  rw [w64 (x := (s.size : Int) - i) (by omega) (by omega), w64 (x := i + (w.size : Int)) (by omega) (by omega)]
  by_cases c1 : (s.size : Int) - i < w.size
  · right
    rw [if_pos c1]
    exact ⟨fun h => by have := h.hi; omega, rfl⟩
  · rw [if_neg c1, if_pos h0, if_pos (by omega), if_pos (by omega)]
    by_cases c2 : (s.extract i.toNat (i + (w.size : Int)).toNat).toList = w.toList
    · left
      rw [if_pos c2]
      exact ⟨⟨by omega, c2⟩, rfl⟩
    · right
      rw [if_neg c2]
      exact ⟨fun h => c2 h.eq, rfl⟩
theorem word_iff (T w : ByteArray) (i n : Nat) (hn : w.size = n) (hi : i + n ≤ T.size) : ((sx T i).extract 0 n).toList = w.toList ↔ Word T i w := by
  have e : (sx T i).extract 0 n = T.extract (i : Int).toNat ((i : Int) + (w.size : Int)).toNat := by
    unfold sx
    rw [ByteArray.extract_extract]
    congr 1 <;> omega
  rw [e]
  exact ⟨fun h => ⟨by omega, h⟩, fun h => h.eq⟩
/-! ### values -/
abbrev RV := Int × Int × Int × List Sp × List Pl × Bool × ByteArray × Int
/-- What the reader and the check say of a value at i. -/
structure AgV (T : ByteArray) (i : Nat) (v : RV) (r : R2) : Prop where
  rd : Ev (fun k => spec_reader_value.f k T (i : Int)) v
  cd : Ev (fun k => fastjson_validateValue.f k (sx T i)) r
  tx : v.2.2.2.2.2.2.1 = T
  hi : 0 ≤ v.2.2.2.2.2.2.2 ∧ v.2.2.2.2.2.2.2 ≤ T.size
  en : v.2.2.2.2.2.1 = true → v.2.2.1 = v.2.2.2.2.2.2.2
  ob : v.2.2.2.2.2.1 = true → bt T i = 123 → v.1 = 6
  ag : (v.2.2.2.2.2.1 = true ∧ ∃ n : Nat, v.2.2.2.2.2.2.2 = n ∧ i < n ∧ n ≤ T.size ∧ r = (sx T n, none)) ∨
    (r.2.isSome = true ∧ (v.2.2.2.2.2.1 = true → bt T i ≠ 123 ∧ v.2.2.2.2.2.2.2 < T.size ∧ 48 ≤ bt T v.2.2.2.2.2.2.2 ∧ bt T v.2.2.2.2.2.2.2 ≤ 57))
def AgE (T : ByteArray) (i : Nat) (ok : Bool) (j : Int) (r : R2) : Prop := (ok = true ∧ ∃ n : Nat, j = n ∧ i < n ∧ n ≤ T.size ∧ r = (sx T n, none)) ∨ (ok = false ∧ r.2.isSome = true)
def QV (T : ByteArray) (d : Nat) : Prop := ∀ i : Nat, i ≤ T.size → T.size - i < d → ∃ v r, AgV T i v r
def QE (T : ByteArray) (d : Nat) : Prop := ∀ (a g : Nat) (acc : List Pl), Blk T a g → T.size - a < d → acc.length ≤ a →
  ∃ ks ok j r, Ev (fun k => spec_reader_elements.l0 k acc T (g : Int)) (ks, ok, T, j) ∧ Ev (fun k => fastjson_validateArray.l0 k (sx T a)) r ∧ 0 ≤ j ∧ j ≤ T.size ∧ AgE T a ok j r
def QM (T : ByteArray) (d : Nat) : Prop := ∀ (a g : Nat) (an : List Sp) (acc : List Pl), Blk T a g → T.size - a < d → acc.length ≤ a → an.length ≤ a →
  ∃ ns ks ok j r, Ev (fun k => spec_reader_members.l0 k an acc T (g : Int)) (ns, ks, ok, T, j) ∧ Ev (fun k => fastjson_validateObject.l0 k (sx T a)) r ∧ 0 ≤ j ∧ j ≤ T.size ∧ AgE T a ok j r
theorem blk_self {T : ByteArray} {a : Nat} {n : Nat} (h : Blk T a n) : Blk T (n : Int) n := ⟨by omega, h.hi, fun q _ _ => by omega, h.stop⟩
theorem hr_nat {T : ByteArray} {n : Nat} (h : n < T.size) : hr T (n : Int) = bt T n := hr_lt (by omega)
theorem q_arr (T : ByteArray) (hs : T.size ≤ 100000) (d : Nat) (he : QE T d) (i : Nat) (hi : i < T.size) (hd : T.size - i ≤ d) :
    ∃ ks ok j r, Ev (fun k => spec_reader_elements.f k T (i : Int)) (ks, ok, T, j) ∧ Ev (fun k => fastjson_validateArray.f k (sx T (i + 1))) r ∧ 0 ≤ j ∧ j ≤ T.size ∧ AgE T i ok j r := by
  obtain ⟨n, hn, e1, e2, hb⟩ := blanks_n T hs (i + 1) (by omega)
  have hle := hb.le
  have hz := sx_size T n
  have b0 := sx_bt0 T n
  have hw : wrap64 ((i : Int) + 1) = ((i + 1 : Nat) : Int) := w1 i (by omega)
  have st : ∀ k, fastjson_validateArray.f (k + 1) (sx T (i + 1)) = _ := fun k => by rw [fastjson_validateArray.f]
  have rd : ∀ v, Ev (fun k => (spec_reader_blanks.f k T ((i + 1 : Nat) : Int)).bind _) v → Ev (fun k => spec_reader_elements.f k T (i : Int)) v := fun v e => by
    refine Ev.step (fun k => by rw [spec_reader_elements.f]) ?_
    rw [hw]
    exact e
  clear hw
  by_cases c : n < T.size ∧ bt T n = 93
  · have hh := hr_nat c.1
    refine ⟨[], true, ((n : Int) + 1), (sx T (n + 1), none), rd _ (Ev.bind e2 (Ev.bd (take_yes (s := T) (i := (n : Int)) (c := 93) (by omega) (by omega) (by omega) (by omega)) (Ev.pos rfl (Ev.now _)))), Ev.step st (Ev.bind e1 ?_), by omega, by omega, .inl ⟨rfl, n + 1, by omega, by omega, by omega, rfl⟩⟩
    refine Ev.neg (by omega) (Ev.pos (by omega) (Ev.pos (by omega) (Ev.pos (by omega) (Ev.eq ?_ (Ev.now _)))))
    rw [sx_cut T n 1 (by omega)]
  · have c2 : hr T (n : Int) ≠ 93 := fun h => by
      obtain ⟨h1, h2⟩ := hr_ne (s := T) (i := (n : Int)) (by omega)
      exact c ⟨by omega, by omega⟩
    by_cases h0 : n = T.size
    · obtain ⟨ks, ok, j, r, e3, e4, h5, h6, h7⟩ := he n n [] (blk_self hb) (by omega) (by simp)
      have hk : ok = false := by
        rcases h7 with ⟨_, m, _, _, _, _⟩ | ⟨h7, _⟩
        · omega
        · exact h7
      refine ⟨ks, ok, j, (sx T n, some 0), rd _ (Ev.bind e2 (Ev.bd (take_no (s := T) (i := (n : Int)) (c := 93) (by omega) (by omega) (by omega) c2) (Ev.neg Bool.false_ne_true e3))), Ev.step st (Ev.bind e1 (Ev.pos (by omega) (e_err _ _))), h5, h6, .inr ⟨hk, rfl⟩⟩
    · obtain ⟨ks, ok, j, r, e3, e4, h5, h6, h7⟩ := he n n [] (blk_self hb) (by omega) (by simp)
      refine ⟨ks, ok, j, r, rd _ (Ev.bind e2 (Ev.bd (take_no (s := T) (i := (n : Int)) (c := 93) (by omega) (by omega) (by omega) c2) (Ev.neg Bool.false_ne_true e3))), Ev.step st (Ev.bind e1 (Ev.neg (by omega) (Ev.pos (by omega) (Ev.neg (fun h => c ⟨by omega, by omega⟩) e4)))), h5, h6, ?_⟩
      rcases h7 with ⟨h7, m, h8, h9, h10⟩ | h7
      · exact .inl ⟨h7, m, h8, by omega, h10⟩
      · exact .inr h7
theorem q_obj (T : ByteArray) (hs : T.size ≤ 100000) (d : Nat) (he : QM T d) (i : Nat) (hi : i < T.size) (hd : T.size - i ≤ d) :
    ∃ ns ks ok j r, Ev (fun k => spec_reader_members.f k T (i : Int)) (ns, ks, ok, T, j) ∧ Ev (fun k => fastjson_validateObject.f k (sx T (i + 1))) r ∧ 0 ≤ j ∧ j ≤ T.size ∧ AgE T i ok j r := by
  obtain ⟨n, hn, e1, e2, hb⟩ := blanks_n T hs (i + 1) (by omega)
  have hle := hb.le
  have hz := sx_size T n
  have b0 := sx_bt0 T n
  have hw : wrap64 ((i : Int) + 1) = ((i + 1 : Nat) : Int) := w1 i (by omega)
  have st : ∀ k, fastjson_validateObject.f (k + 1) (sx T (i + 1)) = _ := fun k => by rw [fastjson_validateObject.f]
  have rd : ∀ v, Ev (fun k => (spec_reader_blanks.f k T ((i + 1 : Nat) : Int)).bind _) v → Ev (fun k => spec_reader_members.f k T (i : Int)) v := fun v e => by
    refine Ev.step (fun k => by rw [spec_reader_members.f]) ?_
    rw [hw]
    exact e
  clear hw
  by_cases c : n < T.size ∧ bt T n = 125
  · have hh := hr_nat c.1
    refine ⟨[], [], true, ((n : Int) + 1), (sx T (n + 1), none), rd _ (Ev.bind e2 (Ev.bd (take_yes (s := T) (i := (n : Int)) (c := 125) (by omega) (by omega) (by omega) (by omega)) (Ev.pos rfl (Ev.now _)))), Ev.step st (Ev.bind e1 ?_), by omega, by omega, .inl ⟨rfl, n + 1, by omega, by omega, by omega, rfl⟩⟩
    refine Ev.neg (by omega) (Ev.pos (by omega) (Ev.pos (by omega) (Ev.pos (by omega) (Ev.eq ?_ (Ev.now _)))))
    rw [sx_cut T n 1 (by omega)]
  · have c2 : hr T (n : Int) ≠ 125 := fun h => by
      obtain ⟨h1, h2⟩ := hr_ne (s := T) (i := (n : Int)) (by omega)
      exact c ⟨by omega, by omega⟩
    by_cases h0 : n = T.size
    · obtain ⟨ns, ks, ok, j, r, e3, e4, h5, h6, h7⟩ := he n n [] [] (blk_self hb) (by omega) (by simp) (by simp)
      have hk : ok = false := by
        rcases h7 with ⟨_, m, _, _, _, _⟩ | ⟨h7, _⟩
        · omega
        · exact h7
      refine ⟨ns, ks, ok, j, (sx T n, some 0), rd _ (Ev.bind e2 (Ev.bd (take_no (s := T) (i := (n : Int)) (c := 125) (by omega) (by omega) (by omega) c2) (Ev.neg Bool.false_ne_true e3))), Ev.step st (Ev.bind e1 (Ev.pos (by omega) (e_err _ _))), h5, h6, .inr ⟨hk, rfl⟩⟩
    · obtain ⟨ns, ks, ok, j, r, e3, e4, h5, h6, h7⟩ := he n n [] [] (blk_self hb) (by omega) (by simp) (by simp)
      refine ⟨ns, ks, ok, j, r, rd _ (Ev.bind e2 (Ev.bd (take_no (s := T) (i := (n : Int)) (c := 125) (by omega) (by omega) (by omega) c2) (Ev.neg Bool.false_ne_true e3))), Ev.step st (Ev.bind e1 (Ev.neg (by omega) (Ev.pos (by omega) (Ev.neg (fun h => c ⟨by omega, by omega⟩) e4)))), h5, h6, ?_⟩
      rcases h7 with ⟨h7, m, h8, h9, h10⟩ | h7
      · exact .inl ⟨h7, m, h8, by omega, h10⟩
      · exact .inr h7
end Go.Proofs.YtdhiihegfdmokaaDoor.JFnFjCheckObject
