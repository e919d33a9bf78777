/- fastjson's check of a value comes to an end, and leaves an end of the text. -/
import Derived.Test.YtdhiihegfdmokaaDoorVNFnFjValidBytes
namespace Go.Proofs.YtdhiihegfdmokaaDoor.JFnFjValidBytes
open Go.RowKit Go.Proofs.YtdhiihegfdmokaaDoor.PFnFjValidBytes Go.Proofs.YtdhiihegfdmokaaDoorW.PrintWords Go.Proofs.YtdhiihegfdmokaaDoorW.PrintLast Go.Proofs.YtdhiihegfdmokaaDoorW.PrintMore
set_option linter.unusedSimpArgs false
set_option linter.unusedVariables false

theorem e_err (m x : ByteArray) : Ev (fun _ => (errors_New.f m).bind fun t => some (x, t)) (x, some 0) := Ev.bd (err_new m) (Ev.now _)
/-- The look for control characters in a string. -/
theorem ctl_v (sv tail : ByteArray) (hs : sv.size ≤ 100000) : ∃ r, Ev (fun k => fastjson_validateValue.l0 k sv tail (sv.size : Int) 0) r ∧ ((r = (tail, none) ∧ ∀ q : Nat, q < sv.size → 32 ≤ bt sv q) ∨ (r = (tail, some 0) ∧ ∃ q : Nat, q < sv.size ∧ bt sv q < 32)) := by
  have go : ∀ d i : Nat, sv.size - i = d → i ≤ sv.size → (∀ q : Nat, q < i → 32 ≤ bt sv q) → ∃ r, Ev (fun k => fastjson_validateValue.l0 k sv tail (sv.size : Int) (i : Int)) r ∧ ((r = (tail, none) ∧ ∀ q : Nat, q < sv.size → 32 ≤ bt sv q) ∨ (r = (tail, some 0) ∧ ∃ q : Nat, q < sv.size ∧ bt sv q < 32)) := by
    intro d
    induction d with
    | zero =>
      intro i hd hi hq
      exact ⟨(tail, none), Ev.step (fun k => by rw [fastjson_validateValue.l0]) (Ev.neg (by omega) (Ev.now _)), .inl ⟨rfl, fun q h => hq q (by omega)⟩⟩
    | succ d ih =>
      intro i hd hi hq
      by_cases c : bt sv i < 32
      · exact ⟨(tail, some 0), Ev.step (fun k => by rw [fastjson_validateValue.l0]) (Ev.pos (by omega) (Ev.pos (by omega) (Ev.pos (by omega) (Ev.pos c (e_err _ _))))), .inr ⟨rfl, i, by omega, c⟩⟩
      · obtain ⟨r, e, h⟩ := ih (i + 1) (by omega) (by omega) (fun q h => by
          by_cases e : q = i
          · rw [e]; omega
          · exact hq q (by omega))
        refine ⟨r, Ev.step (fun k => by rw [fastjson_validateValue.l0]) (Ev.pos (by omega) (Ev.pos (by omega) (Ev.pos (by omega) (Ev.neg c ?_)))), h⟩
        rw [w1 i (by omega)]
        exact e
  exact go sv.size 0 (by omega) (by omega) (fun q h => by omega)
theorem ctl_k (sv tail : ByteArray) (hs : sv.size ≤ 100000) : (Ev (fun k => fastjson_validateObject.l1 k tail sv (sv.size : Int) 0) (tail, some 0) ∧ ∃ q : Nat, q < sv.size ∧ bt sv q < 32) ∨
    ((∀ q : Nat, q < sv.size → 32 ≤ bt sv q) ∧ ∀ r, Ev (fun k => (fastjson_skipWS.f k tail).bind fun t332 => (if (t332.size : Int) = 0 then (fastjson_validateObject.j3 k t332 true) else (if 0 < (t332.size : Int) then (fastjson_validateObject.j3 k t332 ((bt t332 0) != 58)) else (none)))) r → Ev (fun k => fastjson_validateObject.l1 k tail sv (sv.size : Int) 0) r) := by
  have go : ∀ d i : Nat, sv.size - i = d → i ≤ sv.size → (∀ q : Nat, q < i → 32 ≤ bt sv q) → (Ev (fun k => fastjson_validateObject.l1 k tail sv (sv.size : Int) (i : Int)) (tail, some 0) ∧ ∃ q : Nat, q < sv.size ∧ bt sv q < 32) ∨
    ((∀ q : Nat, q < sv.size → 32 ≤ bt sv q) ∧ ∀ r, Ev (fun k => (fastjson_skipWS.f k tail).bind fun t332 => (if (t332.size : Int) = 0 then (fastjson_validateObject.j3 k t332 true) else (if 0 < (t332.size : Int) then (fastjson_validateObject.j3 k t332 ((bt t332 0) != 58)) else (none)))) r → Ev (fun k => fastjson_validateObject.l1 k tail sv (sv.size : Int) (i : Int)) r) := by
    intro d
    induction d with
    | zero =>
      intro i hd hi hq
      exact .inr ⟨fun q h => hq q (by omega), fun r e => Ev.step (fun k => by rw [fastjson_validateObject.l1]) (Ev.neg (by omega) e)⟩
    | succ d ih =>
      intro i hd hi hq
      by_cases c : bt sv i < 32
      · exact .inl ⟨Ev.step (fun k => by rw [fastjson_validateObject.l1]) (Ev.pos (by omega) (Ev.pos (by omega) (Ev.pos (by omega) (Ev.pos c (e_err _ _))))), i, by omega, c⟩
      · have st : ∀ r, Ev (fun k => fastjson_validateObject.l1 k tail sv (sv.size : Int) ((i + 1 : Nat) : Int)) r → Ev (fun k => fastjson_validateObject.l1 k tail sv (sv.size : Int) (i : Int)) r := fun r e => by
          refine Ev.step (fun k => by rw [fastjson_validateObject.l1]) (Ev.pos (by omega) (Ev.pos (by omega) (Ev.pos (by omega) (Ev.neg c ?_))))
          rw [w1 i (by omega)]
          exact e
        rcases ih (i + 1) (by omega) (by omega) (fun q h => by
          by_cases e : q = i
          · rw [e]; omega
          · exact hq q (by omega)) with ⟨e, h⟩ | ⟨h, k⟩
        · exact .inl ⟨st _ e, h⟩
        · exact .inr ⟨h, fun r e => st r (k r e)⟩
  exact go sv.size 0 (by omega) (by omega) (fun q h => by omega)
theorem sx_bt0 (T : ByteArray) (i : Nat) : bt (sx T i) 0 = bt T i := by
  have := sx_nat T i 0
  simpa using this
/-- What a check leaves, if there is no error. -/
def Lv (T : ByteArray) (i : Nat) (r : R2) : Prop := r.2 = none → ∃ j : Nat, i < j ∧ j ≤ T.size ∧ r.1 = sx T j
theorem Lv.err (T : ByteArray) (i : Nat) (x : ByteArray) : Lv T i (x, some 0) := fun h => by cases h
def TV (T : ByteArray) (d : Nat) : Prop := ∀ i : Nat, i ≤ T.size → T.size - i < d → ∃ r, Ev (fun k => fastjson_validateValue.f k (sx T i)) r ∧ Lv T i r
def TE (T : ByteArray) (d : Nat) : Prop := ∀ i : Nat, i ≤ T.size → T.size - i < d → ∃ r, Ev (fun k => fastjson_validateArray.l0 k (sx T i)) r ∧ Lv T i r
def TM (T : ByteArray) (d : Nat) : Prop := ∀ i : Nat, i ≤ T.size → T.size - i < d → ∃ r, Ev (fun k => fastjson_validateObject.l0 k (sx T i)) r ∧ Lv T i r
theorem t_obj (T : ByteArray) (hs : T.size ≤ 100000) (d : Nat) (hm : TM T d) (i : Nat) (hi : i ≤ T.size) (hd : T.size - i < d) : ∃ r, Ev (fun k => fastjson_validateObject.f k (sx T i)) r ∧ Lv T i r := by
  obtain ⟨n, hn, e, hb⟩ := skip_at T hs i hi
  have := hb.le
  have hz := sx_size T n
  have b0 := sx_bt0 T n
  have st : ∀ k, fastjson_validateObject.f (k + 1) (sx T i) = _ := fun k => by rw [fastjson_validateObject.f]
  by_cases h0 : n = T.size
  · exact ⟨_, Ev.step st (Ev.bind e (Ev.pos (by omega) (e_err _ _))), Lv.err _ _ _⟩
  by_cases c : bt T n = 125
  · refine ⟨_, Ev.step st (Ev.bind e (Ev.neg (by omega) (Ev.pos (by omega) (Ev.pos (by omega) (Ev.pos (by omega) (Ev.now _)))))), fun _ => ⟨n + 1, by omega, by omega, sx_cut T n 1 (by omega)⟩⟩
  · obtain ⟨r, e2, h2⟩ := hm n hn (by omega)
    refine ⟨r, Ev.step st (Ev.bind e (Ev.neg (by omega) (Ev.pos (by omega) (Ev.neg (by omega) e2)))), fun h => ?_⟩
    obtain ⟨j, h3, h4⟩ := h2 h
    exact ⟨j, by omega, h4⟩
theorem t_arr (T : ByteArray) (hs : T.size ≤ 100000) (d : Nat) (hm : TE T d) (i : Nat) (hi : i ≤ T.size) (hd : T.size - i < d) : ∃ r, Ev (fun k => fastjson_validateArray.f k (sx T i)) r ∧ Lv T i r := by
  obtain ⟨n, hn, e, hb⟩ := skip_at T hs i hi
  have := hb.le
  have hz := sx_size T n
  have b0 := sx_bt0 T n
  have st : ∀ k, fastjson_validateArray.f (k + 1) (sx T i) = _ := fun k => by rw [fastjson_validateArray.f]
  by_cases h0 : n = T.size
  · exact ⟨_, Ev.step st (Ev.bind e (Ev.pos (by omega) (e_err _ _))), Lv.err _ _ _⟩
  by_cases c : bt T n = 93
  · refine ⟨_, Ev.step st (Ev.bind e (Ev.neg (by omega) (Ev.pos (by omega) (Ev.pos (by omega) (Ev.pos (by omega) (Ev.now _)))))), fun _ => ⟨n + 1, by omega, by omega, sx_cut T n 1 (by omega)⟩⟩
  · obtain ⟨r, e2, h2⟩ := hm n hn (by omega)
    refine ⟨r, Ev.step st (Ev.bind e (Ev.neg (by omega) (Ev.pos (by omega) (Ev.neg (by omega) e2)))), fun h => ?_⟩
    obtain ⟨j, h3, h4⟩ := h2 h
    exact ⟨j, by omega, h4⟩
theorem isNone_of {o : Option Int} (h : o ≠ none) : ¬ o.isNone = true := by cases o <;> simp_all
theorem isNone_some {o : Option Int} (h : o.isSome = true) : ¬ o.isNone = true := by cases o <;> simp_all
theorem tv_step (T : ByteArray) (hs : T.size ≤ 100000) (d : Nat) (he : TE T d) (hm : TM T d) : TV T (d + 1) := by
  intro i hi hd
  have hz := sx_size T i
  have b0 := sx_bt0 T i
  have st : ∀ k, fastjson_validateValue.f (k + 1) (sx T i) = _ := fun k => by rw [fastjson_validateValue.f]
  by_cases h0 : i = T.size
  · exact ⟨_, Ev.step st (Ev.pos (by omega) (e_err _ _)), Lv.err _ _ _⟩
  have n0 : ¬ ((sx T i).size : Int) = 0 := by omega
  have p0 : 0 < ((sx T i).size : Int) := by omega
  have cut := sx_cut T i 1 (by omega)
  by_cases c1 : bt T i = 123
  · obtain ⟨r, e, h⟩ := t_obj T hs d hm (i + 1) (by omega) (by omega)
    rw [← cut] at e
    by_cases hr : r.2 = none
    · refine ⟨_, Ev.step st (Ev.neg n0 (Ev.pos p0 (Ev.pos (by omega) (Ev.pos (by omega) (Ev.bind e (Ev.pos (by rw [hr]; rfl) (Ev.now _))))))), fun _ => ?_⟩
      obtain ⟨j, h3, h4⟩ := h hr
      exact ⟨j, by omega, h4⟩
    · exact ⟨_, Ev.step st (Ev.neg n0 (Ev.pos p0 (Ev.pos (by omega) (Ev.pos (by omega) (Ev.bind e (Ev.neg (isNone_of hr) (e_err _ _))))))), Lv.err _ _ _⟩
  by_cases c2 : bt T i = 91
  · obtain ⟨r, e, h⟩ := t_arr T hs d he (i + 1) (by omega) (by omega)
    rw [← cut] at e
    by_cases hr : r.2 = none
    · refine ⟨_, Ev.step st (Ev.neg n0 (Ev.pos p0 (Ev.neg (by omega) (Ev.pos (by omega) (Ev.pos (by omega) (Ev.bind e (Ev.pos (by rw [hr]; rfl) (Ev.now _)))))))), fun _ => ?_⟩
      obtain ⟨j, h3, h4⟩ := h hr
      exact ⟨j, by omega, h4⟩
    · exact ⟨_, Ev.step st (Ev.neg n0 (Ev.pos p0 (Ev.neg (by omega) (Ev.pos (by omega) (Ev.pos (by omega) (Ev.bind e (Ev.neg (isNone_of hr) (e_err _ _)))))))), Lv.err _ _ _⟩
  by_cases c3 : bt T i = 34
  · have hz1 := sx_size T (i + 1)
    obtain ⟨r, e, h⟩ := str_out (sx T (i + 1)) (by omega)
    rw [← cut] at e
    rcases h with ⟨h, _⟩ | ⟨m, p, hmp, hp, hr, _, _, _⟩
    · exact ⟨_, Ev.step st (Ev.neg n0 (Ev.pos p0 (Ev.neg (by omega) (Ev.neg (by omega) (Ev.pos (by omega) (Ev.pos (by omega) (Ev.bind e (Ev.neg (isNone_some h) (e_err _ _))))))))), Lv.err _ _ _⟩
    · obtain ⟨r2, e2, h2⟩ := ctl_v r.1 r.2.1 (by rw [hr]; simp only [ByteArray.size_extract]; omega)
      refine ⟨r2, Ev.step st (Ev.neg n0 (Ev.pos p0 (Ev.neg (by omega) (Ev.neg (by omega) (Ev.pos (by omega) (Ev.pos (by omega) (Ev.bind e (Ev.pos (by rw [hr]; rfl) e2)))))))), fun hn => ?_⟩
      rcases h2 with ⟨rfl, _⟩ | ⟨rfl, _⟩
      · exact ⟨i + 1 + (p + 1), by omega, by omega, by rw [hr]; exact sx_cut T (i + 1) (p + 1) (by omega)⟩
      · cases hn
  by_cases c4 : bt T i = 116
  · by_cases l : ((sx T i).size : Int) < 4
    · exact ⟨_, Ev.step st (Ev.neg n0 (Ev.pos p0 (Ev.neg (by omega) (Ev.neg (by omega) (Ev.neg (by omega) (Ev.pos (by omega) (Ev.pos l (e_err _ _)))))))), Lv.err _ _ _⟩
    by_cases w : ((sx T i).extract 0 4).toList = ([116, 114, 117, 101] : List UInt8)
    · exact ⟨_, Ev.step st (Ev.neg n0 (Ev.pos p0 (Ev.neg (by omega) (Ev.neg (by omega) (Ev.neg (by omega) (Ev.pos (by omega) (Ev.neg l (Ev.pos (by omega) (Ev.pos (by omega) (Ev.pos w (Ev.now _))))))))))), fun _ => ⟨i + 4, by omega, by omega, sx_cut T i 4 (by omega)⟩⟩
    · exact ⟨_, Ev.step st (Ev.neg n0 (Ev.pos p0 (Ev.neg (by omega) (Ev.neg (by omega) (Ev.neg (by omega) (Ev.pos (by omega) (Ev.neg l (Ev.pos (by omega) (Ev.pos (by omega) (Ev.neg w (e_err _ _))))))))))), Lv.err _ _ _⟩
  by_cases c5 : bt T i = 102
  · by_cases l : ((sx T i).size : Int) < 5
    · exact ⟨_, Ev.step st (Ev.neg n0 (Ev.pos p0 (Ev.neg (by omega) (Ev.neg (by omega) (Ev.neg (by omega) (Ev.neg (by omega) (Ev.pos (by omega) (Ev.pos l (e_err _ _))))))))), Lv.err _ _ _⟩
    by_cases w : ((sx T i).extract 0 5).toList = ([102, 97, 108, 115, 101] : List UInt8)
    · exact ⟨_, Ev.step st (Ev.neg n0 (Ev.pos p0 (Ev.neg (by omega) (Ev.neg (by omega) (Ev.neg (by omega) (Ev.neg (by omega) (Ev.pos (by omega) (Ev.neg l (Ev.pos (by omega) (Ev.pos (by omega) (Ev.pos w (Ev.now _)))))))))))), fun _ => ⟨i + 5, by omega, by omega, sx_cut T i 5 (by omega)⟩⟩
    · exact ⟨_, Ev.step st (Ev.neg n0 (Ev.pos p0 (Ev.neg (by omega) (Ev.neg (by omega) (Ev.neg (by omega) (Ev.neg (by omega) (Ev.pos (by omega) (Ev.neg l (Ev.pos (by omega) (Ev.pos (by omega) (Ev.neg w (e_err _ _)))))))))))), Lv.err _ _ _⟩
  by_cases c6 : bt T i = 110
  · by_cases l : ((sx T i).size : Int) < 4
    · exact ⟨_, Ev.step st (Ev.neg n0 (Ev.pos p0 (Ev.neg (by omega) (Ev.neg (by omega) (Ev.neg (by omega) (Ev.neg (by omega) (Ev.neg (by omega) (Ev.pos (by omega) (Ev.pos l (e_err _ _)))))))))), Lv.err _ _ _⟩
    by_cases w : ((sx T i).extract 0 4).toList = ([110, 117, 108, 108] : List UInt8)
    · exact ⟨_, Ev.step st (Ev.neg n0 (Ev.pos p0 (Ev.neg (by omega) (Ev.neg (by omega) (Ev.neg (by omega) (Ev.neg (by omega) (Ev.neg (by omega) (Ev.pos (by omega) (Ev.neg l (Ev.pos (by omega) (Ev.pos (by omega) (Ev.pos w (Ev.now _))))))))))))), fun _ => ⟨i + 4, by omega, by omega, sx_cut T i 4 (by omega)⟩⟩
    · exact ⟨_, Ev.step st (Ev.neg n0 (Ev.pos p0 (Ev.neg (by omega) (Ev.neg (by omega) (Ev.neg (by omega) (Ev.neg (by omega) (Ev.neg (by omega) (Ev.pos (by omega) (Ev.neg l (Ev.pos (by omega) (Ev.pos (by omega) (Ev.neg w (e_err _ _))))))))))))), Lv.err _ _ _⟩
  · obtain ⟨r, e, h⟩ := num_out T hs i hi
    rcases h with ⟨h, _⟩ | ⟨j, h1, h2, hr, _⟩
    · exact ⟨_, Ev.step st (Ev.neg n0 (Ev.pos p0 (Ev.neg (by omega) (Ev.neg (by omega) (Ev.neg (by omega) (Ev.neg (by omega) (Ev.neg (by omega) (Ev.neg (by omega) (Ev.bind e (Ev.neg (isNone_some h) (e_err _ _))))))))))), Lv.err _ _ _⟩
    · exact ⟨_, Ev.step st (Ev.neg n0 (Ev.pos p0 (Ev.neg (by omega) (Ev.neg (by omega) (Ev.neg (by omega) (Ev.neg (by omega) (Ev.neg (by omega) (Ev.neg (by omega) (Ev.bind e (Ev.pos (by rw [hr]; rfl) (Ev.now _))))))))))), fun _ => ⟨j, h1, h2, by rw [hr]⟩⟩
theorem te_step (T : ByteArray) (hs : T.size ≤ 100000) (d : Nat) (hv : TV T (d + 1)) (he : TE T d) : TE T (d + 1) := by
  intro i hi hd
  obtain ⟨n, hn, e, hb⟩ := skip_at T hs i hi
  have := hb.le
  have st : ∀ k, fastjson_validateArray.l0 (k + 1) (sx T i) = _ := fun k => by rw [fastjson_validateArray.l0]
  obtain ⟨r, e2, h2⟩ := hv n hn (by omega)
  by_cases hr : r.2 = none
  · obtain ⟨j, h3, h4, h5⟩ := h2 hr
    obtain ⟨f, hf, e3, hb3⟩ := skip_at T hs j h4
    rw [← h5] at e3
    have := hb3.le
    have hz := sx_size T f
    have b0 := sx_bt0 T f
    have nn : r.2.isNone = true := by rw [hr]; rfl
    by_cases h0 : f = T.size
    · exact ⟨_, Ev.step st (Ev.bind e (Ev.bind e2 (Ev.pos nn (Ev.bind e3 (Ev.pos (by omega) (e_err _ _)))))), Lv.err _ _ _⟩
    have cut := sx_cut T f 1 (by omega)
    by_cases c1 : bt T f = 44
    · obtain ⟨r4, e4, h6⟩ := he (f + 1) (by omega) (by omega)
      rw [← cut] at e4
      refine ⟨r4, Ev.step st (Ev.bind e (Ev.bind e2 (Ev.pos nn (Ev.bind e3 (Ev.neg (by omega) (Ev.pos (by omega) (Ev.pos (by omega) (Ev.pos (by omega) e4)))))))), fun h => ?_⟩
      obtain ⟨j2, h7, h8⟩ := h6 h
      exact ⟨j2, by omega, h8⟩
    by_cases c2 : bt T f = 93
    · exact ⟨_, Ev.step st (Ev.bind e (Ev.bind e2 (Ev.pos nn (Ev.bind e3 (Ev.neg (by omega) (Ev.pos (by omega) (Ev.neg (by omega) (Ev.pos (by omega) (Ev.pos (by omega) (Ev.now _)))))))))), fun _ => ⟨f + 1, by omega, by omega, cut⟩⟩
    · exact ⟨_, Ev.step st (Ev.bind e (Ev.bind e2 (Ev.pos nn (Ev.bind e3 (Ev.neg (by omega) (Ev.pos (by omega) (Ev.neg (by omega) (Ev.neg (by omega) (e_err _ _))))))))), Lv.err _ _ _⟩
  · exact ⟨_, Ev.step st (Ev.bind e (Ev.bind e2 (Ev.neg (isNone_of hr) (e_err _ _)))), Lv.err _ _ _⟩
theorem tm_step (T : ByteArray) (hs : T.size ≤ 100000) (d : Nat) (hv : TV T d) (he : TM T d) : TM T (d + 1) := by
  intro i hi hd
  obtain ⟨n, hn, e, hb⟩ := skip_at T hs i hi
  have := hb.le
  have hz := sx_size T n
  have b0 := sx_bt0 T n
  have st : ∀ k, fastjson_validateObject.l0 (k + 1) (sx T i) = _ := fun k => by rw [fastjson_validateObject.l0]
  have bad : ∃ r, Ev (fun k => fastjson_validateObject.j1 k (sx T n) true) r ∧ Lv T i r := ⟨_, Ev.step (fun k => by rw [fastjson_validateObject.j1]) (Ev.pos rfl (e_err _ _)), Lv.err _ _ _⟩
  by_cases h0 : n = T.size
  · obtain ⟨r, e2, h2⟩ := bad
    exact ⟨r, Ev.step st (Ev.bind e (Ev.pos (by omega) e2)), h2⟩
  by_cases c0 : bt T n = 34
  · have b1 : (bt (sx T n) 0 != 34) = false := by rw [b0, c0]; rfl
    have cut := sx_cut T n 1 (by omega)
    have hz1 := sx_size T (n + 1)
    suffices h : ∃ r, Ev (fun k => fastjson_validateObject.j1 k (sx T n) false) r ∧ Lv T i r by
      obtain ⟨r, e2, h2⟩ := h
      exact ⟨r, Ev.step st (Ev.bind e (Ev.neg (by omega) (Ev.pos (by omega) (by rw [b1]; exact e2)))), h2⟩
    have st1 : ∀ k, fastjson_validateObject.j1 (k + 1) (sx T n) false = _ := fun k => by rw [fastjson_validateObject.j1]
    obtain ⟨r, e2, h⟩ := key_out (sx T (n + 1)) (by omega)
    rw [← cut] at e2
    rcases h with ⟨h, _⟩ | ⟨m, p, hmp, hp, hr, _, _, _⟩
    · exact ⟨_, Ev.step st1 (Ev.neg Bool.false_ne_true (Ev.pos (by omega) (Ev.bind e2 (Ev.neg (isNone_some h) (e_err _ _))))), Lv.err _ _ _⟩
    have cut2 : r.2.1 = sx T (n + 1 + (p + 1)) := by rw [hr]; exact sx_cut T (n + 1) (p + 1) (by omega)
    rcases ctl_k r.1 r.2.1 (by rw [hr]; simp only [ByteArray.size_extract]; omega) with ⟨e3, _⟩ | ⟨_, h3⟩
    · exact ⟨_, Ev.step st1 (Ev.neg Bool.false_ne_true (Ev.pos (by omega) (Ev.bind e2 (Ev.pos (by rw [hr]; rfl) e3)))), Lv.err _ _ _⟩
    suffices h : ∃ r', Ev (fun k => (fastjson_skipWS.f k r.2.1).bind fun t332 => (if (t332.size : Int) = 0 then (fastjson_validateObject.j3 k t332 true) else (if 0 < (t332.size : Int) then (fastjson_validateObject.j3 k t332 ((bt t332 0) != 58)) else (none)))) r' ∧ Lv T i r' by
      obtain ⟨r', e4, h4⟩ := h
      exact ⟨r', Ev.step st1 (Ev.neg Bool.false_ne_true (Ev.pos (by omega) (Ev.bind e2 (Ev.pos (by rw [hr]; rfl) (h3 r' e4))))), h4⟩
    obtain ⟨b, hbs, eb, hbb⟩ := skip_at T hs (n + 1 + (p + 1)) (by omega)
    rw [← cut2] at eb
    have := hbb.le
    have hzb := sx_size T b
    have bb0 := sx_bt0 T b
    by_cases hb0 : b = T.size
    · exact ⟨_, Ev.bind eb (Ev.pos (by omega) (Ev.step (fun k => by rw [fastjson_validateObject.j3]) (Ev.pos rfl (e_err _ _)))), Lv.err _ _ _⟩
    by_cases c1 : bt T b = 58
    · have b2 : (bt (sx T b) 0 != 58) = false := by rw [bb0, c1]; rfl
      suffices h : ∃ r', Ev (fun k => fastjson_validateObject.j3 k (sx T b) false) r' ∧ Lv T i r' by
        obtain ⟨r', e4, h4⟩ := h
        exact ⟨r', Ev.bind eb (Ev.neg (by omega) (Ev.pos (by omega) (by rw [b2]; exact e4))), h4⟩
      have st3 : ∀ k, fastjson_validateObject.j3 (k + 1) (sx T b) false = _ := fun k => by rw [fastjson_validateObject.j3]
      have cutb := sx_cut T b 1 (by omega)
      obtain ⟨c, hc, ec, hbc⟩ := skip_at T hs (b + 1) (by omega)
      rw [← cutb] at ec
      have := hbc.le
      obtain ⟨rv, ev, h5⟩ := hv c hc (by omega)
      by_cases hrv : rv.2 = none
      · obtain ⟨j, h6, h7, h8⟩ := h5 hrv
        obtain ⟨f, hf, ef, hbf⟩ := skip_at T hs j h7
        rw [← h8] at ef
        have := hbf.le
        have hzf := sx_size T f
        have bf0 := sx_bt0 T f
        have nn : rv.2.isNone = true := by rw [hrv]; rfl
        by_cases hf0 : f = T.size
        · exact ⟨_, Ev.step st3 (Ev.neg Bool.false_ne_true (Ev.pos (by omega) (Ev.bind ec (Ev.bind ev (Ev.pos nn (Ev.bind ef (Ev.pos (by omega) (e_err _ _)))))))), Lv.err _ _ _⟩
        have cutf := sx_cut T f 1 (by omega)
        by_cases c2 : bt T f = 44
        · obtain ⟨r4, e4, h9⟩ := he (f + 1) (by omega) (by omega)
          rw [← cutf] at e4
          refine ⟨r4, Ev.step st3 (Ev.neg Bool.false_ne_true (Ev.pos (by omega) (Ev.bind ec (Ev.bind ev (Ev.pos nn (Ev.bind ef (Ev.neg (by omega) (Ev.pos (by omega) (Ev.pos (by omega) (Ev.pos (by omega) e4)))))))))), fun h => ?_⟩
          obtain ⟨j2, h10, h11⟩ := h9 h
          exact ⟨j2, by omega, h11⟩
        by_cases c3 : bt T f = 125
        · exact ⟨_, Ev.step st3 (Ev.neg Bool.false_ne_true (Ev.pos (by omega) (Ev.bind ec (Ev.bind ev (Ev.pos nn (Ev.bind ef (Ev.neg (by omega) (Ev.pos (by omega) (Ev.neg (by omega) (Ev.pos (by omega) (Ev.pos (by omega) (Ev.now _)))))))))))), fun _ => ⟨f + 1, by omega, by omega, cutf⟩⟩
        · exact ⟨_, Ev.step st3 (Ev.neg Bool.false_ne_true (Ev.pos (by omega) (Ev.bind ec (Ev.bind ev (Ev.pos nn (Ev.bind ef (Ev.neg (by omega) (Ev.pos (by omega) (Ev.neg (by omega) (Ev.neg (by omega) (e_err _ _))))))))))), Lv.err _ _ _⟩
      · exact ⟨_, Ev.step st3 (Ev.neg Bool.false_ne_true (Ev.pos (by omega) (Ev.bind ec (Ev.bind ev (Ev.neg (isNone_of hrv) (e_err _ _)))))), Lv.err _ _ _⟩
    · have b2 : (bt (sx T b) 0 != 58) = true := by rw [bb0]; simp; omega
      refine ⟨_, Ev.bind eb (Ev.neg (by omega) (Ev.pos (by omega) ?_)), Lv.err T i (sx T b)⟩
      rw [b2]
      exact Ev.step (fun k => by rw [fastjson_validateObject.j3]) (Ev.pos rfl (e_err _ _))
  · have b1 : (bt (sx T n) 0 != 34) = true := by rw [b0]; simp; omega
    obtain ⟨r, e2, h2⟩ := bad
    exact ⟨r, Ev.step st (Ev.bind e (Ev.neg (by omega) (Ev.pos (by omega) (by rw [b1]; exact e2)))), h2⟩
theorem t_all (T : ByteArray) (hs : T.size ≤ 100000) (d : Nat) : TV T d ∧ TE T d ∧ TM T d := by
  induction d with
  | zero => exact ⟨fun i h0 hd => by omega, fun i h0 hd => by omega, fun i h0 hd => by omega⟩
  | succ d ih =>
    have hv := tv_step T hs d ih.2.1 ih.2.2
    exact ⟨hv, te_step T hs d hv ih.2.1, tm_step T hs d ih.1 ih.2.2⟩
end Go.Proofs.YtdhiihegfdmokaaDoor.JFnFjValidBytes
