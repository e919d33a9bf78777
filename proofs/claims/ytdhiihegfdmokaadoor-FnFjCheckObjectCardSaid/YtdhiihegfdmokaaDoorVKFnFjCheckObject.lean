/- The reference's reader and fastjson's check of a value go over the same texts: the step from shorter to longer ones. -/
import Derived.Test.YtdhiihegfdmokaaDoorVJFnFjCheckObject
namespace Go.Proofs.YtdhiihegfdmokaaDoor.JFnFjCheckObject
open Go.RowKit Go.Proofs.YtdhiihegfdmokaaDoor.PFnFjCheckObject Go.Proofs.YtdhiihegfdmokaaDoorW.PrintWords Go.Proofs.YtdhiihegfdmokaaDoorW.PrintLast Go.Proofs.YtdhiihegfdmokaaDoorW.PrintMore
set_option linter.unusedSimpArgs false
set_option linter.unusedVariables false

theorem AgV.bad {T : ByteArray} {i : Nat} {kd b e j : Int} {ns : List Sp} {ks : List Pl} {x : ByteArray} (rd : Ev (fun k => spec_reader_value.f k T (i : Int)) (kd, b, e, ns, ks, false, T, j)) (cd : Ev (fun k => fastjson_validateValue.f k (sx T i)) (x, some 0)) (h0 : 0 ≤ j) (h1 : j ≤ T.size) : ∃ v r, AgV T i v r :=
  ⟨_, _, rd, cd, rfl, ⟨h0, h1⟩, fun h => (by cases h), fun h => (by cases h), .inr ⟨rfl, fun h => (by cases h)⟩⟩
theorem AgV.good {T : ByteArray} {i : Nat} {kd b : Int} {ns : List Sp} {ks : List Pl} {n : Nat} (rd : Ev (fun k => spec_reader_value.f k T (i : Int)) (kd, b, (n : Int), ns, ks, true, T, (n : Int))) (cd : Ev (fun k => fastjson_validateValue.f k (sx T i)) (sx T n, none)) (h0 : i < n) (h1 : n ≤ T.size) (h2 : bt T i = 123 → kd = 6) : ∃ v r, AgV T i v r :=
  ⟨_, _, rd, cd, rfl, ⟨(by show (0 : Int) ≤ (n : Int); omega), (by show (n : Int) ≤ T.size; omega)⟩, fun _ => rfl, fun _ => h2, .inl ⟨rfl, n, rfl, h0, h1, rfl⟩⟩
theorem first_ {T w : ByteArray} {i : Nat} (h : Word T i w) (hw : 0 < w.size) : bt T i = bt w 0 := by
  have := h.at_ (by omega) 0 hw
  simpa using this
/-- What the reader makes of what no bracket, no brace and no quotation mark begins. -/
theorem rd_else (T : ByteArray) (i : Nat) (c1 : hr T i ≠ 123) (c2 : hr T i ≠ 91) (c3 : hr T i ≠ 34) (nb : Bool) (hnb : nb = true ↔ hr T i = 45 ∨ (48 ≤ hr T i ∧ hr T i ≤ 57)) (v : RV)
    (e : Ev (fun k => spec_reader_value.j0 k true nb T (i : Int) 0 (i : Int) 0) v) : Ev (fun k => spec_reader_value.f k T (i : Int)) v := by
  have st := fun k => (show spec_reader_value.f (k + 1) T (i : Int) = _ by rw [spec_reader_value.f])
  by_cases c4 : hr T i = 45
  · obtain rfl : nb = true := hnb.2 (.inl c4)
    exact Ev.step st (Ev.bd (here_f T i (by omega)) (Ev.neg c1 (Ev.neg c2 (Ev.neg c3 (Ev.pos c4 e)))))
  by_cases c5 : 48 ≤ hr T i
  · obtain rfl : nb = decide (hr T i ≤ 57) := by
      by_cases h : hr T i ≤ 57
      · rw [decide_eq_true h]; exact hnb.2 (.inr ⟨c5, h⟩)
      · rw [decide_eq_false h]
        cases nb with
        | false => rfl
        | true => have := hnb.1 rfl; omega
    exact Ev.step st (Ev.bd (here_f T i (by omega)) (Ev.neg c1 (Ev.neg c2 (Ev.neg c3 (Ev.neg c4 (Ev.pos c5 e))))))
  · obtain rfl : nb = false := by
      cases nb with
      | false => rfl
      | true => have := hnb.1 rfl; omega
    exact Ev.step st (Ev.bd (here_f T i (by omega)) (Ev.neg c1 (Ev.neg c2 (Ev.neg c3 (Ev.neg c4 (Ev.neg c5 e))))))
/-- .. where no number begins: a word, or nothing. -/
theorem rd_word (T : ByteArray) (hs : T.size ≤ 100000) (i : Nat) (hi : i ≤ T.size) (c1 : hr T i ≠ 123) (c2 : hr T i ≠ 91) (c3 : hr T i ≠ 34) (c4 : ¬ (hr T i = 45 ∨ (48 ≤ hr T i ∧ hr T i ≤ 57))) :
    (Word T i wNull ∧ Ev (fun k => spec_reader_value.f k T (i : Int)) (0, (i : Int), ((i + 4 : Nat) : Int), [], [], true, T, ((i + 4 : Nat) : Int))) ∨
    (Word T i wFalse ∧ Ev (fun k => spec_reader_value.f k T (i : Int)) (1, (i : Int), ((i + 5 : Nat) : Int), [], [], true, T, ((i + 5 : Nat) : Int))) ∨
    (Word T i wTrue ∧ Ev (fun k => spec_reader_value.f k T (i : Int)) (2, (i : Int), ((i + 4 : Nat) : Int), [], [], true, T, ((i + 4 : Nat) : Int))) ∨
    (¬ Word T i wNull ∧ ¬ Word T i wFalse ∧ ¬ Word T i wTrue ∧ Ev (fun k => spec_reader_value.f k T (i : Int)) (0, (i : Int), (i : Int), [], [], false, T, (i : Int))) := by
  have go : ∀ v, Ev (fun k => spec_reader_value.j0 k true false T (i : Int) 0 (i : Int) 0) v → Ev (fun k => spec_reader_value.f k T (i : Int)) v := fun v e =>
    rd_else T i c1 c2 c3 false ⟨fun h => absurd h Bool.false_ne_true, fun h => absurd h c4⟩ v e
  rcases word_f T wNull (by omega) (by decide) i (by omega) (by omega) with ⟨hw, e1⟩ | ⟨hw, e1⟩
  · refine .inl ⟨hw, go _ ?_⟩
    exact Ev.step (fun k => by rw [spec_reader_value.j0]) (Ev.neg Bool.false_ne_true (Ev.bd e1 (Ev.pos rfl (Ev.now _))))
  rcases word_f T wFalse (by omega) (by decide) i (by omega) (by omega) with ⟨hw2, e2⟩ | ⟨hw2, e2⟩
  · refine .inr (.inl ⟨hw2, go _ ?_⟩)
    exact Ev.step (fun k => by rw [spec_reader_value.j0]) (Ev.neg Bool.false_ne_true (Ev.bd e1 (Ev.neg Bool.false_ne_true (Ev.bd e2 (Ev.pos rfl (Ev.now _))))))
  rcases word_f T wTrue (by omega) (by decide) i (by omega) (by omega) with ⟨hw3, e3⟩ | ⟨hw3, e3⟩
  · refine .inr (.inr (.inl ⟨hw3, go _ ?_⟩))
    exact Ev.step (fun k => by rw [spec_reader_value.j0]) (Ev.neg Bool.false_ne_true (Ev.bd e1 (Ev.neg Bool.false_ne_true (Ev.bd e2 (Ev.neg Bool.false_ne_true (Ev.bd e3 (Ev.pos rfl (Ev.now _))))))))
  · refine .inr (.inr (.inr ⟨hw, hw2, hw3, go _ ?_⟩))
    refine Ev.step (fun k => by rw [spec_reader_value.j0]) (Ev.neg Bool.false_ne_true (Ev.bd e1 (Ev.neg Bool.false_ne_true (Ev.bd e2 (Ev.neg Bool.false_ne_true (Ev.bd e3 ?_))))))
    exact Ev.neg Bool.false_ne_true (Ev.now _)
theorem qv_word (T : ByteArray) (hs : T.size ≤ 100000) (i : Nat) (hi : i < T.size) (w : ByteArray) (n : Nat) (hn : w.size = n) (hn0 : 0 < n) (kd : Int) (hw : bt T i = bt w 0) (cl : bt w 0 = 110 ∨ bt w 0 = 102 ∨ bt w 0 = 116)
    (rd : (Word T i w → Ev (fun k => spec_reader_value.f k T (i : Int)) (kd, (i : Int), ((i + n : Nat) : Int), [], [], true, T, ((i + n : Nat) : Int))) ∧ (¬ Word T i w → Ev (fun k => spec_reader_value.f k T (i : Int)) (0, (i : Int), (i : Int), [], [], false, T, (i : Int))))
    (L : List UInt8) (hL : w.toList = L)
    (cd : ∀ r, Ev (fun k => if ((sx T i).size : Int) < (n : Int) then ((errors_New.f (⟨#[117, 110, 101, 120, 112, 101, 99, 116, 101, 100, 32, 118, 97, 108, 117, 101, 32, 102, 111, 117, 110, 100]⟩ : ByteArray)).bind fun t358 => (some (sx T i, t358))) else (if (0 : Int) ≤ (n : Int) then (if (n : Int) ≤ ((sx T i).size : Int) then (if ((sx T i).extract 0 n).toList = L then (some ((sx T i).extract n (sx T i).size, none)) else ((errors_New.f (⟨#[117, 110, 101, 120, 112, 101, 99, 116, 101, 100, 32, 118, 97, 108, 117, 101, 32, 102, 111, 117, 110, 100]⟩ : ByteArray)).bind fun t359 => (some (sx T i, t359)))) else (none)) else (none))) r → Ev (fun k => fastjson_validateValue.f k (sx T i)) r) : ∃ v r, AgV T i v r := by
  have hz := sx_size T i
  by_cases l : ((sx T i).size : Int) < (n : Int)
  · exact AgV.bad (rd.2 (fun h => by have := h.hi; omega)) (cd _ (Ev.pos l (e_err _ _))) (by omega) (by omega)
  have hwi := word_iff T w i n hn (by omega)
  rw [hL] at hwi
  by_cases hw2 : Word T i w
  · refine AgV.good (rd.1 hw2) (cd _ (Ev.neg l (Ev.pos (by omega) (Ev.pos (by omega) (Ev.pos (hwi.2 hw2) (Ev.eq ?_ (Ev.now _))))))) (by omega) (by omega) (fun h => by omega)
    rw [sx_cut T i n (by omega)]
  · exact AgV.bad (rd.2 hw2) (cd _ (Ev.neg l (Ev.pos (by omega) (Ev.pos (by omega) (Ev.neg (fun h => hw2 (hwi.1 h)) (e_err _ _)))))) (by omega) (by omega)
theorem qv_step (T : ByteArray) (hs : T.size ≤ 100000) (hst : CtlOk T) (d : Nat) (he : QE T d) (hm : QM T d) : QV T (d + 1) := by
  intro i hi hd
  have hz := sx_size T i
  have b0 := sx_bt0 T i
  have st : ∀ k, fastjson_validateValue.f (k + 1) (sx T i) = _ := fun k => by rw [fastjson_validateValue.f]
  have sr := fun k => (show spec_reader_value.f (k + 1) T (i : Int) = _ by rw [spec_reader_value.f])
  by_cases h0 : i = T.size
  · have hh : hr T i = 0 := hr_ge (by omega)
    rcases rd_word T hs i hi (by omega) (by omega) (by omega) (by omega) with ⟨h, _⟩ | ⟨h, _⟩ | ⟨h, _⟩ | ⟨_, _, _, e⟩
    · have := h.hi; have : wNull.size = 4 := rfl; omega
    · have := h.hi; have : wFalse.size = 5 := rfl; omega
    · have := h.hi; have : wTrue.size = 4 := rfl; omega
    · exact AgV.bad e (Ev.step st (Ev.pos (by omega) (e_err _ _))) (by omega) (by omega)
  have n0 : ¬ ((sx T i).size : Int) = 0 := by omega
  have p0 : 0 < ((sx T i).size : Int) := by omega
  have cut := sx_cut T i 1 (by omega)
  have hh : hr T i = bt T i := hr_lt (by omega)
  by_cases c1 : bt T i = 123
  · obtain ⟨ns, ks, ok, j, r, e1, e2, h1, h2, h3⟩ := q_obj T hs d hm i (by omega) (by omega)
    rw [← cut] at e2
    have rd : Ev (fun k => spec_reader_value.f k T (i : Int)) (6, (i : Int), j, ns, ks, ok, T, j) := Ev.step sr (Ev.bd (here_f T i (by omega)) (Ev.pos (by omega) (Ev.bind e1 (Ev.now _))))
    rcases h3 with ⟨rfl, n, rfl, h4, h5, rfl⟩ | ⟨rfl, h3⟩
    · exact AgV.good rd (Ev.step st (Ev.neg n0 (Ev.pos p0 (Ev.pos (by omega) (Ev.pos (by omega) (Ev.bind e2 (Ev.pos rfl (Ev.now _)))))))) h4 h5 (fun _ => rfl)
    · exact AgV.bad rd (Ev.step st (Ev.neg n0 (Ev.pos p0 (Ev.pos (by omega) (Ev.pos (by omega) (Ev.bind e2 (Ev.neg (isNone_some h3) (e_err _ _)))))))) h1 h2
  by_cases c2 : bt T i = 91
  · obtain ⟨ks, ok, j, r, e1, e2, h1, h2, h3⟩ := q_arr T hs d he i (by omega) (by omega)
    rw [← cut] at e2
    have rd : Ev (fun k => spec_reader_value.f k T (i : Int)) (5, (i : Int), j, [], ks, ok, T, j) := Ev.step sr (Ev.bd (here_f T i (by omega)) (Ev.neg (by omega) (Ev.pos (by omega) (Ev.bind e1 (Ev.now _)))))
    rcases h3 with ⟨rfl, n, rfl, h4, h5, rfl⟩ | ⟨rfl, h3⟩
    · exact AgV.good rd (Ev.step st (Ev.neg n0 (Ev.pos p0 (Ev.neg (by omega) (Ev.pos (by omega) (Ev.pos (by omega) (Ev.bind e2 (Ev.pos rfl (Ev.now _))))))))) h4 h5 (fun h => absurd h c1)
    · exact AgV.bad rd (Ev.step st (Ev.neg n0 (Ev.pos p0 (Ev.neg (by omega) (Ev.pos (by omega) (Ev.pos (by omega) (Ev.bind e2 (Ev.neg (isNone_some h3) (e_err _ _))))))))) h1 h2
  by_cases c3 : bt T i = 34
  · have hz1 := sx_size T (i + 1)
    obtain ⟨r, e2, ho⟩ := str_out (sx T (i + 1)) (by omega)
    rw [← cut] at e2
    obtain ⟨ok, j, e1, h1, h2, h3⟩ := str_joint T hs hst i (by omega) r ho
    have rd : Ev (fun k => spec_reader_value.f k T (i : Int)) (4, (i : Int), j, [], [], ok, T, j) := Ev.step sr (Ev.bd (here_f T i (by omega)) (Ev.neg (by omega) (Ev.neg (by omega) (Ev.pos (by omega) (Ev.bind e1 (Ev.now _))))))
    have cd : ∀ x, Ev (fun k => if r.2.2.isNone = true then (fastjson_validateValue.l0 k r.1 r.2.1 (r.1.size : Int) 0) else ((errors_New.f (⟨#[99, 97, 110, 110, 111, 116, 32, 112, 97, 114, 115, 101, 32, 115, 116, 114, 105, 110, 103]⟩ : ByteArray)).bind fun t357 => (some (r.2.1, t357)))) x → Ev (fun k => fastjson_validateValue.f k (sx T i)) x := fun x e =>
      Ev.step st (Ev.neg n0 (Ev.pos p0 (Ev.neg (by omega) (Ev.neg (by omega) (Ev.pos (by omega) (Ev.pos (by omega) (Ev.bind e2 e)))))))
    rcases h3 with ⟨h3, rfl⟩ | ⟨sv, n, h4, h5, rfl, h6, h7, h8⟩
    · exact AgV.bad rd (cd _ (Ev.neg (isNone_some h3) (e_err _ _))) (by omega) h2
    · obtain ⟨x, ex, hx⟩ := ctl_v sv (sx T n) h6
      rcases hx with ⟨rfl, hx⟩ | ⟨rfl, hx⟩
      · obtain ⟨rfl, rfl⟩ := h7 hx
        exact AgV.good rd (cd _ (Ev.pos rfl ex)) h4 h5 (fun h => absurd h c1)
      · obtain rfl := h8 hx
        exact AgV.bad rd (cd _ (Ev.pos rfl ex)) (by omega) h2
  have w1 : wNull.size = 4 := rfl
  have w2 : wFalse.size = 5 := rfl
  have w3 : wTrue.size = 4 := rfl
  have f1 : bt wNull 0 = 110 := by decide
  have f2 : bt wFalse 0 = 102 := by decide
  have f3 : bt wTrue 0 = 116 := by decide
  by_cases c4 : bt T i = 116
  · refine qv_word T hs i (by omega) wTrue 4 w3 (by omega) 2 (by omega) (by omega) ?_ [116, 114, 117, 101] (by rw [ByteArray.toList_eq]) (fun r e => Ev.step st (Ev.neg n0 (Ev.pos p0 (Ev.neg (by omega) (Ev.neg (by omega) (Ev.neg (by omega) (Ev.pos (by omega) e)))))))
    rcases rd_word T hs i hi (by omega) (by omega) (by omega) (by omega) with ⟨h, _⟩ | ⟨h, _⟩ | ⟨h, e⟩ | ⟨_, _, h, e⟩
    · have := first_ h (by omega); omega
    · have := first_ h (by omega); omega
    · exact ⟨fun _ => e, fun h2 => absurd h h2⟩
    · exact ⟨fun h2 => absurd h2 h, fun _ => e⟩
  by_cases c5 : bt T i = 102
  · refine qv_word T hs i (by omega) wFalse 5 w2 (by omega) 1 (by omega) (by omega) ?_ [102, 97, 108, 115, 101] (by rw [ByteArray.toList_eq]) (fun r e => Ev.step st (Ev.neg n0 (Ev.pos p0 (Ev.neg (by omega) (Ev.neg (by omega) (Ev.neg (by omega) (Ev.neg (by omega) (Ev.pos (by omega) e))))))))
    rcases rd_word T hs i hi (by omega) (by omega) (by omega) (by omega) with ⟨h, _⟩ | ⟨h, e⟩ | ⟨h, _⟩ | ⟨_, h, _, e⟩
    · have := first_ h (by omega); omega
    · exact ⟨fun _ => e, fun h2 => absurd h h2⟩
    · have := first_ h (by omega); omega
    · exact ⟨fun h2 => absurd h2 h, fun _ => e⟩
  by_cases c6 : bt T i = 110
  · refine qv_word T hs i (by omega) wNull 4 w1 (by omega) 0 (by omega) (by omega) ?_ [110, 117, 108, 108] (by rw [ByteArray.toList_eq]) (fun r e => Ev.step st (Ev.neg n0 (Ev.pos p0 (Ev.neg (by omega) (Ev.neg (by omega) (Ev.neg (by omega) (Ev.neg (by omega) (Ev.neg (by omega) (Ev.pos (by omega) e)))))))))
    rcases rd_word T hs i hi (by omega) (by omega) (by omega) (by omega) with ⟨h, e⟩ | ⟨h, _⟩ | ⟨h, _⟩ | ⟨h, _, _, e⟩
    · exact ⟨fun _ => e, fun h2 => absurd h h2⟩
    · have := first_ h (by omega); omega
    · have := first_ h (by omega); omega
    · exact ⟨fun h2 => absurd h2 h, fun _ => e⟩
  · obtain ⟨r, e2, ho⟩ := num_out T hs i hi
    have cd : ∀ x, Ev (fun k => if r.2.isNone = true then (some (r.1, none)) else ((errors_New.f (⟨#[99, 97, 110, 110, 111, 116, 32, 112, 97, 114, 115, 101, 32, 110, 117, 109, 98, 101, 114]⟩ : ByteArray)).bind fun t367 => (some (r.1, t367)))) x → Ev (fun k => fastjson_validateValue.f k (sx T i)) x := fun x e =>
      Ev.step st (Ev.neg n0 (Ev.pos p0 (Ev.neg (by omega) (Ev.neg (by omega) (Ev.neg (by omega) (Ev.neg (by omega) (Ev.neg (by omega) (Ev.neg (by omega) (Ev.bind e2 e)))))))))
    by_cases c7 : bt T i = 45 ∨ (48 ≤ bt T i ∧ bt T i ≤ 57)
    · obtain ⟨ok, j, e1, h1, h2, h3⟩ := num_joint T hs i hi r ho
      have rd : Ev (fun k => spec_reader_value.f k T (i : Int)) (3, (i : Int), j, [], [], ok, T, j) := by
        refine rd_else T i (by omega) (by omega) (by omega) true ⟨fun _ => (by rw [hh]; exact c7), fun _ => rfl⟩ _ ?_
        exact Ev.step (fun k => by rw [spec_reader_value.j0]) (Ev.pos rfl (Ev.bind e1 (Ev.now _)))
      rcases h3 with ⟨rfl, n, rfl, h4, h5, rfl⟩ | ⟨h3, h4⟩
      · exact AgV.good rd (cd _ (Ev.pos rfl (Ev.now _))) h4 h5 (fun h => absurd h c1)
      · exact ⟨_, _, rd, cd _ (Ev.neg (isNone_some h3) (e_err _ _)), rfl, ⟨(by show (0 : Int) ≤ j; omega), h2⟩, fun _ => rfl, fun _ h => absurd h c1, .inr ⟨rfl, fun h => ⟨c1, h4 h⟩⟩⟩
    · have hbad : r.2.isSome = true := by
        rcases ho with ⟨h, _⟩ | ⟨n, _, _, _, h⟩
        · exact h
        · exact absurd (num_first T i n (by omega) h) c7
      rcases rd_word T hs i hi (by omega) (by omega) (by omega) (by omega) with ⟨h, _⟩ | ⟨h, _⟩ | ⟨h, _⟩ | ⟨_, _, _, e⟩
      · have := first_ h (by omega); omega
      · have := first_ h (by omega); omega
      · have := first_ h (by omega); omega
      · exact AgV.bad e (cd _ (Ev.neg (isNone_some hbad) (e_err _ _))) (by omega) (by omega)
/-- No blank stands at a digit. -/
theorem digit_end {T : ByteArray} {j : Int} (h : 48 ≤ bt T j ∧ bt T j ≤ 57) {f : Int} (hf : Blk T j f) : f = j := by
  have := hf.le
  by_cases e : f = j
  · exact e
  · have := hf.all j (by omega) (by omega)
    unfold IsBl at this; omega
theorem qe_step (T : ByteArray) (hs : T.size ≤ 100000) (d : Nat) (hv : QV T (d + 1)) (he : QE T d) : QE T (d + 1) := by
  intro a g acc hg hd hacc
  have hg0 := hg.le; have hg1 := hg.hi
  obtain ⟨n, hn, e1, hb⟩ := skip_at T hs a (by omega)
  obtain rfl : g = n := by have := hg.uniq hb; omega
  have st : ∀ k, fastjson_validateArray.l0 (k + 1) (sx T a) = _ := fun k => by rw [fastjson_validateArray.l0]
  have sr := fun k => (show spec_reader_elements.l0 (k + 1) acc T (g : Int) = _ by rw [spec_reader_elements.l0])
  obtain ⟨⟨kd, b, e, ns, ks, ok, T', j⟩, r, rd, cd, tx, hj, en, _, ag⟩ := hv g hn (by omega)
  dsimp only at rd cd tx hj en ag
  subst tx
  rcases ag with ⟨rfl, n, rfl, h1, h2, rfl⟩ | ⟨h1, h2⟩
  · obtain rfl := en rfl
    obtain ⟨f, hf, ef1, ef2, hbf⟩ := blanks_n T' hs n h2
    have := hbf.le
    have hzf := sx_size T' f
    have bf0 := sx_bt0 T' f
    by_cases hf0 : f = T'.size
    · have hh : hr T' f = 0 := hr_ge (by omega)
      exact ⟨_, false, (f : Int), _, Ev.step sr (Ev.bind rd (Ev.pos rfl (Ev.pos (by omega) (Ev.bd rfl (Ev.bind ef2 (Ev.bd (take_no (s := T') (i := (f : Int)) (c := 93) (by omega) (by omega) (by omega) (by omega)) (Ev.neg Bool.false_ne_true (Ev.bd (take_no (s := T') (i := (f : Int)) (c := 44) (by omega) (by omega) (by omega) (by omega)) (Ev.neg Bool.false_ne_true (Ev.now _)))))))))), Ev.step st (Ev.bind e1 (Ev.bind cd (Ev.pos rfl (Ev.bind ef1 (Ev.pos (by omega) (e_err _ _)))))), by omega, by omega, .inr ⟨rfl, rfl⟩⟩
    have hh : hr T' f = bt T' f := hr_lt (by omega)
    have cutf := sx_cut T' f 1 (by omega)
    by_cases c1 : bt T' f = 44
    · obtain ⟨g2, hg2, eg1, eg2, hbg⟩ := blanks_n T' hs (f + 1) (by omega)
      obtain ⟨ks2, ok2, j2, r2, er, ec, h3, h4, h5⟩ := he (f + 1) g2 (acc ++ [(⟨kd, b, (n : Int), ns, ks⟩ : Pl)]) hbg (by omega) (by simp; omega)
      rw [← cutf] at ec
      rw [show ((f + 1 : Nat) : Int) = (f : Int) + 1 by omega] at eg2
      refine ⟨ks2, ok2, j2, r2, Ev.step sr (Ev.bind rd (Ev.pos rfl (Ev.pos (by omega) (Ev.bd rfl (Ev.bind ef2 (Ev.bd (take_no (s := T') (i := (f : Int)) (c := 93) (by omega) (by omega) (by omega) (by omega)) (Ev.neg Bool.false_ne_true (Ev.bd (take_yes (s := T') (i := (f : Int)) (c := 44) (by omega) (by omega) (by omega) (by omega)) (Ev.pos rfl (Ev.bind eg2 er)))))))))), Ev.step st (Ev.bind e1 (Ev.bind cd (Ev.pos rfl (Ev.bind ef1 (Ev.neg (by omega) (Ev.pos (by omega) (Ev.pos (by omega) (Ev.pos (by omega) ec)))))))), h3, h4, ?_⟩
      rcases h5 with ⟨h5, m, h6, h7, h8⟩ | h5
      · exact .inl ⟨h5, m, h6, by omega, h8⟩
      · exact .inr h5
    by_cases c2 : bt T' f = 93
    · exact ⟨_, true, ((f : Int) + 1), _, Ev.step sr (Ev.bind rd (Ev.pos rfl (Ev.pos (by omega) (Ev.bd rfl (Ev.bind ef2 (Ev.bd (take_yes (s := T') (i := (f : Int)) (c := 93) (by omega) (by omega) (by omega) (by omega)) (Ev.pos rfl (Ev.now _)))))))), Ev.step st (Ev.bind e1 (Ev.bind cd (Ev.pos rfl (Ev.bind ef1 (Ev.neg (by omega) (Ev.pos (by omega) (Ev.neg (by omega) (Ev.pos (by omega) (Ev.pos (by omega) (Ev.now _)))))))))), by omega, by omega, .inl ⟨rfl, f + 1, by omega, by omega, by omega, by rw [cutf]⟩⟩
    · exact ⟨_, false, (f : Int), _, Ev.step sr (Ev.bind rd (Ev.pos rfl (Ev.pos (by omega) (Ev.bd rfl (Ev.bind ef2 (Ev.bd (take_no (s := T') (i := (f : Int)) (c := 93) (by omega) (by omega) (by omega) (by omega)) (Ev.neg Bool.false_ne_true (Ev.bd (take_no (s := T') (i := (f : Int)) (c := 44) (by omega) (by omega) (by omega) (by omega)) (Ev.neg Bool.false_ne_true (Ev.now _)))))))))), Ev.step st (Ev.bind e1 (Ev.bind cd (Ev.pos rfl (Ev.bind ef1 (Ev.neg (by omega) (Ev.pos (by omega) (Ev.neg (by omega) (Ev.neg (by omega) (e_err _ _))))))))), by omega, by omega, .inr ⟨rfl, rfl⟩⟩
  · have cx : ∃ x, Ev (fun k => fastjson_validateArray.l0 k (sx T' a)) (x, some 0) := ⟨_, Ev.step st (Ev.bind e1 (Ev.bind cd (Ev.neg (isNone_some h1) (e_err _ _))))⟩
    obtain ⟨x, cx⟩ := cx
    cases ok with
    | false => exact ⟨[], false, j, _, Ev.step sr (Ev.bind rd (Ev.neg Bool.false_ne_true (Ev.now _))), cx, hj.1, hj.2, .inr ⟨rfl, rfl⟩⟩
    | true =>
      obtain rfl := en rfl
      obtain ⟨_, hl, hdg⟩ := h2 rfl
      obtain ⟨f, ef, hbf⟩ := blanks_f_ev T' (by omega) e hj.1 hj.2
      obtain rfl := digit_end hdg hbf
      have hh : hr T' f = bt T' f := hr_lt (by omega)
      exact ⟨_, false, f, _, Ev.step sr (Ev.bind rd (Ev.pos rfl (Ev.pos (by omega) (Ev.bd rfl (Ev.bind ef (Ev.bd (take_no (s := T') (i := f) (c := 93) (by omega) (by omega) (by omega) (by omega)) (Ev.neg Bool.false_ne_true (Ev.bd (take_no (s := T') (i := f) (c := 44) (by omega) (by omega) (by omega) (by omega)) (Ev.neg Bool.false_ne_true (Ev.now _)))))))))), cx, hj.1, hj.2, .inr ⟨rfl, rfl⟩⟩
end Go.Proofs.YtdhiihegfdmokaaDoor.JFnFjCheckObject
