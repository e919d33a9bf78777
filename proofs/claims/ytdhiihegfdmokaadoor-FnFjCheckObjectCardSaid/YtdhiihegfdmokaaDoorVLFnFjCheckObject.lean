/- The reference's reader and fastjson's check of a value go over the same texts: members, and all lengths. -/
import Derived.Test.YtdhiihegfdmokaaDoorVKFnFjCheckObject
namespace Go.Proofs.YtdhiihegfdmokaaDoor.JFnFjCheckObject
open Go.RowKit Go.Proofs.YtdhiihegfdmokaaDoor.PFnFjCheckObject Go.Proofs.YtdhiihegfdmokaaDoorW.PrintWords Go.Proofs.YtdhiihegfdmokaaDoorW.PrintLast Go.Proofs.YtdhiihegfdmokaaDoorW.PrintMore
set_option linter.unusedSimpArgs false
set_option linter.unusedVariables false

theorem qm_step (T : ByteArray) (hs : T.size ≤ 100000) (hst : CtlOk T) (d : Nat) (hv : QV T d) (he : QM T d) : QM T (d + 1) := by
  intro a g an acc hg hd hacc han
  have hg0 := hg.le; have hg1 := hg.hi
  obtain ⟨n', hn, e1, hb⟩ := skip_at T hs a (by omega)
  obtain rfl : g = n' := by have := hg.uniq hb; omega
  have hz := sx_size T g
  have b0 := sx_bt0 T g
  have st : ∀ k, fastjson_validateObject.l0 (k + 1) (sx T a) = _ := fun k => by rw [fastjson_validateObject.l0]
  have sr := fun k => (show spec_reader_members.l0 (k + 1) an acc T (g : Int) = _ by rw [spec_reader_members.l0])
  have fall : ∀ j : Int, Ev (fun k => spec_reader_members.j1 k an acc (g : Int) true T j) ([], [], false, T, j) := fun j =>
    Ev.step (fun k => by rw [spec_reader_members.j1]) (Ev.pos rfl (Ev.now _))
  have bad : Ev (fun k => fastjson_validateObject.j1 k (sx T g) true) (sx T g, some 0) := Ev.step (fun k => by rw [fastjson_validateObject.j1]) (Ev.pos rfl (e_err _ _))
  by_cases h0 : g = T.size
  · have hh : hr T g = 0 := hr_ge (by omega)
    exact ⟨[], [], false, g, _, Ev.step sr (Ev.bd (here_f T g (by omega)) (Ev.neg (by omega) (fall _))), Ev.step st (Ev.bind e1 (Ev.pos (by omega) bad)), by omega, by omega, .inr ⟨rfl, rfl⟩⟩
  have hh : hr T g = bt T g := hr_lt (by omega)
  by_cases c0 : bt T g = 34
  · have b1 : (bt (sx T g) 0 != 34) = false := by rw [b0, c0]; rfl
    have cut := sx_cut T g 1 (by omega)
    have hz1 := sx_size T (g + 1)
    have st1 : ∀ k, fastjson_validateObject.j1 (k + 1) (sx T g) false = _ := fun k => by rw [fastjson_validateObject.j1]
    obtain ⟨r, e2, ho⟩ := key_out (sx T (g + 1)) (by omega)
    rw [← cut] at e2
    obtain ⟨o, q, eq, h1, h2, h3⟩ := str_joint T hs hst g (by omega) r ho
    have cd : ∀ x, Ev (fun k => fastjson_validateObject.j1 k (sx T g) false) x → Ev (fun k => fastjson_validateObject.l0 k (sx T a)) x := fun x e => by
      refine Ev.step st (Ev.bind e1 (Ev.neg (by omega) (Ev.pos (by omega) ?_)))
      rw [b1]
      exact e
    rcases h3 with ⟨h3, rfl⟩ | ⟨sv, n, h4, h5, rfl, h6, h7, h8⟩
    · exact ⟨[], [], false, q, _, Ev.step sr (Ev.bd (here_f T g (by omega)) (Ev.pos (by omega) (Ev.bind eq (fall q)))), cd _ (Ev.step st1 (Ev.neg Bool.false_ne_true (Ev.pos (by omega) (Ev.bind e2 (Ev.neg (isNone_some h3) (e_err _ _)))))), by omega, h2, .inr ⟨rfl, rfl⟩⟩
    rcases ctl_k sv (sx T n) h6 with ⟨ek, hk⟩ | ⟨hk, go⟩
    · obtain rfl := h8 hk
      exact ⟨[], [], false, q, _, Ev.step sr (Ev.bd (here_f T g (by omega)) (Ev.pos (by omega) (Ev.bind eq (fall q)))), cd _ (Ev.step st1 (Ev.neg Bool.false_ne_true (Ev.pos (by omega) (Ev.bind e2 (Ev.pos rfl ek))))), by omega, h2, .inr ⟨rfl, rfl⟩⟩
    obtain ⟨rfl, rfl⟩ := h7 hk
    -- behind the name
    suffices hh2 : ∃ ns ks ok j r, Ev (fun k => spec_reader_members.j1 k an acc (g : Int) false T (n : Int)) (ns, ks, ok, T, j) ∧ Ev (fun k => (fastjson_skipWS.f k (sx T n)).bind fun t332 => (if (t332.size : Int) = 0 then (fastjson_validateObject.j3 k t332 true) else (if 0 < (t332.size : Int) then (fastjson_validateObject.j3 k t332 ((bt t332 0) != 58)) else (none)))) r ∧ 0 ≤ j ∧ j ≤ T.size ∧ AgE T a ok j r by
      obtain ⟨ns, ks, ok, j, r, ea, eb, hj⟩ := hh2
      exact ⟨ns, ks, ok, j, r, Ev.step sr (Ev.bd (here_f T g (by omega)) (Ev.pos (by omega) (Ev.bind eq ea))), cd _ (Ev.step st1 (Ev.neg Bool.false_ne_true (Ev.pos (by omega) (Ev.bind e2 (Ev.pos rfl (go r eb)))))), hj⟩
    have st2 := fun k => (show spec_reader_members.j1 (k + 1) an acc (g : Int) false T (n : Int) = _ by rw [spec_reader_members.j1])
    obtain ⟨b, hbs, eb1, eb2, hbb⟩ := blanks_n T hs n h5
    have := hbb.le
    have hzb := sx_size T b
    have bb0 := sx_bt0 T b
    have bad3 : Ev (fun k => fastjson_validateObject.j3 k (sx T b) true) (sx T b, some 0) := Ev.step (fun k => by rw [fastjson_validateObject.j3]) (Ev.pos rfl (e_err _ _))
    by_cases hb0 : b = T.size
    · have hhb : hr T b = 0 := hr_ge (by omega)
      exact ⟨_, _, false, (b : Int), _, Ev.step st2 (Ev.neg Bool.false_ne_true (Ev.pos (by omega) (Ev.bd rfl (Ev.bind eb2 (Ev.bd (take_no (s := T) (i := (b : Int)) (c := 58) (by omega) (by omega) (by omega) (by omega)) (Ev.neg Bool.false_ne_true (Ev.now _))))))), Ev.bind eb1 (Ev.pos (by omega) bad3), by omega, by omega, .inr ⟨rfl, rfl⟩⟩
    have hhb : hr T b = bt T b := hr_lt (by omega)
    by_cases c1 : bt T b = 58
    · have b2 : (bt (sx T b) 0 != 58) = false := by rw [bb0, c1]; rfl
      have st3 : ∀ k, fastjson_validateObject.j3 (k + 1) (sx T b) false = _ := fun k => by rw [fastjson_validateObject.j3]
      have cutb := sx_cut T b 1 (by omega)
      obtain ⟨c, hc, ec1, ec2, hbc⟩ := blanks_n T hs (b + 1) (by omega)
      rw [← cutb] at ec1
      rw [show ((b + 1 : Nat) : Int) = (b : Int) + 1 by omega] at ec2
      have := hbc.le
      obtain ⟨⟨kd, vb, ve, ns, ks, ok, T', j⟩, rv, rd, cdv, tx, hj, en, _, ag⟩ := hv c hc (by omega)
      dsimp only at rd cdv tx hj en ag
      subst tx
      -- both in front of the value
      have rdr : ∀ v, Ev (fun k => (spec_reader_value.f k T' (c : Int)).bind _) v → Ev (fun k => spec_reader_members.j1 k an acc (g : Int) false T' (n : Int)) v := fun v e =>
        Ev.step st2 (Ev.neg Bool.false_ne_true (Ev.pos (by omega) (Ev.bd rfl (Ev.bind eb2 (Ev.bd (take_yes (s := T') (i := (b : Int)) (c := 58) (by omega) (by omega) (by omega) (by omega)) (Ev.pos rfl (Ev.bind ec2 e)))))))
      have cdr : ∀ x, Ev (fun k => fastjson_validateObject.j3 k (sx T' b) false) x → Ev (fun k => (fastjson_skipWS.f k (sx T' n)).bind fun t332 => (if (t332.size : Int) = 0 then (fastjson_validateObject.j3 k t332 true) else (if 0 < (t332.size : Int) then (fastjson_validateObject.j3 k t332 ((bt t332 0) != 58)) else (none)))) x := fun x e => by
        refine Ev.bind eb1 (Ev.neg (by omega) (Ev.pos (by omega) ?_))
        rw [b2]
        exact e
      rcases ag with ⟨rfl, m, rfl, h9, h10, rfl⟩ | ⟨h9, h10⟩
      · obtain rfl := en rfl
        obtain ⟨f, hf, ef1, ef2, hbf⟩ := blanks_n T' hs m h10
        have := hbf.le
        have hzf := sx_size T' f
        have bf0 := sx_bt0 T' f
        by_cases hf0 : f = T'.size
        · have hhf : hr T' f = 0 := hr_ge (by omega)
          exact ⟨_, _, false, (f : Int), _, rdr _ (Ev.bind rd (Ev.pos rfl (Ev.pos (by omega) (Ev.bd rfl (Ev.bind ef2 (Ev.bd (take_no (s := T') (i := (f : Int)) (c := 125) (by omega) (by omega) (by omega) (by omega)) (Ev.neg Bool.false_ne_true (Ev.bd (take_no (s := T') (i := (f : Int)) (c := 44) (by omega) (by omega) (by omega) (by omega)) (Ev.neg Bool.false_ne_true (Ev.now _)))))))))), cdr _ (Ev.step st3 (Ev.neg Bool.false_ne_true (Ev.pos (by omega) (Ev.bind ec1 (Ev.bind cdv (Ev.pos rfl (Ev.bind ef1 (Ev.pos (by omega) (e_err _ _))))))))), by omega, by omega, .inr ⟨rfl, rfl⟩⟩
        have hhf : hr T' f = bt T' f := hr_lt (by omega)
        have cutf := sx_cut T' f 1 (by omega)
        by_cases c2 : bt T' f = 44
        · obtain ⟨g2, hg2, eg1, eg2, hbg⟩ := blanks_n T' hs (f + 1) (by omega)
          obtain ⟨ns2, ks2, ok2, j2, r2, er, ec, h11, h12, h13⟩ := he (f + 1) g2 (an ++ [(⟨(g : Int), (n : Int)⟩ : Sp)]) (acc ++ [(⟨kd, vb, (m : Int), ns, ks⟩ : Pl)]) hbg (by omega) (by simp; omega) (by simp; omega)
          rw [← cutf] at ec
          rw [show ((f + 1 : Nat) : Int) = (f : Int) + 1 by omega] at eg2
          refine ⟨ns2, ks2, ok2, j2, r2, rdr _ (Ev.bind rd (Ev.pos rfl (Ev.pos (by omega) (Ev.bd rfl (Ev.bind ef2 (Ev.bd (take_no (s := T') (i := (f : Int)) (c := 125) (by omega) (by omega) (by omega) (by omega)) (Ev.neg Bool.false_ne_true (Ev.bd (take_yes (s := T') (i := (f : Int)) (c := 44) (by omega) (by omega) (by omega) (by omega)) (Ev.pos rfl (Ev.bind eg2 er)))))))))), cdr _ (Ev.step st3 (Ev.neg Bool.false_ne_true (Ev.pos (by omega) (Ev.bind ec1 (Ev.bind cdv (Ev.pos rfl (Ev.bind ef1 (Ev.neg (by omega) (Ev.pos (by omega) (Ev.pos (by omega) (Ev.pos (by omega) ec))))))))))), h11, h12, ?_⟩
          rcases h13 with ⟨h13, m2, h14, h15, h16⟩ | h13
          · exact .inl ⟨h13, m2, h14, by omega, h16⟩
          · exact .inr h13
        by_cases c3 : bt T' f = 125
        · exact ⟨_, _, true, ((f : Int) + 1), _, rdr _ (Ev.bind rd (Ev.pos rfl (Ev.pos (by omega) (Ev.bd rfl (Ev.bind ef2 (Ev.bd (take_yes (s := T') (i := (f : Int)) (c := 125) (by omega) (by omega) (by omega) (by omega)) (Ev.pos rfl (Ev.now _)))))))), cdr _ (Ev.step st3 (Ev.neg Bool.false_ne_true (Ev.pos (by omega) (Ev.bind ec1 (Ev.bind cdv (Ev.pos rfl (Ev.bind ef1 (Ev.neg (by omega) (Ev.pos (by omega) (Ev.neg (by omega) (Ev.pos (by omega) (Ev.pos (by omega) (Ev.now _))))))))))))), by omega, by omega, .inl ⟨rfl, f + 1, by omega, by omega, by omega, by rw [cutf]⟩⟩
        · exact ⟨_, _, false, (f : Int), _, rdr _ (Ev.bind rd (Ev.pos rfl (Ev.pos (by omega) (Ev.bd rfl (Ev.bind ef2 (Ev.bd (take_no (s := T') (i := (f : Int)) (c := 125) (by omega) (by omega) (by omega) (by omega)) (Ev.neg Bool.false_ne_true (Ev.bd (take_no (s := T') (i := (f : Int)) (c := 44) (by omega) (by omega) (by omega) (by omega)) (Ev.neg Bool.false_ne_true (Ev.now _)))))))))), cdr _ (Ev.step st3 (Ev.neg Bool.false_ne_true (Ev.pos (by omega) (Ev.bind ec1 (Ev.bind cdv (Ev.pos rfl (Ev.bind ef1 (Ev.neg (by omega) (Ev.pos (by omega) (Ev.neg (by omega) (Ev.neg (by omega) (e_err _ _)))))))))))), by omega, by omega, .inr ⟨rfl, rfl⟩⟩
      · obtain ⟨x, cx⟩ : ∃ x, Ev (fun k => fastjson_validateObject.j3 k (sx T' b) false) (x, some 0) := ⟨_, Ev.step st3 (Ev.neg Bool.false_ne_true (Ev.pos (by omega) (Ev.bind ec1 (Ev.bind cdv (Ev.neg (isNone_some h9) (e_err _ _))))))⟩
        cases ok with
        | false => exact ⟨[], [], false, j, _, rdr _ (Ev.bind rd (Ev.neg Bool.false_ne_true (Ev.now _))), cdr _ cx, hj.1, hj.2, .inr ⟨rfl, rfl⟩⟩
        | true =>
          obtain rfl := en rfl
          obtain ⟨_, hl, hdg⟩ := h10 rfl
          obtain ⟨f, ef, hbf⟩ := blanks_f_ev T' (by omega) ve hj.1 hj.2
          obtain rfl := digit_end hdg hbf
          have hhf : hr T' f = bt T' f := hr_lt (by omega)
          exact ⟨_, _, false, f, _, rdr _ (Ev.bind rd (Ev.pos rfl (Ev.pos (by omega) (Ev.bd rfl (Ev.bind ef (Ev.bd (take_no (s := T') (i := f) (c := 125) (by omega) (by omega) (by omega) (by omega)) (Ev.neg Bool.false_ne_true (Ev.bd (take_no (s := T') (i := f) (c := 44) (by omega) (by omega) (by omega) (by omega)) (Ev.neg Bool.false_ne_true (Ev.now _)))))))))), cdr _ cx, hj.1, hj.2, .inr ⟨rfl, rfl⟩⟩
    · have b2 : (bt (sx T b) 0 != 58) = true := by rw [bb0]; simp; omega
      refine ⟨_, _, false, (b : Int), (sx T b, some 0), Ev.step st2 (Ev.neg Bool.false_ne_true (Ev.pos (by omega) (Ev.bd rfl (Ev.bind eb2 (Ev.bd (take_no (s := T) (i := (b : Int)) (c := 58) (by omega) (by omega) (by omega) (by omega)) (Ev.neg Bool.false_ne_true (Ev.now _))))))), Ev.bind eb1 (Ev.neg (by omega) (Ev.pos (by omega) ?_)), by omega, by omega, .inr ⟨rfl, rfl⟩⟩
      rw [b2]
      exact bad3
  · have b1 : (bt (sx T g) 0 != 34) = true := by rw [b0]; simp; omega
    refine ⟨[], [], false, g, (sx T g, some 0), Ev.step sr (Ev.bd (here_f T g (by omega)) (Ev.neg (by omega) (fall _))), Ev.step st (Ev.bind e1 (Ev.neg (by omega) (Ev.pos (by omega) ?_))), by omega, by omega, .inr ⟨rfl, rfl⟩⟩
    rw [b1]
    exact bad
theorem q_all (T : ByteArray) (hs : T.size ≤ 100000) (hst : CtlOk T) (d : Nat) : QV T d ∧ QE T d ∧ QM T d := by
  induction d with
  | zero => exact ⟨fun i h0 hd => by omega, fun a g acc h hd _ => by have := h.le; omega, fun a g an acc h hd _ _ => by have := h.le; omega⟩
  | succ d ih =>
    have hv := qv_step T hs hst d ih.2.1 ih.2.2
    exact ⟨hv, qe_step T hs d hv ih.2.1, qm_step T hs hst d ih.1 ih.2.2⟩
end Go.Proofs.YtdhiihegfdmokaaDoor.JFnFjCheckObject
