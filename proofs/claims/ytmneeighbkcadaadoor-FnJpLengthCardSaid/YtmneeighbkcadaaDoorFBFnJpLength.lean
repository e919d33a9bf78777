/- Where keys lead in a JSON text: the search comes to its end, and what it finds is a value of the text; no condition beside those that each theorem states. -/
import Derived.Test.YtmneeighbkcadaaDoorFAFnJpLength
namespace Go.Proofs.YtmneeighbkcadaaDoor.JFnJpLength
open Go.RowKit Go.Proofs.YtmneeighbkcadaaDoor.PFnJpLength Go.Proofs.YtmneeighbkcadaaDoorW.PrintWords Go.Proofs.YtmneeighbkcadaaDoorW.PrintLast Go.Proofs.YtmneeighbkcadaaDoorW.PrintMore

/-! ### an object's names, a value's parts -/
structure Nm (s : ByteArray) (n : Sp) : Prop where
  lo : 0 ≤ n.f0
  str : StrT s (n.f0 + 1) n.f1
theorem jv_names {s : ByteArray} {kd i j : Int} {ns : List Sp} {ks : List Pl} (h : JV s kd i j ns ks) : 0 ≤ i → (∀ n ∈ ns, Nm s n) ∧ (kd = 6 → ns.length = ks.length) := by
  refine jv_ind (P := fun kd i j ns ks => 0 ≤ i → (∀ n ∈ ns, Nm s n) ∧ (kd = 6 → ns.length = ks.length)) (Q := fun _ _ _ => True) (R := fun i j ns ks => 0 ≤ i → (∀ n ∈ ns, Nm s n) ∧ ns.length = ks.length) ?_ ?_ ?_ ?_ ?_ ?_ ?_ h
  · intro _ _ _ _ _
    exact ⟨fun n hn => (by cases hn), fun _ => rfl⟩
  · intro _ _ _ _ _ _ _ _ _
    exact ⟨fun n hn => (by cases hn), fun h => by omega⟩
  · intro i b j ns ks _ a _ ih h0
    have := a.le
    have z := ih (by omega)
    exact ⟨z.1, fun _ => z.2⟩
  · intros; trivial
  · intros; trivial
  · intro i a b c d e kd ns ks _ t _ _ _ _ _ _ _ _ _ _ h0
    refine ⟨fun n hn => ?_, rfl⟩
    rcases List.mem_singleton.1 hn with rfl
    exact ⟨h0, t⟩
  · intro i a b c d e f j kd ns ns2 ks ks2 _ t k1 _ _ k2 hl _ _ k3 _ _ k4 _ ih h0
    have := t.lt; have := k1.le; have := k2.le; have := k3.le; have := k4.le
    have z := ih (by omega)
    refine ⟨fun n hn => ?_, by simp [z.2]⟩
    rcases List.mem_cons.1 hn with rfl | hn
    · exact ⟨h0, t⟩
    · exact z.1 n hn
theorem self_pre (q : Pl) : q ∈ pre q := by
  obtain ⟨a, b, c, d, ks⟩ := q
  simp [pre]
theorem kid_pre : ∀ (l : List Pl) (q : Pl), q ∈ l → q ∈ preL l
  | [], q, h => by cases h
  | k :: r, q, h => by
    simp only [preL, List.mem_append]
    rcases List.mem_cons.1 h with rfl | h
    · exact .inl (self_pre q)
    · exact .inr (kid_pre r q h)
theorem GoodP.kid {s : ByteArray} {kd b e : Int} {ns : List Sp} {ks : List Pl} (h : GoodP s ⟨kd, b, e, ns, ks⟩) : ∀ q ∈ ks, GoodP s q := fun q hq =>
  (jv_all h.val h.lo h.lt h.hi h.fol).1 q (by simp only [pre, List.mem_cons]; exact .inr (kid_pre ks q hq))
theorem GoodP.len {s : ByteArray} {kd b e : Int} {ns : List Sp} {ks : List Pl} (h : GoodP s ⟨kd, b, e, ns, ks⟩) : (ks.length : Int) ≤ e - b := by
  have h1 := (jv_all h.val h.lo h.lt h.hi h.fol).2
  have h2 := preL_len ks
  simp only [pre, List.length_cons] at h1
  omega
theorem rdP_mem (ks : List Pl) (i : Int) (h0 : 0 ≤ i) (h : i < (ks.length : Int)) : rd_T27 ks i ∈ ks := by
  unfold rd_T27
  rw [List.getD_eq_getElem?_getD, List.getElem?_eq_getElem (by omega)]
  exact List.getElem_mem _
theorem rdN_mem (ns : List Sp) (i : Int) (h0 : 0 ≤ i) (h : i < (ns.length : Int)) : rd_T43 ns i ∈ ns := by
  unfold rd_T43
  rw [List.getD_eq_getElem?_getD, List.getElem?_eq_getElem (by omega)]
  exact List.getElem_mem _
theorem GoodP.eta {s : ByteArray} {q : Pl} (h : GoodP s q) : GoodP s ⟨q.f0, q.f1, q.f2, q.f3, q.f4⟩ := by
  cases q
  exact h
/-! ### the first member of a name -/
theorem named_ev (s key : ByteArray) (hs : (s.size : Int) ≤ 2147483647) (kd b e : Int) (ns : List Sp) (ks : List Pl) (hn : ∀ n ∈ ns, Nm s n) (hl : (ns.length : Int) ≤ 2147483647) :
    ∃ t, Ev (fun k => NN_.f k s kd b e ns ks key) t ∧ t < (ns.length : Int) := by
  have go : ∀ (d : Nat) (i : Int), 0 ≤ i → i ≤ ns.length → (ns.length : Int) - i ≤ d → ∃ t, Ev (fun k => NN_.l0 k s key i kd b e ns ks) t ∧ t < (ns.length : Int) := by
    intro d
    induction d with
    | zero =>
      intro i h0 h1 hd
      exact ⟨-1, Ev.step (fun k => by rw [NN_.l0]) (Ev.neg (by omega) (Ev.now _)), by omega⟩
    | succ d ih =>
      intro i h0 h1 hd
      by_cases hi : i < (ns.length : Int)
      · obtain ⟨n0, n1⟩ := hn _ (rdN_mem ns i h0 hi)
        have n2 := n1.lt
        have n3 := n1.hi
        obtain ⟨r, er⟩ := unq_ev s hs _ _ n0 n1
        by_cases c : r.toList = key.toList
        · refine ⟨i, Ev.step (fun k => by rw [NN_.l0]) (Ev.pos hi (Ev.pos h0 (Ev.pos n0 (Ev.pos (by omega) (Ev.pos n3 ?_))))), hi⟩
          refine Ev.bind er ?_
          exact Ev.pos c (Ev.now _)
        · obtain ⟨t, et, ht⟩ := ih (i + 1) (by omega) (by omega) (by omega)
          refine ⟨t, Ev.step (fun k => by rw [NN_.l0]) (Ev.pos hi (Ev.pos h0 (Ev.pos n0 (Ev.pos (by omega) (Ev.pos n3 ?_))))), ht⟩
          refine Ev.bind er ?_
          refine Ev.neg c ?_
          rw [w64 (by omega) (by omega)]
          exact et
      · exact ⟨-1, Ev.step (fun k => by rw [NN_.l0]) (Ev.neg hi (Ev.now _)), by omega⟩
  exact go ns.length 0 (by omega) (by omega) (by omega)
/-! ### the index in a key -/
theorem index_ev (a : ByteArray) (ha : (a.size : Int) ≤ 9223372036854775807) : ∃ r, Ev (fun k => II_.f k a) r := by
  have go : ∀ (d : Nat) (v i : Int), 0 ≤ i → i ≤ a.size → (a.size : Int) - i ≤ d → ∃ r, Ev (fun k => II_.l0 k a v i) r := by
    intro d
    induction d with
    | zero =>
      intro v i h0 h1 hd
      exact ⟨_, Ev.step (fun k => by rw [II_.l0]) (Ev.neg (by omega) (Ev.now _))⟩
    | succ d ih =>
      intro v i h0 h1 hd
      by_cases hi : i < (a.size : Int)
      · have w1 : wrap64 (i + 1) = i + 1 := w64 (by omega) (by omega)
        have j2 : ∀ b, ∃ r, Ev (fun k => II_.j2 k a v i (bt a i) b) r := by
          intro b
          cases b with
          | true => exact ⟨_, Ev.step (fun k => by rw [II_.j2]) (Ev.pos rfl (Ev.now _))⟩
          | false =>
            by_cases c : v < 288230376151711744
            · obtain ⟨r, e⟩ := ih (wrap64 ((wrap64 (v * 10)) + ((bt a i - 48) % 256))) (i + 1) (by omega) (by omega) (by omega)
              refine ⟨r, Ev.step (fun k => by rw [II_.j2]) (Ev.neg Bool.false_ne_true (Ev.pos c ?_))⟩
              rw [w1]; exact e
            · obtain ⟨r, e⟩ := ih 4611686018427387904 (i + 1) (by omega) (by omega) (by omega)
              refine ⟨r, Ev.step (fun k => by rw [II_.j2]) (Ev.neg Bool.false_ne_true (Ev.neg c ?_))⟩
              rw [w1]; exact e
        by_cases c : bt a i < 48
        · obtain ⟨r, e⟩ := j2 true
          exact ⟨r, Ev.step (fun k => by rw [II_.l0]) (Ev.pos hi (Ev.pos h0 (Ev.pos c e)))⟩
        · obtain ⟨r, e⟩ := j2 (decide (bt a i > 57))
          exact ⟨r, Ev.step (fun k => by rw [II_.l0]) (Ev.pos hi (Ev.pos h0 (Ev.neg c e)))⟩
      · exact ⟨_, Ev.step (fun k => by rw [II_.l0]) (Ev.neg hi (Ev.now _))⟩
  have j0 : ∀ b, ∃ r, Ev (fun k => II_.j0 k a b) r := by
    intro b
    cases b with
    | true => exact ⟨_, Ev.step (fun k => by rw [II_.j0]) (Ev.pos rfl (Ev.now _))⟩
    | false =>
      obtain ⟨r, e⟩ := go a.size 0 0 (by omega) (by omega) (by omega)
      exact ⟨r, Ev.step (fun k => by rw [II_.j0]) (Ev.neg Bool.false_ne_true e)⟩
  unfold II_.f
  by_cases c1 : a.toList = ([] : List UInt8)
  · obtain ⟨r, e⟩ := j0 true
    exact ⟨r, Ev.pos c1 e⟩
  by_cases c2 : (a.size : Int) > 1
  · obtain ⟨r, e⟩ := j0 (bt a 0 == 48)
    exact ⟨r, Ev.neg c1 (Ev.pos c2 (Ev.pos (by omega) e))⟩
  · obtain ⟨r, e⟩ := j0 false
    exact ⟨r, Ev.neg c1 (Ev.neg c2 e)⟩
theorem bracket_ev (a : ByteArray) (ha : (a.size : Int) ≤ 9223372036854775807) : ∃ v b, Ev (fun k => Bra_.f k a) (v, b) := by
  unfold Bra_.f
  by_cases c1 : (a.size : Int) < 3
  · exact ⟨0, false, Ev.pos c1 (Ev.now _)⟩
  have w1 : wrap64 ((a.size : Int) - 1) = (a.size : Int) - 1 := w64 (by omega) (by omega)
  rw [w1]
  by_cases c2 : bt a 0 = 91
  · by_cases c3 : bt a ((a.size : Int) - 1) = 93
    · obtain ⟨⟨v, b⟩, e⟩ := index_ev (a.extract 1 ((a.size : Int) - 1).toNat) (by rw [ByteArray.size_extract]; omega)
      exact ⟨v, b, Ev.neg c1 (Ev.pos (by omega) (Ev.pos c2 (Ev.pos (by omega) (Ev.pos (by omega) (Ev.pos c3 (Ev.pos (by omega) (Ev.pos (by omega) (Ev.bind e (Ev.now _)))))))))⟩
    · exact ⟨0, false, Ev.neg c1 (Ev.pos (by omega) (Ev.pos c2 (Ev.pos (by omega) (Ev.pos (by omega) (Ev.neg c3 (Ev.now _))))))⟩
  · exact ⟨0, false, Ev.neg c1 (Ev.pos (by omega) (Ev.neg c2 (Ev.now _)))⟩
/-! ### one step down -/
theorem step_ev (s key : ByteArray) (hs : (s.size : Int) ≤ 2147483647) (hk : (key.size : Int) ≤ 9223372036854775807) {kd b e : Int} {ns : List Sp} {ks : List Pl} (h : GoodP s ⟨kd, b, e, ns, ks⟩) :
    ∃ kd2 b2 e2 ns2 ks2 ok, Ev (fun k => SS_.f k s kd b e ns ks key) (kd2, b2, e2, ns2, ks2, ok) ∧ (ok = true → GoodP s ⟨kd2, b2, e2, ns2, ks2⟩) := by
  have hnm := jv_names h.val h.lo
  have hlen := h.len
  have := h.hi; have := h.lo
  simp only at this hlen
  unfold SS_.f
  by_cases c1 : kd = 6
  · have hln := hnm.2 c1
    obtain ⟨t, et, ht⟩ := named_ev s key hs kd b e ns ks hnm.1 (by simp at *; omega)
    by_cases c2 : t < 0
    · refine ⟨_, _, _, _, _, false, Ev.pos c1 (Ev.bind et (Ev.pos c2 (Ev.now _))), fun h => by cases h⟩
    · have ht2 : t < (ks.length : Int) := by rw [← hln]; exact ht
      exact ⟨(rd_T27 ks t).f0, (rd_T27 ks t).f1, (rd_T27 ks t).f2, (rd_T27 ks t).f3, (rd_T27 ks t).f4, true, Ev.pos c1 (Ev.bind et (Ev.neg c2 (Ev.pos (by omega) (Ev.pos ht2 (Ev.now _))))), fun _ => (h.kid (rd_T27 ks t) (rdP_mem ks t (by omega) ht2)).eta⟩
  · by_cases c2 : kd = 5
    · obtain ⟨v, ok, eb⟩ := bracket_ev key hk
      have no : ∀ v, ∃ kd2 b2 e2 ns2 ks2 ok, Ev (fun k => SS_.j0 k (-1) v false kd b e ns ks) (kd2, b2, e2, ns2, ks2, ok) ∧ (ok = true → GoodP s ⟨kd2, b2, e2, ns2, ks2⟩) := fun v =>
        ⟨_, _, _, _, _, false, Ev.step (fun k => by rw [SS_.j0]) (Ev.neg Bool.false_ne_true (Ev.pos (by omega) (Ev.now _))), fun h => by cases h⟩
      have yes : ∀ v, ∃ kd2 b2 e2 ns2 ks2 ok, Ev (fun k => SS_.j0 k (-1) v (decide (v < (ks.length : Int))) kd b e ns ks) (kd2, b2, e2, ns2, ks2, ok) ∧ (ok = true → GoodP s ⟨kd2, b2, e2, ns2, ks2⟩) := by
        intro v
        by_cases c3 : v < (ks.length : Int)
        · rw [decide_eq_true c3]
          by_cases c4 : v < 0
          · exact ⟨_, _, _, _, _, false, Ev.step (fun k => by rw [SS_.j0]) (Ev.pos rfl (Ev.pos c4 (Ev.now _))), fun h => by cases h⟩
          · exact ⟨(rd_T27 ks v).f0, (rd_T27 ks v).f1, (rd_T27 ks v).f2, (rd_T27 ks v).f3, (rd_T27 ks v).f4, true, Ev.step (fun k => by rw [SS_.j0]) (Ev.pos rfl (Ev.neg c4 (Ev.pos (by omega) (Ev.pos c3 (Ev.now _))))), fun _ => (h.kid (rd_T27 ks v) (rdP_mem ks v (by omega) c3)).eta⟩
        · rw [decide_eq_false c3]
          exact no v
      cases ok with
      | true =>
        obtain ⟨k1, k2, k3, k4, k5, k6, ee, hh⟩ := yes v
        exact ⟨k1, k2, k3, k4, k5, k6, Ev.neg c1 (Ev.pos c2 (Ev.bind eb (Ev.pos rfl ee))), hh⟩
      | false =>
        obtain ⟨k1, k2, k3, k4, k5, k6, ee, hh⟩ := no v
        exact ⟨k1, k2, k3, k4, k5, k6, Ev.neg c1 (Ev.pos c2 (Ev.bind eb (Ev.neg Bool.false_ne_true ee))), hh⟩
    · exact ⟨_, _, _, _, _, false, Ev.neg c1 (Ev.neg c2 (Ev.pos (by omega) (Ev.now _))), fun h => by cases h⟩
/-! ### no name twice -/
theorem once_ev (s : ByteArray) (hs : (s.size : Int) ≤ 2147483647) (keys : List ByteArray) (hn : (keys.length : Int) ≤ 9223372036854775807) (hk : ∀ x ∈ keys, (x.size : Int) ≤ 9223372036854775807) {kd b e : Int} {ns : List Sp} {ks : List Pl} (h : GoodP s ⟨kd, b, e, ns, ks⟩) :
    ∃ r, Ev (fun k => OO_.f k s kd b e ns ks keys) r := by
  have key : ∀ i : Int, 0 ≤ i → i < (keys.length : Int) → ((rdOf ByteArray.empty keys i).size : Int) ≤ 9223372036854775807 := by
    intro i h0 h1
    unfold rdOf
    rw [List.getD_eq_getElem?_getD, List.getElem?_eq_getElem (by omega)]
    exact hk _ (List.getElem_mem _)
  have go : ∀ (d : Nat) (i kd b e : Int) (ns : List Sp) (ks : List Pl), 0 ≤ i → i ≤ keys.length → (keys.length : Int) - i ≤ d → GoodP s ⟨kd, b, e, ns, ks⟩ → ∃ r, Ev (fun k => OO_.l0 k s keys (keys.length : Int) i kd b e ns ks) r := by
    intro d
    induction d with
    | zero =>
      intro i kd b e ns ks h0 h1 hd _
      exact ⟨_, Ev.step (fun k => by rw [OO_.l0]) (Ev.neg (by omega) (Ev.now _))⟩
    | succ d ih =>
      intro i kd b e ns ks h0 h1 hd h
      by_cases hi : i < (keys.length : Int)
      · obtain ⟨k1, k2, k3, k4, k5, ok, es, hg⟩ := step_ev s (rdOf ByteArray.empty keys i) hs (key i h0 hi) h
        have down : ∀ {f : Nat → Option Bool}, (∀ {r}, Ev (fun k => (SS_.f k s kd b e ns ks (rdOf ByteArray.empty keys i)).bind fun bt383 => (if bt383.2.2.2.2.2 = true then (OO_.l0 k s keys (keys.length : Int) (wrap64 (i + 1)) bt383.1 bt383.2.1 bt383.2.2.1 bt383.2.2.2.1 bt383.2.2.2.2.1) else (some true))) r → Ev f r) → ∃ r, Ev f r := by
          intro f hf
          cases ok with
          | false => exact ⟨_, hf (Ev.bind es (Ev.neg Bool.false_ne_true (Ev.now _)))⟩
          | true =>
            obtain ⟨r, er⟩ := ih (i + 1) k1 k2 k3 k4 k5 (by omega) (by omega) (by omega) (hg rfl)
            refine ⟨r, hf (Ev.bind es (Ev.pos rfl ?_))⟩
            rw [w64 (by omega) (by omega)]
            exact er
        by_cases c : kd = 6
        · have hnm := jv_names h.val h.lo
          have hln : ns.length = ks.length := hnm.2 c
          have hlen : (ks.length : Int) ≤ e - b := h.len
          have hle : (ns.length : Int) ≤ 2147483647 := by
            have b0 : e ≤ s.size := h.hi
            have b1 : 0 ≤ b := h.lo
            rw [hln]
            omega
          have inner : ∀ (d2 : Nat) (m j : Int), 0 ≤ j → j ≤ ns.length → (ns.length : Int) - j ≤ d2 → ∃ r, Ev (fun k => OO_.l1 k s (rdOf ByteArray.empty keys i) m j keys (keys.length : Int) i kd b e ns ks) r := by
            intro d2
            induction d2 with
            | zero =>
              intro m j g0 g1 gd
              by_cases c9 : m > 1
              · exact ⟨_, Ev.step (fun k => by rw [OO_.l1]) (Ev.neg (by omega) (Ev.pos c9 (Ev.now _)))⟩
              · exact down fun er => Ev.step (fun k => by rw [OO_.l1]) (Ev.neg (by omega) (Ev.neg c9 er))
            | succ d2 ih2 =>
              intro m j g0 g1 gd
              by_cases hj : j < (ns.length : Int)
              · obtain ⟨n0, n1⟩ := hnm.1 _ (rdN_mem ns j g0 hj)
                have n2 := n1.lt
                have n3 := n1.hi
                obtain ⟨r, er⟩ := unq_ev s hs _ _ n0 n1
                have wj : wrap64 (j + 1) = j + 1 := w64 (by omega) (by omega)
                by_cases c8 : r.toList = (rdOf ByteArray.empty keys i).toList
                · obtain ⟨r2, e2⟩ := ih2 (wrap64 (m + 1)) (j + 1) (by omega) (by omega) (by omega)
                  refine ⟨r2, Ev.step (fun k => by rw [OO_.l1]) (Ev.pos hj (Ev.pos g0 (Ev.pos n0 (Ev.pos (by omega) (Ev.pos n3 ?_)))))⟩
                  refine Ev.bind er ?_
                  refine Ev.pos c8 ?_
                  rw [wj]; exact e2
                · obtain ⟨r2, e2⟩ := ih2 m (j + 1) (by omega) (by omega) (by omega)
                  refine ⟨r2, Ev.step (fun k => by rw [OO_.l1]) (Ev.pos hj (Ev.pos g0 (Ev.pos n0 (Ev.pos (by omega) (Ev.pos n3 ?_)))))⟩
                  refine Ev.bind er ?_
                  refine Ev.neg c8 ?_
                  rw [wj]; exact e2
              · by_cases c9 : m > 1
                · exact ⟨_, Ev.step (fun k => by rw [OO_.l1]) (Ev.neg hj (Ev.pos c9 (Ev.now _)))⟩
                · exact down fun er => Ev.step (fun k => by rw [OO_.l1]) (Ev.neg hj (Ev.neg c9 er))
          obtain ⟨r, er⟩ := inner ns.length 0 0 (by omega) (by omega) (by omega)
          exact ⟨r, Ev.step (fun k => by rw [OO_.l0]) (Ev.pos hi (Ev.pos h0 (Ev.pos hi (Ev.pos c er))))⟩
        · exact down fun er => Ev.step (fun k => by rw [OO_.l0]) (Ev.pos hi (Ev.pos h0 (Ev.pos hi (Ev.neg c er))))
      · exact ⟨_, Ev.step (fun k => by rw [OO_.l0]) (Ev.neg hi (Ev.now _))⟩
  exact go keys.length 0 kd b e ns ks (by omega) (by omega) (by omega) h
/-! ### the place to which keys lead -/
theorem JT.good {s : ByteArray} {kd i j : Int} {ns : List Sp} {ks : List Pl} (h : JT s kd i j ns ks) : GoodP s ⟨kd, i, j, ns, ks⟩ := by
  refine ⟨h.front.le, h.lt, h.hi, h.val, ?_⟩
  by_cases c : j = s.size
  · exact .inl c
  · have := h.hi
    exact .inr ⟨by show j < _; omega, .inl (h.back.all j (by omega) (by omega))⟩
theorem found_ev (s : ByteArray) (keys : List ByteArray) (hn : (keys.length : Int) ≤ 9223372036854775807) (hk : ∀ x ∈ keys, (x.size : Int) ≤ 9223372036854775807) :
    ∃ kd b e ns ks ok, Ev (fun k => jF_.f k s keys) (kd, b, e, ns, ks, ok) ∧ (ok = true → (s.size : Int) ≤ 65536 ∧ GoodP s ⟨kd, b, e, ns, ks⟩) := by
  have key : ∀ i : Int, 0 ≤ i → i < (keys.length : Int) → ((rdOf ByteArray.empty keys i).size : Int) ≤ 9223372036854775807 := by
    intro i h0 h1
    unfold rdOf
    rw [List.getD_eq_getElem?_getD, List.getElem?_eq_getElem (by omega)]
    exact hk _ (List.getElem_mem _)
  have index : ∀ a : ByteArray, ∃ b, jI_.f a = some b := by
    intro a
    unfold jI_.f
    by_cases c : a.toList = ([] : List UInt8)
    · exact ⟨_, if_pos c⟩
    · have : 0 < a.size := by
        rcases Nat.eq_zero_or_pos a.size with h | h
        · exfalso
          apply c
          rw [ByteArray.toList_eq]
          exact List.eq_nil_of_length_eq_zero (by simpa using h)
        · exact h
      exact ⟨_, by rw [if_neg c, if_pos (by omega)]⟩
  have no : ∀ (kd b e : Int) (ns : List Sp) (ks : List Pl), ∃ kd2 b2 e2 ns2 ks2 ok, Ev (fun k => jF_.j0 k s keys true kd b e ns ks) (kd2, b2, e2, ns2, ks2, ok) ∧ (ok = true → (s.size : Int) ≤ 65536 ∧ GoodP s ⟨kd2, b2, e2, ns2, ks2⟩) := fun kd b e ns ks =>
    ⟨_, _, _, _, _, false, Ev.step (fun k => by rw [jF_.j0]) (Ev.pos rfl (Ev.now _)), fun h => by cases h⟩
  unfold jF_.f
  by_cases hs : (s.size : Int) > 65536
  · obtain ⟨k1, k2, k3, k4, k5, k6, ee, hh⟩ := no 0 0 0 [] []
    have e0 : Ev (fun k => jP_.f k s) (0, 0, 0, [], [], false) := by
      unfold jP_.f
      exact Ev.pos hs (Ev.now _)
    exact ⟨k1, k2, k3, k4, k5, k6, Ev.bind e0 (Ev.neg Bool.false_ne_true ee), hh⟩
  obtain ⟨kd, b, e, ns, ks, ok, ep, hp⟩ := places_ev s (by omega)
  have e0 : Ev (fun k => jP_.f k s) (kd, b, e, ns, ks, ok) := by
    unfold jP_.f
    exact Ev.neg hs (Ev.bind ep (Ev.now _))
  cases ok with
  | false =>
    obtain ⟨k1, k2, k3, k4, k5, k6, ee, hh⟩ := no kd b e ns ks
    exact ⟨k1, k2, k3, k4, k5, k6, Ev.bind e0 (Ev.neg Bool.false_ne_true ee), hh⟩
  | true =>
    have hg := (hp rfl).good
    obtain ⟨r, er⟩ := once_ev s (by omega) keys hn hk hg
    cases r with
    | false =>
      obtain ⟨k1, k2, k3, k4, k5, k6, ee, hh⟩ := no kd b e ns ks
      exact ⟨k1, k2, k3, k4, k5, k6, Ev.bind e0 (Ev.pos rfl (Ev.bind er ee)), hh⟩
    | true =>
      have go : ∀ (d : Nat) (i kd b e : Int) (ns : List Sp) (ks : List Pl), 0 ≤ i → i ≤ keys.length → (keys.length : Int) - i ≤ d → GoodP s ⟨kd, b, e, ns, ks⟩ →
          ∃ kd2 b2 e2 ns2 ks2 ok, Ev (fun k => jF_.l0 k s keys (keys.length : Int) i kd b e ns ks) (kd2, b2, e2, ns2, ks2, ok) ∧ (ok = true → (s.size : Int) ≤ 65536 ∧ GoodP s ⟨kd2, b2, e2, ns2, ks2⟩) := by
        intro d
        induction d with
        | zero =>
          intro i kd b e ns ks h0 h1 hd h
          exact ⟨kd, b, e, ns, ks, true, Ev.step (fun k => by rw [jF_.l0]) (Ev.neg (by omega) (Ev.now _)), fun _ => ⟨by omega, h⟩⟩
        | succ d ih =>
          intro i kd b e ns ks h0 h1 hd h
          by_cases hi : i < (keys.length : Int)
          · obtain ⟨k1, k2, k3, k4, k5, ok, es, hg⟩ := step_ev s (rdOf ByteArray.empty keys i) (by omega) (key i h0 hi) h
            have j2 : ∀ t, ∃ kd2 b2 e2 ns2 ks2 ok, Ev (fun k => jF_.j2 k s (rdOf ByteArray.empty keys i) keys (keys.length : Int) i t kd b e ns ks) (kd2, b2, e2, ns2, ks2, ok) ∧ (ok = true → (s.size : Int) ≤ 65536 ∧ GoodP s ⟨kd2, b2, e2, ns2, ks2⟩) := by
              intro t
              cases t with
              | true => exact ⟨_, _, _, _, _, false, Ev.step (fun k => by rw [jF_.j2]) (Ev.pos rfl (Ev.now _)), fun h => by cases h⟩
              | false =>
                cases ok with
                | false =>
                  refine ⟨0, 0, 0, [], [], false, Ev.step (fun k => by rw [jF_.j2]) (Ev.neg Bool.false_ne_true ?_), fun h => by cases h⟩
                  refine Ev.bind es ?_
                  exact Ev.neg Bool.false_ne_true (Ev.now _)
                | true =>
                  obtain ⟨q1, q2, q3, q4, q5, q6, eq, hq⟩ := ih (i + 1) k1 k2 k3 k4 k5 (by omega) (by omega) (by omega) (hg rfl)
                  refine ⟨q1, q2, q3, q4, q5, q6, Ev.step (fun k => by rw [jF_.j2]) (Ev.neg Bool.false_ne_true ?_), hq⟩
                  refine Ev.bind es ?_
                  refine Ev.pos rfl ?_
                  rw [w64 (by omega) (by omega)]
                  exact eq
            by_cases c : kd = 6
            · obtain ⟨t, ht⟩ := index (rdOf ByteArray.empty keys i)
              obtain ⟨q1, q2, q3, q4, q5, q6, eq, hq⟩ := j2 t
              exact ⟨q1, q2, q3, q4, q5, q6, Ev.step (fun k => by rw [jF_.l0]) (Ev.pos hi (Ev.pos h0 (Ev.pos hi (Ev.pos c (Ev.bd ht eq))))), hq⟩
            · obtain ⟨q1, q2, q3, q4, q5, q6, eq, hq⟩ := j2 false
              exact ⟨q1, q2, q3, q4, q5, q6, Ev.step (fun k => by rw [jF_.l0]) (Ev.pos hi (Ev.pos h0 (Ev.pos hi (Ev.neg c eq)))), hq⟩
          · exact ⟨kd, b, e, ns, ks, true, Ev.step (fun k => by rw [jF_.l0]) (Ev.neg hi (Ev.now _)), fun _ => ⟨by omega, h⟩⟩
      obtain ⟨q1, q2, q3, q4, q5, q6, eq, hq⟩ := go keys.length 0 kd b e ns ks (by omega) (by omega) (by omega) hg
      have ej : Ev (fun k => jF_.j0 k s keys (!true) kd b e ns ks) (q1, q2, q3, q4, q5, q6) := Ev.step (fun k => by rw [jF_.j0]) (Ev.neg (by decide) eq)
      exact ⟨q1, q2, q3, q4, q5, q6, Ev.bind e0 (Ev.pos rfl (Ev.bind er ej)), hq⟩
end Go.Proofs.YtmneeighbkcadaaDoor.JFnJpLength
