/- At the first byte of each number of a JSON text of at most 2^12 bytes gjson's reader of numbers ends where the number ends and has its text, and its reader of words does so at each true, false and null; conditions: none beside the statement's own. -/
import Derived.Test.YtnmbpleneddkhaaJCFnGjTokensAt
namespace Go.Proofs.Ytnmbpleneddkhaa.Pure
open Go.RowKit Go.Proofs.Ytnmbpleneddkhaa.PFnGjTokensAt Go.Proofs.Ytnmbpleneddkhaa.JFnGjTokensAt Go.Proofs.YtnmbpleneddkhaaW.PrintWords Go.Proofs.YtnmbpleneddkhaaW.PrintLast Go.Proofs.YtnmbpleneddkhaaW.PrintMore

def NumCh (c : Int) : Prop := (48 ≤ c ∧ c ≤ 57) ∨ c = 45 ∨ c = 43 ∨ c = 46 ∨ c = 101 ∨ c = 69
theorem num_ch {s : ByteArray} {i j : Int} (h : Num s i j) (q : Int) (h0 : i ≤ q) (h1 : q < j) : NumCh (bt s q) := by
  obtain ⟨a, b, c, ha, hb, hc, hj⟩ := h.out
  have d : ∀ {x y : Int}, Digs s x y → x ≤ q → q < y → NumCh (bt s q) := fun h h2 h3 => .inl (h.all q h2 h3)
  have cs : ∀ x : Int, q = x → NumCh (bt s x) → NumCh (bt s q) := fun x e h => e ▸ h
  by_cases q1 : q < a
  · exact cs i (by omega) (by unfold NumCh; omega)
  by_cases q2 : q < b
  · rcases hb with ⟨_, h2, h3⟩ | ⟨_, h2⟩
    · exact cs a (by omega) (by unfold NumCh; omega)
    · exact d h2 (by omega) q2
  by_cases q3 : q < c
  · rcases hc with ⟨h2, _⟩ | ⟨h2, h3⟩
    · omega
    · by_cases e : q = b
      · exact cs b e (by unfold NumCh; omega)
      · exact d h3 (by omega) q3
  rcases hj with ⟨h2, _⟩ | ⟨h2, h3⟩
  · omega
  by_cases e : q = c
  · exact cs c e (by unfold NumCh; omega)
  rcases h3 with ⟨_, _, h4⟩ | ⟨h3, h4⟩
  · exact d h4 (by omega) h1
  · by_cases e : q = c + 1
    · exact cs (c + 1) e (by unfold NumCh; omega)
    · exact d h4 (by omega) h1
theorem pn_ev (s : ByteArray) (hs : (s.size : Int) ≤ 2147483647) (a e : Int) (h0 : 0 ≤ a) (he : e ≤ s.size) (hf : Follow s e) (d : Nat) : ∀ i : Int, a ≤ i → i ≤ e → e - i = d → (∀ q, i ≤ q → q < e → NumCh (bt s q)) →
    Ev (fun k => gjson_parseNumber.l0 k s i a) (e, s.extract a.toNat e.toNat) := by
  induction d with
  | zero =>
    intro i h1 h2 hd hq
    obtain rfl : i = e := by omega
    refine Ev.step (fun k => by rw [gjson_parseNumber.l0]) ?_
    rcases hf with hf | ⟨hl, hc⟩
    · subst hf
      refine Ev.neg (by omega) (Ev.pos h0 (Ev.pos (by omega) ?_))
      exact Ev.eq (by simp) (Ev.now _)
    · refine Ev.pos hl (Ev.pos (by omega) ?_)
      by_cases c1 : bt s i ≤ 32
      · exact Ev.pos c1 (Ev.pos h0 (Ev.pos (by omega) (Ev.pos (by omega) (Ev.now _))))
      by_cases c2 : bt s i = 44
      · exact Ev.neg c1 (Ev.pos c2 (Ev.pos h0 (Ev.pos (by omega) (Ev.pos (by omega) (Ev.now _)))))
      by_cases c3 : bt s i = 93
      · exact Ev.neg c1 (Ev.neg c2 (Ev.pos c3 (Ev.pos h0 (Ev.pos (by omega) (Ev.pos (by omega) (Ev.now _))))))
      by_cases c4 : bt s i = 125
      · exact Ev.neg c1 (Ev.neg c2 (Ev.neg c3 (Ev.pos c4 (Ev.pos h0 (Ev.pos (by omega) (Ev.pos (by omega) (Ev.now _)))))))
      · unfold IsBl at hc; omega
  | succ d ih =>
    intro i h1 h2 hd hq
    have hc := hq i (by omega) (by omega)
    unfold NumCh at hc
    refine Ev.step (fun k => by rw [gjson_parseNumber.l0]) (Ev.pos (by omega) (Ev.pos (by omega) (Ev.neg (by omega) (Ev.neg (by omega) (Ev.neg (by omega) (Ev.neg (by omega) ?_))))))
    rw [w64 (by omega) (by omega)]
    exact ih (i + 1) (by omega) (by omega) (by omega) (fun q h3 h4 => hq q (by omega) h4)
theorem pl_ev (s : ByteArray) (hs : (s.size : Int) ≤ 2147483647) (a e : Int) (h0 : 0 ≤ a) (he : e ≤ s.size) (hf : Follow s e) (d : Nat) : ∀ i : Int, a ≤ i → i ≤ e → e - i = d → (∀ q, i ≤ q → q < e → 97 ≤ bt s q ∧ bt s q ≤ 122) →
    Ev (fun k => gjson_parseLiteral.l0 k s i a) (e, s.extract a.toNat e.toNat) := by
  induction d with
  | zero =>
    intro i h1 h2 hd hq
    obtain rfl : i = e := by omega
    refine Ev.step (fun k => by rw [gjson_parseLiteral.l0]) ?_
    rcases hf with hf | ⟨hl, hc⟩
    · subst hf
      refine Ev.neg (by omega) (Ev.pos h0 (Ev.pos (by omega) ?_))
      exact Ev.eq (by simp) (Ev.now _)
    · refine Ev.pos hl (Ev.pos (by omega) ?_)
      by_cases c1 : bt s i < 97
      · exact Ev.pos c1 (Ev.pos h0 (Ev.pos (by omega) (Ev.pos (by omega) (Ev.now _))))
      by_cases c2 : bt s i > 122
      · exact Ev.neg c1 (Ev.pos c2 (Ev.pos h0 (Ev.pos (by omega) (Ev.pos (by omega) (Ev.now _)))))
      · unfold IsBl at hc; omega
  | succ d ih =>
    intro i h1 h2 hd hq
    have hc := hq i (by omega) (by omega)
    refine Ev.step (fun k => by rw [gjson_parseLiteral.l0]) (Ev.pos (by omega) (Ev.pos (by omega) (Ev.neg (by omega) (Ev.neg (by omega) ?_))))
    rw [w64 (by omega) (by omega)]
    exact ih (i + 1) (by omega) (by omega) (by omega) (fun q h3 h4 => hq q (by omega) h4)
theorem word_ch {s w : ByteArray} {i : Int} (h : Word s i w) (h0 : 0 ≤ i) (hw : ∀ q : Nat, q < w.size → 97 ≤ bt w q ∧ bt w q ≤ 122) (q : Int) (h1 : i ≤ q) (h2 : q < i + w.size) : 97 ≤ bt s q ∧ bt s q ≤ 122 := by
  have := h.at_ h0 (q - i).toNat (by omega)
  rw [show i + (((q - i).toNat : Nat) : Int) = q by omega] at this
  rw [this]
  exact hw _ (by omega)
theorem lit_ch {s : ByteArray} {kd i j : Int} {ns : List Sp} {ks : List Pl} (h : JV s kd i j ns ks) (hk : kd < 3) (h0 : 0 ≤ i) (q : Int) (h1 : i ≤ q) (h2 : q < j) : 97 ≤ bt s q ∧ bt s q ≤ 122 := by
  cases h with
  | null h => exact word_ch h h0 (fun q hq => by have : q < 4 := hq; match q, this with | 0, _ => decide | 1, _ => decide | 2, _ => decide | 3, _ => decide) q h1 h2
  | fals h => exact word_ch h h0 (fun q hq => by have : q < 5 := hq; match q, this with | 0, _ => decide | 1, _ => decide | 2, _ => decide | 3, _ => decide | 4, _ => decide) q h1 h2
  | tru h => exact word_ch h h0 (fun q hq => by have : q < 4 := hq; match q, this with | 0, _ => decide | 1, _ => decide | 2, _ => decide | 3, _ => decide) q h1 h2
  | num _ _ => omega
  | str _ _ => omega
  | arr0 _ _ _ _ => omega
  | arr _ _ _ => omega
  | obj0 _ _ _ _ => omega
  | obj _ _ _ => omega
theorem jv_num {s : ByteArray} {kd i j : Int} {ns : List Sp} {ks : List Pl} (h : JV s kd i j ns ks) (hk : kd = 3) : Num s i j := by
  cases h with
  | num h _ => exact h
  | null _ => omega
  | fals _ => omega
  | tru _ => omega
  | str _ _ => omega
  | arr0 _ _ _ _ => omega
  | arr _ _ _ => omega
  | obj0 _ _ _ _ => omega
  | obj _ _ _ => omega
theorem law_l0 (s : ByteArray) (hs : (s.size : Int) ≤ 2147483647) (l : List Pl) (hl : l.length < 1000000000000) (hg : ∀ q ∈ l, GoodP s q) (d : Nat) : ∀ i : Nat, l.length - i = d →
    Ev (fun k => laws_FnGjTokensAt.l0 k s l (l.length : Int) (i : Int)) true := by
  induction d with
  | zero =>
    intro i hd
    exact Ev.step (fun k => by rw [laws_FnGjTokensAt.l0]) (Ev.neg (by omega) (Ev.now _))
  | succ d ih =>
    intro i hd
    have hi : i < l.length := by omega
    have g := hg l[i] (List.getElem_mem hi)
    have next : Ev (fun k => laws_FnGjTokensAt.l0 k s l (l.length : Int) (wrap64 ((i : Int) + 1))) true := by
      rw [w64 (by omega) (by omega)]
      exact ih (i + 1) (by omega)
    have := g.lo; have := g.lt; have := g.hi
    refine Ev.step (fun k => by rw [laws_FnGjTokensAt.l0]) (Ev.pos (by omega) (Ev.pos (by omega) (Ev.pos (by omega) ?_)))
    rw [rd_get l i hi]
    refine Ev.pos g.lo (Ev.pos (by omega) (Ev.pos g.hi ?_))
    by_cases c1 : l[i].f0 = 3
    · refine Ev.pos c1 ?_
      have hn : Num s l[i].f1 l[i].f2 := jv_num g.val c1
      have e := pn_ev s hs l[i].f1 l[i].f2 g.lo g.hi g.fol (l[i].f2 - (l[i].f1 + 1)).toNat (l[i].f1 + 1) (by omega) (by omega) (by omega) (fun q h1 h2 => num_ch hn q (by omega) h2)
      have e2 : Ev (fun k => impl_GjNumberAt.f k s l[i].f1) (l[i].f2, s.extract l[i].f1.toNat l[i].f2.toNat) := by
        unfold impl_GjNumberAt.f gjson_DoorNumber.f gjson_parseNumber.f
        rw [w64 (by omega) (by omega)]
        exact Ev.bind (Ev.bind e (Ev.now _)) (Ev.now _)
      exact Ev.bind e2 (Ev.pos rfl (Ev.pos rfl next))
    · refine Ev.neg c1 ?_
      by_cases c2 : l[i].f0 < 3
      · refine Ev.pos c2 ?_
        have e := pl_ev s hs l[i].f1 l[i].f2 g.lo g.hi g.fol (l[i].f2 - (l[i].f1 + 1)).toNat (l[i].f1 + 1) (by omega) (by omega) (by omega) (fun q h1 h2 => lit_ch g.val c2 g.lo q (by omega) h2)
        have e2 : Ev (fun k => impl_GjLiteralAt.f k s l[i].f1) (l[i].f2, s.extract l[i].f1.toNat l[i].f2.toNat) := by
          unfold impl_GjLiteralAt.f gjson_DoorLiteral.f gjson_parseLiteral.f
          rw [w64 (by omega) (by omega)]
          exact Ev.bind (Ev.bind e (Ev.now _)) (Ev.now _)
        exact Ev.bind e2 (Ev.pos rfl (Ev.pos rfl next))
      · exact Ev.neg c2 next
theorem FnGjTokensAt : laws_FnGjTokensAt.Pure := by
  intro s _
  refine Ev.rounds (r := true) (g := fun k => laws_FnGjTokensAt.f k s) ?_
  unfold laws_FnGjTokensAt.f
  by_cases c1 : (s.size : Int) > 2147483647
  · exact Ev.pos c1 (Ev.now _)
  refine Ev.neg c1 ?_
  have hs : (s.size : Int) ≤ 2147483647 := by omega
  obtain ⟨kd, b, e, ns, ks, ok, ev, h⟩ := places_ev s hs
  have fall : Ev (fun k => laws_FnGjTokensAt.j0 k s true kd b e ns ks) true :=
    Ev.step (fun k => by rw [laws_FnGjTokensAt.j0]) (Ev.pos rfl (Ev.now _))
  cases ok with
  | false => exact Ev.bind ev (Ev.neg Bool.false_ne_true fall)
  | true =>
    refine Ev.bind ev (Ev.pos rfl ?_)
    have t := h rfl
    have := t.front.le
    have a := jv_all t.val (by omega) t.lt t.hi (by
      have := t.back.le
      by_cases e2 : e = s.size
      · exact .inl e2
      · exact .inr ⟨by omega, .inl (t.back.all e (by omega) (by omega))⟩)
    by_cases c2 : (s.size : Int) > 4096
    · rw [decide_eq_true c2]; exact fall
    · rw [decide_eq_false c2]
      refine Ev.step (fun k => by rw [laws_FnGjTokensAt.j0]) (Ev.neg Bool.false_ne_true ?_)
      refine Ev.bind (all_ev ⟨kd, b, e, ns, ks⟩ (by have := a.2; have := t.hi; omega)) ?_
      exact law_l0 s hs _ (by have := a.2; have := t.hi; omega) a.1 _ 0 rfl
end Go.Proofs.Ytnmbpleneddkhaa.Pure
