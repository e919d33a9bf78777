/- match's search, over characters: where it is not counted; no condition beside those that each theorem states. -/
import Derived.Test.YtljmeaemonpkoaaDoorUFFnMtNoCaseSmall
namespace Go.Proofs.YtljmeaemonpkoaaDoor.UFnMtNoCaseSmall
open Go.RowKit Go.Proofs.YtljmeaemonpkoaaDoor.PFnMtNoCaseSmall Go.Proofs.YtljmeaemonpkoaaDoorW.PrintWords Go.Proofs.YtljmeaemonpkoaaDoorW.PrintLast Go.Proofs.YtljmeaemonpkoaaDoorW.PrintMore
set_option linter.unusedSimpArgs false
set_option linter.unusedVariables false

/-- What is said of an answer r at a text and its terms. -/
structure Ans (nb : Bool) (S : List Int) (g : List G) (r : Int) : Prop where
  ty : r = 0 ∨ r = 1
  yes : r = 1 → M (fo nb) S g
  no : r = 0 → ¬ M (fo nb) S g
theorem Ans.yes_of {nb : Bool} {S : List Int} {g : List G} (h : M (fo nb) S g) : Ans nb S g 1 := ⟨.inr rfl, fun _ => h, (fun h => by cases h)⟩
theorem Ans.no_of {nb : Bool} {S : List Int} {g : List G} (h : ¬ M (fo nb) S g) : Ans nb S g 0 := ⟨.inl rfl, (fun h => by cases h), fun _ => h⟩
/-- The rune that begins a text, as the search takes it. -/
theorem rune_ev {c : Int} (h : Vd c) (cs : List Int) {F : Nat → Int × Int → Option Int} {r : Int} (e : Ev (fun k => F k (c, ((en c).length : Int))) r) :
    Ev (fun k => if (wrap32 (bt (bs (c :: cs)) 0)) > 127 then ((utf8_DecodeRuneInString.f (bs (c :: cs))).bind (F k)) else F k (wrap32 (bt (bs (c :: cs)) 0), 1)) r := by
  have hv := h
  unfold Vd at hv
  have br := bt_range (bs (c :: cs)) 0
  have w32 : wrap32 (bt (bs (c :: cs)) 0) = bt (bs (c :: cs)) 0 := by unfold wrap32; omega
  rw [w32]
  by_cases ha : c < 128
  · have b0 := head_ascii h cs ha
    rw [b0]
    refine Ev.neg (by omega) ?_
    rw [en_ascii ha] at e
    exact e
  · have b0 := head_high h cs ha
    refine Ev.pos (by omega) (Ev.bd (dec_f h cs) e)
section
variable (nb : Bool) (a2 a4 : Int)
abbrev L0 (S P : List Int) (r : Int) : Prop := Ev (fun k => match_match.l0 k (bs S) (bs P) a2 a4 nb) r
theorem gl_star {r : List Int} {g : List G} (h : Gl (42 :: r) g) : ∃ g0, g = star :: g0 ∧ Gl r g0 := by
  generalize hx : (42 :: r : List Int) = x at h
  cases h with
  | nil => cases hx
  | star h => cases hx; exact ⟨_, rfl, h⟩
  | one h => exact absurd (List.cons.inj hx).1 (by decide)
  | esc h => exact absurd (List.cons.inj hx).1 (by decide)
  | lit h1 h2 h3 h => exact absurd (List.cons.inj hx).1.symm h1
/-- The search, called: from the search of its loop. -/
theorem call_ev (h4 : a4 ≤ -1) {S P : List Int} {g : List G} (H : ∃ r, L0 nb a2 a4 S P r ∧ Ans nb S g r) :
    ∃ r, Ev (fun k => match_match.f k (bs S) (bs P) a2 () a4 nb) r ∧ Ans nb S g r := by
  obtain ⟨r, e, A⟩ := H
  refine ⟨r, ?_, A⟩
  refine Ev.step (fun k => by rw [match_match.f]) ?_
  exact Ev.neg (by omega) e
theorem find_ev (h4 : a4 ≤ -1) (N : Nat) : ∀ (S P : List Int) (g : List G), S.length + P.length ≤ N → (∀ x ∈ S, Vd x) → (∀ x ∈ P, Vd x) → (bs S).size ≤ 50000 → (bs P).size ≤ 50000 → Gl P g →
    ∃ r, L0 nb a2 a4 S P r ∧ Ans nb S g r := by
  induction N using Nat.strongRecOn with
  | _ N ih =>
  intro S P g hN hvS hvP sS sP hg
  have st := fun k => (show match_match.l0 (k + 1) (bs S) (bs P) a2 a4 nb = _ by rw [match_match.l0])
  cases P with
  | nil =>
    obtain rfl : g = [] := by cases hg; rfl
    have z : ¬ (((bs ([] : List Int)).size : Nat) : Int) > 0 := by rw [bs_size_nil]; decide
    by_cases hS : S = []
    · exact ⟨1, Ev.step st (Ev.neg z (Ev.pos (by rw [hS, bs_size_nil]; rfl) (Ev.now _))), Ans.yes_of (M.nil_iff.2 hS)⟩
    · have := bs_pos.2 hS
      exact ⟨0, Ev.step st (Ev.neg z (Ev.neg (by omega) (Ev.now _))), Ans.no_of (fun h => hS (M.nil_iff.1 h))⟩
  | cons p P0 =>
    have hvp : Vd p := hvP p (by simp)
    have hvP0 : ∀ x ∈ P0, Vd x := fun x hx => hvP x (by simp [hx])
    have szP := bs_size_cons p P0
    have lp := en_len p
    -- the two runes
    have two : ∀ (u v : Int), (S = [] → u = 0 ∧ v = 0) → (∀ s T, S = s :: T → u = s ∧ v = ((en s).length : Int)) → ∀ {r : Int}, Ev (fun k => match_match.j2 k (bs S) (bs (p :: P0)) a2 a4 nb false p ((en p).length : Int) u v) r → Ev (fun k => match_match.l0 k (bs S) (bs (p :: P0)) a2 a4 nb) r := by
      intro u v h0 h1 r e
      have e2 : Ev (fun k => match_match.j1 k (bs S) (bs (p :: P0)) a2 a4 nb false p ((en p).length : Int)) r := by
        refine Ev.step (fun k => by rw [match_match.j1]) ?_
        cases S with
        | nil =>
          obtain ⟨rfl, rfl⟩ := h0 rfl
          exact Ev.neg (by rw [bs_size_nil]; decide) e
        | cons s T =>
          obtain ⟨rfl, rfl⟩ := h1 s T rfl
          have ls := en_len u
          have szS := bs_size_cons u T
          refine Ev.pos (by omega) (Ev.pos (by omega) ?_)
          exact rune_ev (hvS u (by simp)) T (F := fun k bt165 => match_match.j2 k (bs (u :: T)) (bs (p :: P0)) a2 a4 nb false p ((en p).length : Int) bt165.1 bt165.2) e
      refine Ev.step st (Ev.pos (by omega) (Ev.pos (by omega) ?_))
      exact rune_ev hvp P0 (F := fun k bt163 => match_match.j1 k (bs S) (bs (p :: P0)) a2 a4 nb false bt163.1 bt163.2) e2
    -- a character that is no star: held against one of the text's; q: what is behind it in the pattern
    have step1 : ∀ (pass : Int → Prop) [∀ s, Decidable (pass s)] (Q : List Int) (g0 : List G) (hQ : Q.length < (p :: P0).length) (hvQ : ∀ x ∈ Q, Vd x) (sQ : (bs Q).size ≤ 50000) (hgQ : Gl Q g0) (hstars : Q.count 42 ≤ (p :: P0).count 42)
        (hM0 : ¬ M (fo nb) [] g) (hM : ∀ s T, M (fo nb) (s :: T) g ↔ pass s ∧ M (fo nb) T g0)
        (run0 : S = [] → L0 nb a2 a4 S (p :: P0) 0) (runN : ∀ s T, S = s :: T → ¬ pass s → L0 nb a2 a4 S (p :: P0) 0)
        (runY : ∀ s T, S = s :: T → pass s → ∀ {r : Int}, L0 nb a2 a4 T Q r → L0 nb a2 a4 S (p :: P0) r),
        ∃ r, L0 nb a2 a4 S (p :: P0) r ∧ Ans nb S g r := by
      intro pass _ Q g0 hQ hvQ sQ hgQ hstars hM0 hM run0 runN runY
      cases S with
      | nil => exact ⟨0, run0 rfl, Ans.no_of hM0⟩
      | cons s T =>
        have szS := bs_size_cons s T
        by_cases hp : pass s
        · obtain ⟨r, e, A⟩ := ih (T.length + Q.length) (by simp only [List.length_cons] at hN hQ; omega) T Q g0 (Nat.le_refl _) (fun x hx => hvS x (by simp [hx])) hvQ (by omega) sQ hgQ
          exact ⟨r, runY s T rfl hp e, A.ty, fun h => (hM s T).2 ⟨hp, A.yes h⟩, fun h k => A.no h ((hM s T).1 k).2⟩
        · exact ⟨0, runN s T rfl hp, Ans.no_of (fun k => hp ((hM s T).1 k).1)⟩
    by_cases hq : p = 63
    · -- a question mark
      subst hq
      obtain ⟨g0, rfl, hg0⟩ : ∃ g0, g = one :: g0 ∧ Gl P0 g0 := by
        generalize hx : (63 :: P0 : List Int) = x at hg
        cases hg with
        | nil => cases hx
        | star h => exact absurd (List.cons.inj hx).1 (by decide)
        | one h => cases hx; exact ⟨_, rfl, h⟩
        | esc h => exact absurd (List.cons.inj hx).1 (by decide)
        | lit h1 h2 h3 h => exact absurd (List.cons.inj hx).1.symm h2
      refine step1 (fun _ => True) P0 g0 (by simp) hvP0 (by omega) hg0 (List.count_le_count_cons ..) ?_ ?_ ?_ ?_ ?_
      · intro h
        obtain ⟨c, t, e, _⟩ := M.one_iff.1 h
        cases e
      · intro s T
        rw [M.one_iff]
        constructor
        · rintro ⟨c, t, e, h⟩; cases e; exact ⟨trivial, h⟩
        · rintro ⟨_, h⟩; exact ⟨s, T, rfl, h⟩
      · intro hS
        refine two 0 0 (fun _ => ⟨rfl, rfl⟩) (fun s T h => by rw [hS] at h; cases h) ?_
        refine Ev.step (fun k => by rw [match_match.j2]) ?_
        exact Ev.pos rfl (Ev.pos rfl (Ev.now _))
      · intro s T _ h; exact absurd trivial h
      · intro s T hS _ r e
        subst hS
        have ls := en_len s
        have szS := bs_size_cons s T
        refine two s ((en s).length : Int) (fun h => by cases h) (fun s' T' h => by cases h; exact ⟨rfl, rfl⟩) ?_
        refine Ev.step (fun k => by rw [match_match.j2]) ?_
        rw [Int.toNat_natCast, Int.toNat_natCast, bs_tail, bs_tail]
        exact Ev.pos rfl (Ev.neg (by omega) (Ev.pos (by omega) (Ev.pos (by omega) (Ev.neg Bool.false_ne_true (Ev.pos (by omega) (Ev.pos (by omega) e))))))
    by_cases hst : p = 42
    · -- a star
      subst hst
      obtain ⟨g0, rfl, hg0⟩ := gl_star hg
      obtain ⟨u, v, h0, h1⟩ : ∃ u v : Int, (S = [] → u = 0 ∧ v = 0) ∧ (∀ s T, S = s :: T → u = s ∧ v = ((en s).length : Int)) := by
        cases S with
        | nil => exact ⟨0, 0, fun _ => ⟨rfl, rfl⟩, nofun⟩
        | cons s T => exact ⟨s, ((en s).length : Int), nofun, fun s' T' h => by cases h; exact ⟨rfl, rfl⟩⟩
      -- behind the stars
      have j5 : ∀ (P1 : List Int) (g1 : List G), P1.length ≤ P0.length → (∀ x ∈ P1, Vd x) → (bs (42 :: P1)).size ≤ 50000 → Gl P1 g1 → (42 :: P1).count 42 ≤ (42 :: P0).count 42 →
          ∃ r, Ev (fun k => match_match.j4 k (bs S) (bs (42 :: P1)) a2 a4 nb v) r ∧ Ans nb S (star :: g1) r := by
        intro P1 g1 hl hv1 s1 hg1 hc1
        have st5 := fun k => (show match_match.j4 (k + 1) (bs S) (bs (42 :: P1)) a2 a4 nb v = _ by rw [match_match.j4])
        have sz1 := bs_size_cons 42 P1
        rw [show (en 42).length = 1 from rfl] at sz1
        by_cases hP1 : P1 = []
        · subst hP1
          obtain rfl : g1 = [] := by cases hg1; rfl
          exact ⟨1, Ev.step st5 (Ev.pos (by rw [sz1, bs_size_nil]; rfl) (Ev.now _)), Ans.yes_of M.star_all⟩
        have := bs_pos.2 hP1
        obtain ⟨S', P', ok, e, hno, hyes⟩ := trim_ev nb S.length S (42 :: P1) (star :: g1) (Nat.le_refl _) hvS (fun x hx => by
          rcases List.mem_cons.1 hx with rfl | hx
          · unfold Vd; omega
          · exact hv1 x hx) sS s1 (.star hg1) ⟨P1, rfl⟩
        have e' : Ev (fun k => match_matchTrimSuffix.f k (bs S) (bs (42 :: P1)) nb) (bs S', bs P', ok) := e
        cases ok with
        | false => exact ⟨0, Ev.step st5 (Ev.neg (by omega) (Ev.bind e' (Ev.neg Bool.false_ne_true (Ev.now _)))), Ans.no_of (hno rfl)⟩
        | true =>
          obtain ⟨⟨t, ht⟩, ⟨q, hq⟩, P2, g', rfl, hg', hM⟩ := hyes rfl
          obtain ⟨g2, rfl, hg2⟩ := gl_star hg'
          have sz2 := bs_size_cons 42 P2
          rw [show (en 42).length = 1 from rfl] at sz2
          have szt : (bs S).size = (bs S').size + (bs t).size := by rw [ht, bs_size_app]
          have szq : (bs (42 :: P1)).size = (bs (42 :: P2)).size + (bs q).size := by rw [hq, bs_size_app]
          have lS : S.length = S'.length + t.length := by rw [ht, List.length_append]
          have lP : P1.length = P2.length + q.length := by
            have := congrArg List.length hq
            simp only [List.length_cons, List.length_append] at this
            omega
          have cP : (42 :: P1).count 42 = (42 :: P2).count 42 + q.count 42 := by rw [hq, List.count_append]
          have cc : (42 :: P2).count 42 = P2.count 42 + 1 := List.count_cons_self
          have vS' : ∀ x ∈ S', Vd x := fun x hx => hvS x (by rw [ht]; simp [hx])
          have vP2 : ∀ x ∈ P2, Vd x := fun x hx => by
            have : x ∈ (42 :: P1) := by rw [hq]; simp [hx]
            rcases List.mem_cons.1 this with rfl | h
            · unfold Vd; omega
            · exact hv1 x h
          by_cases hP2 : P2 = []
          · subst hP2
            obtain rfl : g2 = [] := by cases hg2; rfl
            exact ⟨1, Ev.step st5 (Ev.neg (by omega) (Ev.bind e' (Ev.pos rfl (Ev.pos (by show (((bs [42]).size : Nat) : Int) = 1; rw [bs_size_one]; rfl) (Ev.now _))))), Ans.yes_of (hM.2 M.star_all)⟩
          have p2 := bs_pos.2 hP2
          have xt : (bs (42 :: P2)).extract 1 (bs (42 :: P2)).size = bs P2 := bs_tail 42 P2
          simp only [List.length_cons] at hN
          obtain ⟨r, er, hr, hr1, hr0⟩ := call_ev nb a2 a4 h4 (S := S') (P := P2) (g := g2) (ih (S'.length + P2.length) (by omega) S' P2 g2 (Nat.le_refl _) vS' vP2 (by omega) (by omega) hg2)
          have er' : Ev (fun k => match_match.f k (bs S') ((bs (42 :: P2)).extract 1 (bs (42 :: P2)).size) a2 () a4 nb) r := by rw [xt]; exact er
          by_cases hr00 : r = 0
          · subst hr00
            have n2 := hr0 rfl
            cases S' with
            | nil =>
              refine ⟨0, Ev.step st5 (Ev.neg (by omega) (Ev.bind e' (Ev.pos rfl (Ev.neg (by show ¬ (((bs (42 :: P2)).size : Nat) : Int) = 1; omega) (Ev.pos (by show (1 : Int) ≤ (((bs (42 :: P2)).size : Nat) : Int); omega) (Ev.bind er' (Ev.pos rfl (Ev.pos rfl (Ev.now _))))))))), .inl rfl, (fun h => by cases h), fun _ k => ?_⟩
              rcases M.star_step.1 (hM.1 k) with h | ⟨_, _, h, _⟩
              · exact n2 h
              · cases h
            | cons s T' =>
              obtain ⟨T, hT⟩ : ∃ T, S = s :: T := ⟨T' ++ t, ht⟩
              obtain ⟨rfl, rfl⟩ := h1 s T hT
              have ls := en_len u
              have szS' := bs_size_cons u T'
              simp only [List.length_cons] at lS
              obtain ⟨r2, e2, A⟩ := ih (T'.length + (42 :: P2).length) (by simp only [List.length_cons]; omega) T' (42 :: P2) (star :: g2) (Nat.le_refl _) (fun x hx => vS' x (by simp [hx])) (fun x hx => by
                rcases List.mem_cons.1 hx with rfl | hx
                · unfold Vd; omega
                · exact vP2 x hx) (by omega) (by omega) hg'
              have e2' : Ev (fun k => match_match.l0 k ((bs (u :: T')).extract (((en u).length : Int)).toNat (bs (u :: T')).size) (bs (42 :: P2)) a2 a4 nb) r2 := by
                rw [Int.toNat_natCast, bs_tail]; exact e2
              refine ⟨r2, Ev.step st5 (Ev.neg (by omega) (Ev.bind e' (Ev.pos rfl (Ev.neg (by show ¬ (((bs (42 :: P2)).size : Nat) : Int) = 1; omega) (Ev.pos (by show (1 : Int) ≤ (((bs (42 :: P2)).size : Nat) : Int); omega) (Ev.bind er' (Ev.pos rfl (Ev.neg (by show ¬ (((bs (u :: T')).size : Nat) : Int) = 0; omega) (Ev.pos (by omega) (Ev.pos (by show ((en u).length : Int) ≤ (((bs (u :: T')).size : Nat) : Int); omega) e2')))))))))),
                A.ty, fun h => hM.2 (M.star_step.2 (.inr ⟨u, T', rfl, A.yes h⟩)), fun h k => ?_⟩
              · rcases M.star_step.1 (hM.1 k) with h3 | ⟨x, y, h3, h4⟩
                · exact n2 h3
                · cases h3; exact A.no h h4
          · refine ⟨r, Ev.step st5 (Ev.neg (by omega) (Ev.bind e' (Ev.pos rfl (Ev.neg (by show ¬ (((bs (42 :: P2)).size : Nat) : Int) = 1; omega) (Ev.pos (by show (1 : Int) ≤ (((bs (42 :: P2)).size : Nat) : Int); omega) (Ev.bind er' (Ev.neg hr00 (Ev.now _)))))))), hr, fun h => hM.2 (M.star_step.2 (.inl (hr1 h))), fun h => absurd h hr00⟩
      have l1 : ∀ (d : Nat) (P1 : List Int) (g1 : List G), P1.length = d → P1.length ≤ P0.length → (∀ x ∈ P1, Vd x) → (bs (42 :: P1)).size ≤ 50000 → Gl P1 g1 → (42 :: P1).count 42 ≤ (42 :: P0).count 42 →
          ∃ r, Ev (fun k => match_match.l1 k (bs S) (bs (42 :: P1)) a2 a4 nb v) r ∧ Ans nb S (star :: g1) r := by
        intro d
        induction d with
        | zero =>
          intro P1 g1 hd hl hv1 s1 hg1 hc1
          obtain ⟨r, e, A⟩ := j5 P1 g1 hl hv1 s1 hg1 hc1
          obtain rfl := List.eq_nil_of_length_eq_zero hd
          exact ⟨r, Ev.step (fun k => by rw [match_match.l1]) (Ev.neg (by rw [bs_size_one]; decide) e), A⟩
        | succ d ihd =>
          intro P1 g1 hd hl hv1 s1 hg1 hc1
          obtain ⟨x, P2, rfl⟩ : ∃ x P2, P1 = x :: P2 := by cases P1 with | nil => cases hd | cons x P2 => exact ⟨x, P2, rfl⟩
          have sz1 := bs_size_cons 42 (x :: P2)
          rw [show (en 42).length = 1 from rfl] at sz1
          have sz2 := bs_size_cons x P2
          have lx := en_len x
          have hvx : Vd x := hv1 x (by simp)
          have b1 : bt (bs (42 :: x :: P2)) 1 = bt (bs (x :: P2)) 0 := by
            rw [bs_cons 42]
            have := bt_r (strOfNums (en 42)) (bs (x :: P2)) 0 (by omega) (by omega)
            rw [strOfNums_size] at this
            exact this
          have st1 := fun k => (show match_match.l1 (k + 1) (bs S) (bs (42 :: x :: P2)) a2 a4 nb v = _ by rw [match_match.l1])
          rw [b1] at st1
          by_cases hx : x = 42
          · subst hx
            obtain ⟨g2, rfl, hg2⟩ := gl_star hg1
            obtain ⟨r, e, A⟩ := ihd P2 g2 (by simpa using hd) (by simp only [List.length_cons] at hl; omega) (fun y hy => hv1 y (by simp [hy])) (by omega) hg2 (by
              have : (42 :: 42 :: P2).count 42 = (42 :: P2).count 42 + 1 := List.count_cons_self
              omega)
            have xt : (bs (42 :: 42 :: P2)).extract 1 (bs (42 :: 42 :: P2)).size = bs (42 :: P2) := bs_tail 42 (42 :: P2)
            refine ⟨r, Ev.step st1 (Ev.pos (by omega) (Ev.pos (by omega) (Ev.pos (head_ascii hvx P2 (by decide)) (Ev.pos (by omega) ?_)))), A.ty, fun h => M.star_star.2 (A.yes h), fun h k => A.no h (M.star_star.1 k)⟩
            rw [xt]; exact e
          · obtain ⟨r, e, A⟩ := j5 (x :: P2) g1 hl hv1 s1 hg1 hc1
            refine ⟨r, Ev.step st1 (Ev.pos (by omega) (Ev.pos (by omega) (Ev.neg ?_ e))), A⟩
            by_cases ha : x < 128
            · rw [head_ascii hvx P2 ha]; exact hx
            · have := head_high hvx P2 ha; omega
      obtain ⟨r, e, A⟩ := l1 P0.length P0 g0 rfl (Nat.le_refl _) hvP0 sP hg0 (Nat.le_refl _)
      refine ⟨r, two u v h0 h1 (Ev.step (fun k => by rw [match_match.j2]) ?_), A⟩
      exact Ev.neg (by decide) (Ev.pos rfl e)
    -- a character held against the text's
    have j67 : ∀ (x x15 s : Int) (Q T : List Int), Vd x → Vd s → (∀ y ∈ S, Vd y) → S = s :: T → x15 = ((en x).length : Int) → ∀ (X : ByteArray), X = bs (x :: Q) →
        (fo nb s = fo nb x → ∀ {r : Int}, L0 nb a2 a4 T Q r → Ev (fun k => match_match.j5 k (bs S) X a2 a4 nb false x x15 s ((en s).length : Int)) r) ∧
        (¬ fo nb s = fo nb x → Ev (fun k => match_match.j5 k (bs S) X a2 a4 nb false x x15 s ((en s).length : Int)) 0) := by
      intro x x15 s Q T hx hs _ hS h15 X hX
      subst hS hX h15
      have ls := en_len s
      have lx := en_len x
      have szS := bs_size_cons s T
      have szX := bs_size_cons x Q
      have j7 : ∀ (x' s' : Int), (s' = x' → ∀ {r : Int}, L0 nb a2 a4 T Q r → Ev (fun k => match_match.j6 k (bs (s :: T)) (bs (x :: Q)) a2 a4 nb false x' ((en x).length : Int) s' ((en s).length : Int)) r) ∧ (¬ s' = x' → Ev (fun k => match_match.j6 k (bs (s :: T)) (bs (x :: Q)) a2 a4 nb false x' ((en x).length : Int) s' ((en s).length : Int)) 0) := by
        intro x' s'
        refine ⟨fun h r e => Ev.step (fun k => by rw [match_match.j6]) ?_, fun h => Ev.step (fun k => by rw [match_match.j6]) (Ev.neg h (Ev.now _))⟩
        rw [Int.toNat_natCast, Int.toNat_natCast, bs_tail, bs_tail]
        exact Ev.pos h (Ev.pos (by omega) (Ev.pos (by omega) (Ev.neg Bool.false_ne_true (Ev.pos (by omega) (Ev.pos (by omega) e)))))
      cases nb with
      | true =>
        refine ⟨fun h r e => Ev.step (fun k => by rw [match_match.j5]) ?_, fun h => Ev.step (fun k => by rw [match_match.j5]) ?_⟩
        · exact Ev.pos rfl (Ev.bd (tolower_f hs) (Ev.bd (tolower_f hx) ((j7 (tl x) (tl s)).1 h e)))
        · exact Ev.pos rfl (Ev.bd (tolower_f hs) (Ev.bd (tolower_f hx) ((j7 (tl x) (tl s)).2 h)))
      | false =>
        refine ⟨fun h r e => Ev.step (fun k => by rw [match_match.j5]) ?_, fun h => Ev.step (fun k => by rw [match_match.j5]) ?_⟩
        · exact Ev.neg Bool.false_ne_true ((j7 x s).1 h e)
        · exact Ev.neg Bool.false_ne_true ((j7 x s).2 h)
    have emptyS : S = [] → L0 nb a2 a4 S (p :: P0) 0 := by
      intro hS
      refine two 0 0 (fun _ => ⟨rfl, rfl⟩) (fun s T h => by rw [hS] at h; cases h) ?_
      refine Ev.step (fun k => by rw [match_match.j2]) ?_
      exact Ev.neg hq (Ev.neg hst (Ev.pos rfl (Ev.now _)))
    have litM0 : ∀ {d : Int} {g0 : List G}, ¬ M (fo nb) [] (lit d :: g0) := by
      intro d g0 h
      obtain ⟨c, t, e, _⟩ := M.lit_iff.1 h
      cases e
    have litM : ∀ {d : Int} {g0 : List G} (s : Int) (T : List Int), M (fo nb) (s :: T) (lit d :: g0) ↔ fo nb s = fo nb d ∧ M (fo nb) T g0 := by
      intro d g0 s T
      rw [M.lit_iff]
      constructor
      · rintro ⟨c, t, e, h1, h2⟩; cases e; exact ⟨h1, h2⟩
      · rintro ⟨h1, h2⟩; exact ⟨s, T, rfl, h1, h2⟩
    by_cases hsl : p = 92
    · -- behind a backslash
      subst hsl
      obtain ⟨c, P1, g0, rfl, rfl, hg0⟩ : ∃ c P1 g0, P0 = c :: P1 ∧ g = lit c :: g0 ∧ Gl P1 g0 := by
        generalize hx : (92 :: P0 : List Int) = x at hg
        cases hg with
        | nil => cases hx
        | star h => exact absurd (List.cons.inj hx).1 (by decide)
        | one h => exact absurd (List.cons.inj hx).1 (by decide)
        | esc h => cases hx; exact ⟨_, _, _, rfl, rfl, h⟩
        | lit h1 h2 h3 h => exact absurd (List.cons.inj hx).1.symm h3
      have hvc : Vd c := hvP0 c (by simp)
      have szc := bs_size_cons c P1
      have lc := en_len c
      have xt : (bs (92 :: c :: P1)).extract (((en 92).length : Int)).toNat (bs (92 :: c :: P1)).size = bs (c :: P1) := by rw [Int.toNat_natCast, bs_tail]
      have run : ∀ s T, S = s :: T → ∀ {r : Int}, Ev (fun k => match_match.j5 k (bs S) (bs (c :: P1)) a2 a4 nb false c ((en c).length : Int) s ((en s).length : Int)) r → L0 nb a2 a4 S (92 :: c :: P1) r := by
        intro s T hS r e
        have ls := en_len s
        refine two s ((en s).length : Int) (fun h => by rw [hS] at h; cases h) (fun s' T' h => by rw [hS] at h; cases h; exact ⟨rfl, rfl⟩) ?_
        refine Ev.step (fun k => by rw [match_match.j2]) ?_
        rw [xt]
        refine Ev.neg hq (Ev.neg hst (Ev.neg (by omega) (Ev.pos rfl (Ev.pos (by omega) (Ev.pos (by omega) (Ev.bd (dec_f hvc P1) ?_))))))
        exact Ev.neg (by show ¬ ((en c).length : Int) = 0; omega) e
      refine step1 (fun s => fo nb s = fo nb c) P1 g0 (by simp; omega) (fun x hx => hvP0 x (by simp [hx])) (by omega) hg0 (Nat.le_trans (List.count_le_count_cons ..) (List.count_le_count_cons ..)) litM0 litM emptyS ?_ ?_
      · intro s T hS hp
        exact run s T hS ((j67 c _ s P1 T hvc (hvS s (by rw [hS]; simp)) hvS hS rfl _ rfl).2 hp)
      · intro s T hS hp r e
        exact run s T hS ((j67 c _ s P1 T hvc (hvS s (by rw [hS]; simp)) hvS hS rfl _ rfl).1 hp e)
    · obtain ⟨g0, rfl, hg0⟩ : ∃ g0, g = lit p :: g0 ∧ Gl P0 g0 := by
        generalize hx : (p :: P0 : List Int) = x at hg
        cases hg with
        | nil => cases hx
        | star h => exact absurd (List.cons.inj hx).1 hst
        | one h => exact absurd (List.cons.inj hx).1 hq
        | esc h => exact absurd (List.cons.inj hx).1 hsl
        | lit h1 h2 h3 h => cases hx; exact ⟨_, rfl, h⟩
      have run : ∀ s T, S = s :: T → ∀ {r : Int}, Ev (fun k => match_match.j5 k (bs S) (bs (p :: P0)) a2 a4 nb false p ((en p).length : Int) s ((en s).length : Int)) r → L0 nb a2 a4 S (p :: P0) r := by
        intro s T hS r e
        have ls := en_len s
        refine two s ((en s).length : Int) (fun h => by rw [hS] at h; cases h) (fun s' T' h => by rw [hS] at h; cases h; exact ⟨rfl, rfl⟩) ?_
        refine Ev.step (fun k => by rw [match_match.j2]) ?_
        exact Ev.neg hq (Ev.neg hst (Ev.neg (by omega) (Ev.neg hsl e)))
      refine step1 (fun s => fo nb s = fo nb p) P0 g0 (by simp) hvP0 (by omega) hg0 (List.count_le_count_cons ..) litM0 litM emptyS ?_ ?_
      · intro s T hS hp
        exact run s T hS ((j67 p _ s P0 T hvp (hvS s (by rw [hS]; simp)) hvS hS rfl _ rfl).2 hp)
      · intro s T hS hp r e
        exact run s T hS ((j67 p _ s P0 T hvp (hvS s (by rw [hS]; simp)) hvS hS rfl _ rfl).1 hp e)
end
end Go.Proofs.YtljmeaemonpkoaaDoor.UFnMtNoCaseSmall
