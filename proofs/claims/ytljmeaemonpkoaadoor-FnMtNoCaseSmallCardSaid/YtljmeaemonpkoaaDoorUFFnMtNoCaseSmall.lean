/- match's loops, over characters: the pattern's end held against the text's, and the search; no condition beside those that each theorem states. -/
import Derived.Test.YtljmeaemonpkoaaDoorUEFnMtNoCaseSmall
namespace Go.Proofs.YtljmeaemonpkoaaDoor.UFnMtNoCaseSmall
open Go.RowKit Go.Proofs.YtljmeaemonpkoaaDoor.PFnMtNoCaseSmall Go.Proofs.YtljmeaemonpkoaaDoorW.PrintWords Go.Proofs.YtljmeaemonpkoaaDoorW.PrintLast Go.Proofs.YtljmeaemonpkoaaDoorW.PrintMore
set_option linter.unusedSimpArgs false
set_option linter.unusedVariables false

def tl (c : Int) : Int := if 65 ≤ c ∧ c ≤ 90 then c + 32 else c
def fo (nb : Bool) : Int → Int := if nb then tl else id
theorem tolower_f {c : Int} (h : Vd c) : match_tolower.f c = some (tl c) := by
  unfold match_tolower.f tl
  unfold Vd at h
  by_cases h1 : c ≥ 65
  · rw [if_pos h1]
    by_cases h2 : c ≤ 90
    · rw [if_pos h2, if_pos ⟨h1, h2⟩]
      congr 1
      unfold wrap32; omega
    · rw [if_neg h2, if_neg (by omega)]
  · rw [if_neg h1, if_neg (by omega)]
theorem tl63 {c : Int} : tl c = 63 ↔ c = 63 := by unfold tl; split <;> omega

/-! ### the pattern's end -/
theorem tz_form (Q : List Int) (h : 42 ∈ Q) : ∃ R d, Q = R ++ d :: List.replicate (tz Q) 92 ∧ d ≠ 92 := by
  have key : ∀ P : List Int, 42 ∈ P.reverse → ∃ R d, P.reverse = R ++ d :: List.replicate (tz P.reverse) 92 ∧ d ≠ 92 := by
    intro P
    induction P with
    | nil => intro h; simp at h
    | cons c P ih =>
      intro h
      rw [List.reverse_cons] at h ⊢
      by_cases hc : c = 92
      · subst hc
        have h2 : 42 ∈ P.reverse := by
          rcases List.mem_append.1 h with h | h
          · exact h
          · simp at h
        obtain ⟨R, d, e, hd⟩ := ih h2
        refine ⟨R, d, ?_, hd⟩
        rw [tz_slash, List.replicate_succ', ← List.cons_append, ← List.append_assoc, ← e]
      · exact ⟨P.reverse, c, by rw [tz_other _ hc]; rfl, hc⟩
  have := key Q.reverse (by rwa [List.reverse_reverse])
  rwa [List.reverse_reverse] at this
theorem bs_mid {x : Int} (h : Vd x) (A B : List Int) {i : Nat} {z : Int} (hz : (en x)[i]? = some z) : bt (bs (A ++ x :: B)) ((bs A).size + i) = z := by
  obtain ⟨hi, _⟩ := List.getElem?_eq_some_iff.1 hz
  rw [bs_app, bt_r _ _ _ (by omega) (by rw [bs_size_cons]; omega)]
  exact bs_head h B hz
theorem vd92 : Vd 92 := by unfold Vd; omega
theorem en92 : en 92 = [92] := rfl
theorem bs_rep (n : Nat) : (bs (List.replicate n 92)).size = n := by
  induction n with
  | zero => rfl
  | succ n ih => rw [List.replicate_succ, bs_size_cons, ih, en92]; simp; omega
/-- The bytes ahead of a pattern's last character: backslashes, and then another one. -/
theorem slashes (Q : List Int) (c : Int) (hv : ∀ x ∈ Q, Vd x) (h : 42 ∈ Q) : (∀ i : Nat, i < tz Q → bt (bs (Q ++ [c])) ((bs Q).size - 1 - i) = 92) ∧ bt (bs (Q ++ [c])) ((bs Q).size - 1 - tz Q) ≠ 92 ∧ tz Q < (bs Q).size := by
  obtain ⟨R, d, e, hd⟩ := tz_form Q h
  obtain ⟨n, hn⟩ : ∃ n, tz Q = n := ⟨_, rfl⟩
  rw [hn] at e ⊢
  have hvd : Vd d := hv d (by rw [e]; simp)
  have hl := en_len d
  have sz : (bs Q).size = (bs R).size + (en d).length + n := by rw [e, bs_size_app, bs_size_cons, bs_rep]; omega
  refine ⟨fun i hi => ?_, ?_, by omega⟩
  · have e2 : Q ++ [c] = (R ++ d :: List.replicate (n - 1 - i) 92) ++ 92 :: (List.replicate i 92 ++ [c]) := by
      rw [e]
      have : List.replicate n (92 : Int) = List.replicate (n - 1 - i) 92 ++ 92 :: List.replicate i 92 := by
        rw [← List.replicate_succ, List.replicate_append_replicate]
        congr 1
        omega
      rw [this]
      simp
    have sA : (bs (R ++ d :: List.replicate (n - 1 - i) 92)).size = (bs R).size + (en d).length + (n - 1 - i) := by rw [bs_size_app, bs_size_cons, bs_rep]; omega
    have := bs_mid vd92 (R ++ d :: List.replicate (n - 1 - i) 92) (List.replicate i 92 ++ [c]) (i := 0) (z := 92) rfl
    rw [← e2, sA] at this
    rw [← this]
    congr 1
    omega
  · have e2 : Q ++ [c] = R ++ d :: (List.replicate n 92 ++ [c]) := by rw [e]; simp
    by_cases ha : d < 128
    · have := bs_mid hvd R (List.replicate n 92 ++ [c]) (i := 0) (z := d) (by rw [en_ascii ha]; rfl)
      rw [← e2] at this
      rw [en_ascii ha] at sz
      simp only [List.length_cons, List.length_nil] at sz
      rw [show ((bs Q).size : Int) - 1 - n = (bs R).size + ((0 : Nat) : Int) by omega, this]
      exact hd
    · have hen : ∃ i z, (en d)[i]? = some z ∧ i + 1 = (en d).length ∧ 128 ≤ z := by
        have hw := hvd
        unfold Vd at hw
        unfold en
        rw [if_neg ha]
        split
        · exact ⟨1, _, rfl, rfl, by omega⟩
        · split
          · exact ⟨2, _, rfl, rfl, by omega⟩
          · exact ⟨3, _, rfl, rfl, by omega⟩
      obtain ⟨i, z, h1, h2, h3⟩ := hen
      have := bs_mid hvd R (List.replicate n 92 ++ [c]) h1
      rw [← e2] at this
      rw [show ((bs Q).size : Int) - 1 - n = (bs R).size + i by omega, this]
      omega
theorem bit0 (i : Nat) (h : i < 100000) : Go.bits .and .i64 (i : Int) 1 = ((i % 2 : Nat) : Int) := by
  have e := bits_mask .i64 63 (by decide) (fun n h0 h1 => by rw [IntKind.wrap_i64]; omega) 1 (by decide) i (by omega) (by omega)
  rw [show ((2 : Int) ^ 1 - 1) = 1 by decide] at e
  rw [e]
  omega
abbrev R3 := ByteArray × ByteArray × Bool
theorem l1_ev (S Q : List Int) (c : Int) (hc : Vd c) (hv : ∀ x ∈ Q, Vd x) (h42 : 42 ∈ Q) (hs : (bs (Q ++ [c])).size ≤ 50000) (nb x9 : Bool) (x10 : Int) {r : R3}
    (e : Ev (fun k => match_matchTrimSuffix.j3 k (bs S) (bs (Q ++ [c])) nb x9 x10 (if tz Q % 2 = 1 then ((en c).length : Int) + 1 else ((en c).length : Int)) (decide (tz Q % 2 = 1))) r) (d : Nat) : ∀ i : Nat, tz Q - i = d → i ≤ tz Q →
    Ev (fun k => match_matchTrimSuffix.l1 k (bs S) (bs (Q ++ [c])) nb x9 x10 ((en c).length : Int) false (i : Int)) r := by
  obtain ⟨h1, h2, h3⟩ := slashes Q c hv h42
  have sz : (bs (Q ++ [c])).size = (bs Q).size + (en c).length := by rw [bs_size_app, bs_size_one]
  have pos : ∀ i : Nat, i ≤ tz Q → wrap64 (wrap64 (wrap64 (((bs (Q ++ [c])).size : Int) - ((en c).length : Int)) - (i : Int)) - 1) = ((bs Q).size : Int) - 1 - i := by
    intro i hi
    rw [w64 (x := ((bs (Q ++ [c])).size : Int) - ((en c).length : Int)) (by omega) (by omega), w64 (x := ((bs (Q ++ [c])).size : Int) - ((en c).length : Int) - (i : Int)) (by omega) (by omega), w64 (by omega) (by omega)]
    omega
  induction d with
  | zero =>
    intro i hd hi
    obtain rfl : i = tz Q := by omega
    refine Ev.step (fun k => by rw [match_matchTrimSuffix.l1]) ?_
    rw [pos _ hi, bit0 _ (by omega)]
    refine Ev.pos (by omega) (Ev.pos (by omega) (Ev.neg h2 ?_))
    by_cases ho : tz Q % 2 = 1
    · rw [if_pos ho, decide_eq_true ho] at e
      refine Ev.pos (by omega) ?_
      have := (en_len c).2
      rw [w64 (by omega) (by omega)]
      exact e
    · rw [if_neg ho, decide_eq_false ho] at e
      exact Ev.neg (by omega) e
  | succ d ih =>
    intro i hd hi
    refine Ev.step (fun k => by rw [match_matchTrimSuffix.l1]) ?_
    rw [pos _ hi]
    refine Ev.pos (by omega) (Ev.pos (by omega) (Ev.pos (h1 i (by omega)) ?_))
    rw [w64 (by omega) (by omega), show (i : Int) + 1 = ((i + 1 : Nat) : Int) by omega]
    exact ih (i + 1) (by omega) (by omega)
theorem decL_f {c : Int} (h : Vd c) (cs : List Int) (hs : (bs (cs ++ [c])).size ≤ 50000) : utf8_DecodeLastRuneInString.f (bs (cs ++ [c])) = some (c, ((en c).length : Int)) := by
  unfold utf8_DecodeLastRuneInString.f
  rw [if_pos (by omega), decL_bs h]
  unfold Vd at h
  congr 2
  omega
theorem dec_f {c : Int} (h : Vd c) (cs : List Int) : utf8_DecodeRuneInString.f (bs (c :: cs)) = some (c, ((en c).length : Int)) := by
  unfold utf8_DecodeRuneInString.f
  rw [dec_bs h]
  unfold Vd at h
  congr 2
  omega
theorem cut_last (cs : List Int) (c : Int) (hs : (bs (cs ++ [c])).size ≤ 50000) : wrap64 (((bs (cs ++ [c])).size : Int) - ((en c).length : Int)) = ((bs cs).size : Int) := by
  have sz : (bs (cs ++ [c])).size = (bs cs).size + (en c).length := by rw [bs_size_app, bs_size_one]
  rw [w64 (by omega) (by omega)]
  omega
/-- What the pattern's end, held against the text's, leaves. -/
theorem trim_ev (nb : Bool) (d : Nat) : ∀ (S P : List Int) (g : List G), S.length ≤ d → (∀ x ∈ S, Vd x) → (∀ x ∈ P, Vd x) → (bs S).size ≤ 50000 → (bs P).size ≤ 50000 → Gl P g → (∃ P1, P = 42 :: P1) →
    ∃ S' P' ok, Ev (fun k => match_matchTrimSuffix.l0 k (bs S) (bs P) nb true) (bs S', bs P', ok) ∧ (ok = false → ¬ M (fo nb) S g) ∧
      (ok = true → (∃ t, S = S' ++ t) ∧ (∃ q, P = P' ++ q) ∧ ∃ P1 g', P' = 42 :: P1 ∧ Gl P' g' ∧ (M (fo nb) S g ↔ M (fo nb) S' g')) := by
  induction d using Nat.strongRecOn with
  | _ d ih =>
  intro S P g hd hvS hvP sS sP hg ⟨P1, hP⟩
  have stay : Ev (fun k => match_matchTrimSuffix.l0 k (bs S) (bs P) nb true) (bs S, bs P, true) → ∃ S' P' ok, Ev (fun k => match_matchTrimSuffix.l0 k (bs S) (bs P) nb true) (bs S', bs P', ok) ∧ (ok = false → ¬ M (fo nb) S g) ∧
      (ok = true → (∃ t, S = S' ++ t) ∧ (∃ q, P = P' ++ q) ∧ ∃ P1 g', P' = 42 :: P1 ∧ Gl P' g' ∧ (M (fo nb) S g ↔ M (fo nb) S' g')) := fun e =>
    ⟨S, P, true, e, nofun, fun _ => ⟨⟨[], by simp⟩, ⟨[], by simp⟩, P1, g, hP, hg, Iff.rfl⟩⟩
  have j1f : Ev (fun k => match_matchTrimSuffix.j1 k (bs S) (bs P) nb true false) (bs S, bs P, true) := Ev.step (fun k => by rw [match_matchTrimSuffix.j1]) (Ev.neg Bool.false_ne_true (Ev.now _))
  by_cases hS : S = []
  · refine stay (Ev.step (fun k => by rw [match_matchTrimSuffix.l0]) (Ev.neg ?_ j1f))
    rw [hS, bs_size_nil]; omega
  have pS := bs_pos.2 hS
  by_cases hP1 : P1 = []
  · refine stay (Ev.step (fun k => by rw [match_matchTrimSuffix.l0]) (Ev.pos (by omega) ?_))
    have : ¬ ((bs P).size : Int) > 1 := by rw [hP, hP1, bs_size_one]; decide
    rw [decide_eq_false this]
    exact j1f
  -- the last characters
  obtain ⟨T, s, rfl⟩ : ∃ T s, S = T ++ [s] := by
    rcases List.eq_nil_or_concat S with h | ⟨T, s, h⟩
    · exact absurd h hS
    · exact ⟨T, s, by rw [h, List.concat_eq_append]⟩
  obtain ⟨Q1, c, rfl⟩ : ∃ T s, P1 = T ++ [s] := by
    rcases List.eq_nil_or_concat P1 with h | ⟨T, s, h⟩
    · exact absurd h hP1
    · exact ⟨T, s, by rw [h, List.concat_eq_append]⟩
  obtain ⟨Q, hQ⟩ : ∃ Q, 42 :: Q1 = Q := ⟨_, rfl⟩
  have hPQ : P = Q ++ [c] := by rw [hP, ← hQ]; rfl
  subst hPQ
  have h42 : 42 ∈ Q := by rw [← hQ]; simp
  have hvs : Vd s := hvS s (by simp)
  have hvc : Vd c := hvP c (by simp)
  have hvT : ∀ x ∈ T, Vd x := fun x hx => hvS x (by simp [hx])
  have hvQ : ∀ x ∈ Q, Vd x := fun x hx => hvP x (by simp [hx])
  have szS : (bs (T ++ [s])).size = (bs T).size + (en s).length := by rw [bs_size_app, bs_size_one]
  have szP : (bs (Q ++ [c])).size = (bs Q).size + (en c).length := by rw [bs_size_app, bs_size_one]
  have lc := en_len c
  have ls := en_len s
  have qpos : 0 < (bs Q).size := bs_pos.2 (by rw [← hQ]; simp)
  -- from the test on
  have enter : ∀ {r : R3}, Ev (fun k => match_matchTrimSuffix.j3 k (bs (T ++ [s])) (bs (Q ++ [c])) nb true c (if tz Q % 2 = 1 then ((en c).length : Int) + 1 else ((en c).length : Int)) (decide (tz Q % 2 = 1))) r → Ev (fun k => match_matchTrimSuffix.l0 k (bs (T ++ [s])) (bs (Q ++ [c])) nb true) r := by
    intro r e
    refine Ev.step (fun k => by rw [match_matchTrimSuffix.l0]) ?_
    refine Ev.pos (by omega) ?_
    have : ((bs (Q ++ [c])).size : Int) > 1 := by omega
    rw [decide_eq_true this]
    refine Ev.step (fun k => by rw [match_matchTrimSuffix.j1]) ?_
    refine Ev.pos rfl (Ev.bd (decL_f hvc Q (by omega)) ?_)
    exact l1_ev (T ++ [s]) Q c hvc hvQ h42 (by omega) nb true c e (tz Q) 0 (by omega) (by omega)
  -- what is left is P2
  have fin : ∀ (P2 : List Int) (x11 : Int) (x12 : Bool) (g2 : List G) (pass : Prop) [Decidable pass], wrap64 (((bs (Q ++ [c])).size : Int) - x11) = ((bs P2).size : Int) → (bs (Q ++ [c])).extract 0 (bs P2).size = bs P2 → (bs P2).size ≤ (bs (Q ++ [c])).size → (∃ q, Q ++ [c] = P2 ++ q) → (∃ P3, P2 = 42 :: P3) → Gl P2 g2 →
      (∀ (F : Nat → Option R3) (r : R3), (pass → Ev F r) → (¬ pass → r = (bs (T ++ [s]), bs (Q ++ [c]), false)) →
        (∀ k, F k = (if 0 ≤ (wrap64 (((bs (T ++ [s])).size : Int) - ((en s).length : Int))) then (if (wrap64 (((bs (T ++ [s])).size : Int) - ((en s).length : Int))) ≤ ((bs (T ++ [s])).size : Int) then (if 0 ≤ (wrap64 (((bs (Q ++ [c])).size : Int) - x11)) then (if (wrap64 (((bs (Q ++ [c])).size : Int) - x11)) ≤ ((bs (Q ++ [c])).size : Int) then (match_matchTrimSuffix.l0 k ((bs (T ++ [s])).extract 0 ((wrap64 (((bs (T ++ [s])).size : Int) - ((en s).length : Int))) : Int).toNat) ((bs (Q ++ [c])).extract 0 ((wrap64 (((bs (Q ++ [c])).size : Int) - x11)) : Int).toNat) nb true) else (none)) else (none)) else (none)) else (none))) →
        Ev (fun k => match_matchTrimSuffix.l0 k (bs (T ++ [s])) (bs (Q ++ [c])) nb true) r) →
      (M (fo nb) (T ++ [s]) g ↔ pass ∧ M (fo nb) T g2) →
      ∃ S' P' ok, Ev (fun k => match_matchTrimSuffix.l0 k (bs (T ++ [s])) (bs (Q ++ [c])) nb true) (bs S', bs P', ok) ∧ (ok = false → ¬ M (fo nb) (T ++ [s]) g) ∧
      (ok = true → (∃ t, T ++ [s] = S' ++ t) ∧ (∃ q, Q ++ [c] = P' ++ q) ∧ ∃ P1 g', P' = 42 :: P1 ∧ Gl P' g' ∧ (M (fo nb) (T ++ [s]) g ↔ M (fo nb) S' g')) := by
    intro P2 x11 x12 g2 pass _ e1 e2 e3 ⟨q, hq⟩ h3 hg2 run hM
    by_cases hp : pass
    · obtain ⟨S', P', ok, e, h1, h2⟩ := ih T.length (by rw [List.length_append] at hd; simp at hd; omega) T P2 g2 (Nat.le_refl _) hvT (fun x hx => hvP x (by rw [hq]; simp [hx])) (by omega) (by omega) hg2 h3
      refine ⟨S', P', ok, run _ _ (fun _ => ?_) (fun h => absurd hp h) (fun _ => rfl), fun h => fun k => h1 h (hM.1 k).2, fun h => ?_⟩
      · rw [cut_last T s (by omega), e1, Int.toNat_natCast, Int.toNat_natCast, bs_left, e2]
        exact Ev.pos (by omega) (Ev.pos (by omega) (Ev.pos (by omega) (Ev.pos (by omega) e)))
      · obtain ⟨⟨t, ht⟩, ⟨q2, hq2⟩, P3, g', h4, h5, h6⟩ := h2 h
        exact ⟨⟨t ++ [s], by rw [ht, List.append_assoc]⟩, ⟨q2 ++ q, by rw [hq, hq2, List.append_assoc]⟩, P3, g', h4, h5, by rw [hM, ← h6]; exact ⟨fun k => k.2, fun k => ⟨hp, k⟩⟩⟩
    · exact ⟨T ++ [s], Q ++ [c], false, run _ _ (fun h => absurd h hp) (fun _ => rfl) (fun _ => rfl), fun _ k => hp (hM.1 k).1, nofun⟩
  have dS := decL_f hvs T (by omega)
  rcases gl_last hg with ⟨ho, Q2, g', hQ2, hg', rfl⟩ | ⟨ho, hc92, g', hg', rfl⟩
  · -- with a backslash ahead
    have sQ : (bs Q).size = (bs Q2).size + 1 := by rw [hQ2, bs_size_app, bs_size_one, en92]; rfl
    refine fin Q2 (((en c).length : Int) + 1) true g' (fo nb s = fo nb c) ?_ ?_ (by omega) ⟨[92, c], by rw [hQ2, List.append_assoc]; rfl⟩ ?_ hg' ?_ M.snoc_lit
    · rw [w64 (by omega) (by omega)]; omega
    · rw [hQ2, List.append_assoc]; exact bs_left Q2 _
    · cases Q2 with
      | nil => rw [← hQ] at hQ2; cases hQ2
      | cons x Q3 => rw [← hQ] at hQ2; cases hQ2; exact ⟨Q3, rfl⟩
    · intro F r hF hn hFe
      refine enter ?_
      rw [if_pos ho, decide_eq_true ho]
      have e4 : Ev (fun k => match_matchTrimSuffix.j4 k (bs (T ++ [s])) (bs (Q ++ [c])) nb true c (((en c).length : Int) + 1) true false) r := by
        refine Ev.step (fun k => by rw [match_matchTrimSuffix.j4]) ?_
        refine Ev.neg Bool.false_ne_true (Ev.bd dS ?_)
        have hF2 : fo nb s = fo nb c → Ev _ r := fun h => Ev.congr (fun k => (hFe k).symm) (hF h)
        cases nb with
        | true =>
          refine Ev.pos rfl (Ev.bd (tolower_f hvc) (Ev.bd (tolower_f hvs) ?_))
          by_cases hp : tl s = tl c
          · have e := hF2 hp
            by_cases h63 : tl c = 63
            · exact Ev.pos h63 (Ev.pos rfl (Ev.pos hp.symm e))
            · exact Ev.neg h63 (Ev.pos hp.symm e)
          · rw [hn hp]
            by_cases h63 : tl c = 63
            · exact Ev.pos h63 (Ev.pos rfl (Ev.neg (fun h => hp h.symm) (Ev.now _)))
            · exact Ev.neg h63 (Ev.neg (fun h => hp h.symm) (Ev.now _))
        | false =>
          refine Ev.neg Bool.false_ne_true ?_
          by_cases hp : s = c
          · have e := hF2 hp
            by_cases h63 : c = 63
            · exact Ev.pos h63 (Ev.pos rfl (Ev.pos hp.symm e))
            · exact Ev.neg h63 (Ev.pos hp.symm e)
          · rw [hn hp]
            by_cases h63 : c = 63
            · exact Ev.pos h63 (Ev.pos rfl (Ev.neg (fun h => hp h.symm) (Ev.now _)))
            · exact Ev.neg h63 (Ev.neg (fun h => hp h.symm) (Ev.now _))
      refine Ev.step (fun k => by rw [match_matchTrimSuffix.j3]) ?_
      by_cases h42 : c = 42
      · exact Ev.pos h42 e4
      · exact Ev.neg h42 e4
  · -- without
    have ho' : ¬ tz Q % 2 = 1 := by omega
    have enter2 : ∀ {r : R3}, Ev (fun k => match_matchTrimSuffix.j3 k (bs (T ++ [s])) (bs (Q ++ [c])) nb true c ((en c).length : Int) false) r → Ev (fun k => match_matchTrimSuffix.l0 k (bs (T ++ [s])) (bs (Q ++ [c])) nb true) r := by
      intro r e
      refine enter ?_
      rw [if_neg ho', decide_eq_false ho']
      exact e
    by_cases h42c : c = 42
    · refine stay (enter2 ?_)
      refine Ev.step (fun k => by rw [match_matchTrimSuffix.j3]) ?_
      refine Ev.pos h42c ?_
      refine Ev.step (fun k => by rw [match_matchTrimSuffix.j4]) ?_
      exact Ev.pos rfl (Ev.now _)
    have e3 : ∀ {r : R3}, Ev (fun k => match_matchTrimSuffix.j4 k (bs (T ++ [s])) (bs (Q ++ [c])) nb true c ((en c).length : Int) false false) r → Ev (fun k => match_matchTrimSuffix.l0 k (bs (T ++ [s])) (bs (Q ++ [c])) nb true) r := fun e =>
      enter2 (Ev.step (fun k => by rw [match_matchTrimSuffix.j3]) (Ev.neg h42c e))
    by_cases h63 : c = 63
    · have ht : UFnMtNoCaseSmall.tok c = one := by unfold UFnMtNoCaseSmall.tok; rw [if_neg h42c, if_pos h63]
      rw [ht] at hg
      refine fin Q ((en c).length : Int) false g' True (cut_last Q c (by omega)) (bs_left Q _) (by omega) ⟨[c], rfl⟩ ⟨Q1, hQ.symm⟩ hg' ?_ (by rw [ht, M.snoc_one]; simp)
      intro F r hF hn hFe
      have e := Ev.congr (fun k => (hFe k).symm) (hF trivial)
      refine e3 (Ev.step (fun k => by rw [match_matchTrimSuffix.j4]) (Ev.neg Bool.false_ne_true (Ev.bd dS ?_)))
      cases nb with
      | true => exact Ev.pos rfl (Ev.bd (tolower_f hvc) (Ev.bd (tolower_f hvs) (Ev.pos (tl63.2 h63) (Ev.neg Bool.false_ne_true e))))
      | false => exact Ev.neg Bool.false_ne_true (Ev.pos h63 (Ev.neg Bool.false_ne_true e))
    · have ht : UFnMtNoCaseSmall.tok c = UFnMtNoCaseSmall.lit c := by unfold UFnMtNoCaseSmall.tok; rw [if_neg h42c, if_neg h63]
      rw [ht] at hg
      refine fin Q ((en c).length : Int) false g' (fo nb s = fo nb c) (cut_last Q c (by omega)) (bs_left Q _) (by omega) ⟨[c], rfl⟩ ⟨Q1, hQ.symm⟩ hg' ?_ (by rw [ht]; exact M.snoc_lit)
      intro F r hF hn hFe
      have hF2 : fo nb s = fo nb c → Ev _ r := fun h => Ev.congr (fun k => (hFe k).symm) (hF h)
      refine e3 (Ev.step (fun k => by rw [match_matchTrimSuffix.j4]) (Ev.neg Bool.false_ne_true (Ev.bd dS ?_)))
      cases nb with
      | true =>
        refine Ev.pos rfl (Ev.bd (tolower_f hvc) (Ev.bd (tolower_f hvs) (Ev.neg (fun h => h63 (tl63.1 h)) ?_)))
        by_cases hp : tl s = tl c
        · exact Ev.pos hp.symm (hF2 hp)
        · rw [hn hp]; exact Ev.neg (fun h => hp h.symm) (Ev.now _)
      | false =>
        refine Ev.neg Bool.false_ne_true (Ev.neg h63 ?_)
        by_cases hp : s = c
        · exact Ev.pos hp.symm (hF2 hp)
        · rw [hn hp]; exact Ev.neg (fun h => hp h.symm) (Ev.now _)
end Go.Proofs.YtljmeaemonpkoaaDoor.UFnMtNoCaseSmall
