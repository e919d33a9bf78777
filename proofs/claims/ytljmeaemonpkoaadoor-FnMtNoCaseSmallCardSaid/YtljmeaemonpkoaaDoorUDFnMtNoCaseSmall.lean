/- Patterns: what their terms say of a text, from either end; what the reference reads of a pattern, and its table; no condition beside those that each theorem states. -/
import Derived.Test.YtljmeaemonpkoaaDoorUCFnMtNoCaseSmall
namespace Go.Proofs.YtljmeaemonpkoaaDoor.UFnMtNoCaseSmall
open Go.RowKit Go.Proofs.YtljmeaemonpkoaaDoor.PFnMtNoCaseSmall Go.Proofs.YtljmeaemonpkoaaDoorW.PrintWords Go.Proofs.YtljmeaemonpkoaaDoorW.PrintLast Go.Proofs.YtljmeaemonpkoaaDoorW.PrintMore
set_option linter.unusedSimpArgs false
set_option linter.unusedVariables false

/-! ### terms -/
abbrev G := S70
abbrev star : G := ⟨true, false, 0⟩
abbrev one : G := ⟨false, true, 0⟩
abbrev lit (c : Int) : G := ⟨false, false, c⟩
/-- A text is made of what the terms say; f: how characters are held against each other. -/
inductive M (f : Int → Int) : List Int → List G → Prop
  | nil : M f [] []
  | star {a s : List Int} {g : List G} (h : M f s g) : M f (a ++ s) (star :: g)
  | one {c : Int} {s : List Int} {g : List G} (h : M f s g) : M f (c :: s) (one :: g)
  | lit {c d : Int} {s : List Int} {g : List G} (e : f c = f d) (h : M f s g) : M f (c :: s) (lit d :: g)
variable {f : Int → Int}
theorem M.nil_iff {s : List Int} : M f s [] ↔ s = [] := ⟨fun h => by cases h; rfl, fun h => h ▸ .nil⟩
theorem M.star_iff {s : List Int} {g : List G} : M f s (UFnMtNoCaseSmall.star :: g) ↔ ∃ a t, s = a ++ t ∧ M f t g := by
  constructor
  · intro h
    generalize hx : (UFnMtNoCaseSmall.star :: g) = x at h
    cases h with
    | nil => cases hx
    | star h => cases hx; exact ⟨_, _, rfl, h⟩
    | one h => exact absurd (congrArg (fun l => l.head?.map (·.f0)) hx) (by simp)
    | lit e h => exact absurd (congrArg (fun l => l.head?.map (·.f0)) hx) (by simp)
  · rintro ⟨a, t, rfl, h⟩; exact .star h
theorem M.one_iff {s : List Int} {g : List G} : M f s (UFnMtNoCaseSmall.one :: g) ↔ ∃ c t, s = c :: t ∧ M f t g := by
  constructor
  · intro h
    generalize hx : (UFnMtNoCaseSmall.one :: g) = x at h
    cases h with
    | nil => cases hx
    | star h => exact absurd (congrArg (fun l => l.head?.map (·.f1)) hx) (by simp)
    | one h => cases hx; exact ⟨_, _, rfl, h⟩
    | lit e h => exact absurd (congrArg (fun l => l.head?.map (·.f1)) hx) (by simp)
  · rintro ⟨c, t, rfl, h⟩; exact .one h
theorem M.lit_iff {s : List Int} {d : Int} {g : List G} : M f s (UFnMtNoCaseSmall.lit d :: g) ↔ ∃ c t, s = c :: t ∧ f c = f d ∧ M f t g := by
  constructor
  · intro h
    generalize hx : (UFnMtNoCaseSmall.lit d :: g) = x at h
    cases h with
    | nil => cases hx
    | star h => exact absurd (congrArg (fun l => l.head?.map (·.f0)) hx) (by simp)
    | one h => exact absurd (congrArg (fun l => l.head?.map (·.f1)) hx) (by simp)
    | lit e h =>
      have h1 := List.cons.inj hx
      have h2 : d = _ := congrArg (·.f2) h1.1
      simp only at h2
      subst h2
      obtain rfl := h1.2
      exact ⟨_, _, rfl, e, h⟩
  · rintro ⟨c, t, rfl, e, h⟩; exact .lit e h
theorem M.app {s t : List Int} {g h : List G} (a : M f s g) (b : M f t h) : M f (s ++ t) (g ++ h) := by
  induction a with
  | nil => exact b
  | star _ ih => rw [List.append_assoc]; exact .star ih
  | one _ ih => exact .one ih
  | lit e _ ih => exact .lit e ih
theorem M.split {g h : List G} : ∀ {s : List Int}, M f s (g ++ h) → ∃ a b, s = a ++ b ∧ M f a g ∧ M f b h := by
  induction g with
  | nil => intro s m; exact ⟨[], s, rfl, .nil, m⟩
  | cons x g ih =>
    intro s m
    generalize hx : x :: g ++ h = y at m
    cases m with
    | nil => cases hx
    | star m =>
      obtain ⟨rfl, rfl⟩ := List.cons.inj hx
      obtain ⟨a, b, rfl, ha, hb⟩ := ih m
      exact ⟨_, b, (List.append_assoc _ _ _).symm, .star ha, hb⟩
    | one m =>
      obtain ⟨rfl, rfl⟩ := List.cons.inj hx
      obtain ⟨a, b, rfl, ha, hb⟩ := ih m
      exact ⟨_ :: a, b, rfl, .one ha, hb⟩
    | lit e m =>
      obtain ⟨rfl, rfl⟩ := List.cons.inj hx
      obtain ⟨a, b, rfl, ha, hb⟩ := ih m
      exact ⟨_ :: a, b, rfl, .lit e ha, hb⟩
theorem M.snoc_star {s : List Int} {g : List G} : M f s (g ++ [UFnMtNoCaseSmall.star]) ↔ ∃ a b, s = a ++ b ∧ M f a g := by
  constructor
  · intro h
    obtain ⟨a, b, e, h1, h2⟩ := M.split h
    exact ⟨a, b, e, h1⟩
  · rintro ⟨a, b, rfl, h⟩
    have := M.app h (M.star (a := b) (f := f) .nil)
    rwa [List.append_nil] at this
theorem M.snoc_one {s : List Int} {c : Int} {g : List G} : M f (s ++ [c]) (g ++ [UFnMtNoCaseSmall.one]) ↔ M f s g := by
  constructor
  · intro h
    obtain ⟨a, b, e, h1, h2⟩ := M.split h
    obtain ⟨d, t, rfl, h3⟩ := M.one_iff.1 h2
    obtain rfl := M.nil_iff.1 h3
    obtain ⟨rfl, _⟩ := List.append_inj' e rfl
    exact h1
  · intro h; exact M.app h (.one .nil)
theorem M.snoc_lit {s : List Int} {c d : Int} {g : List G} : M f (s ++ [c]) (g ++ [UFnMtNoCaseSmall.lit d]) ↔ f c = f d ∧ M f s g := by
  constructor
  · intro h
    obtain ⟨a, b, e, h1, h2⟩ := M.split h
    obtain ⟨x, t, rfl, h4, h3⟩ := M.lit_iff.1 h2
    obtain rfl := M.nil_iff.1 h3
    obtain ⟨rfl, e2⟩ := List.append_inj' e rfl
    cases e2
    exact ⟨h4, h1⟩
  · rintro ⟨e, h⟩; exact M.app h (.lit e .nil)
theorem M.nil_snoc_one {g : List G} : ¬ M f [] (g ++ [UFnMtNoCaseSmall.one]) := by
  intro h
  obtain ⟨a, b, e, h1, h2⟩ := M.split h
  obtain ⟨d, t, rfl, h3⟩ := M.one_iff.1 h2
  simp at e
theorem M.nil_snoc_lit {d : Int} {g : List G} : ¬ M f [] (g ++ [UFnMtNoCaseSmall.lit d]) := by
  intro h
  obtain ⟨a, b, e, h1, h2⟩ := M.split h
  obtain ⟨x, t, rfl, _, h3⟩ := M.lit_iff.1 h2
  simp at e
theorem M.star_star {s : List Int} {g : List G} : M f s (UFnMtNoCaseSmall.star :: UFnMtNoCaseSmall.star :: g) ↔ M f s (UFnMtNoCaseSmall.star :: g) := by
  constructor
  · intro h
    obtain ⟨a, t, rfl, h1⟩ := M.star_iff.1 h
    obtain ⟨b, u, rfl, h2⟩ := M.star_iff.1 h1
    rw [← List.append_assoc]
    exact .star h2
  · intro h; exact M.star (a := []) h
theorem M.star_all {s : List Int} : M f s [UFnMtNoCaseSmall.star] := by
  have := M.star (a := s) (f := f) .nil
  rwa [List.append_nil] at this
/-- At a star: here, or one character on. -/
theorem M.star_step {s : List Int} {g : List G} : M f s (UFnMtNoCaseSmall.star :: g) ↔ M f s g ∨ ∃ c t, s = c :: t ∧ M f t (UFnMtNoCaseSmall.star :: g) := by
  constructor
  · intro h
    obtain ⟨a, t, rfl, h1⟩ := M.star_iff.1 h
    cases a with
    | nil => exact .inl h1
    | cons c a => exact .inr ⟨c, a ++ t, rfl, .star h1⟩
  · rintro (h | ⟨c, t, rfl, h⟩)
    · exact M.star (a := []) h
    · obtain ⟨a, u, rfl, h1⟩ := M.star_iff.1 h
      exact M.star (a := c :: a) h1

/-! ### patterns -/
/-- A pattern's terms. -/
inductive Gl : List Int → List G → Prop
  | nil : Gl [] []
  | star {r : List Int} {g : List G} (h : Gl r g) : Gl (42 :: r) (star :: g)
  | one {r : List Int} {g : List G} (h : Gl r g) : Gl (63 :: r) (one :: g)
  | esc {c : Int} {r : List Int} {g : List G} (h : Gl r g) : Gl (92 :: c :: r) (lit c :: g)
  | lit {c : Int} {r : List Int} {g : List G} (h1 : c ≠ 42) (h2 : c ≠ 63) (h3 : c ≠ 92) (h : Gl r g) : Gl (c :: r) (lit c :: g)
theorem Gl.app {p q : List Int} {g h : List G} (a : Gl p g) (b : Gl q h) : Gl (p ++ q) (g ++ h) := by
  induction a with
  | nil => exact b
  | star _ ih => exact .star ih
  | one _ ih => exact .one ih
  | esc _ ih => exact .esc ih
  | lit h1 h2 h3 _ ih => exact .lit h1 h2 h3 ih
/-- What a character that no backslash stands ahead of says. -/
def tok (c : Int) : G := if c = 42 then star else if c = 63 then one else lit c
theorem gl_tok {c : Int} (h : c ≠ 92) : Gl [c] [tok c] := by
  unfold UFnMtNoCaseSmall.tok
  by_cases h1 : c = 42
  · subst h1; exact .star .nil
  rw [if_neg h1]
  by_cases h2 : c = 63
  · subst h2; exact .one .nil
  rw [if_neg h2]
  exact .lit h1 h2 h .nil
/-- A pattern read from its begin on; the mark: behind a backslash that waits for its character. -/
inductive Sc : List Int → List G → Bool → Prop
  | nil : Sc [] [] false
  | slash {p : List Int} {g : List G} (h : Sc p g false) : Sc (p ++ [92]) g true
  | esc {p : List Int} {g : List G} {c : Int} (h : Sc p g true) : Sc (p ++ [c]) (g ++ [lit c]) false
  | tok {p : List Int} {g : List G} {c : Int} (hc : c ≠ 92) (h : Sc p g false) : Sc (p ++ [c]) (g ++ [tok c]) false
theorem Sc.on {p q : List Int} {g h : List G} (a : Sc p g false) (b : Gl q h) : Sc (p ++ q) (g ++ h) false := by
  induction b generalizing p g with
  | nil => rwa [List.append_nil, List.append_nil]
  | star _ ih =>
    have := ih (Sc.tok (c := 42) (by decide) a)
    rwa [List.append_assoc, List.append_assoc] at this
  | one _ ih =>
    have := ih (Sc.tok (c := 63) (by decide) a)
    rwa [List.append_assoc, List.append_assoc] at this
  | @esc c _ _ _ ih =>
    have := ih (Sc.esc (c := c) (Sc.slash a))
    rw [List.append_assoc, List.append_assoc, List.append_assoc] at this
    exact this
  | @lit c _ _ h1 h2 h3 _ ih =>
    have := ih (Sc.tok (c := c) h3 a)
    rw [List.append_assoc, List.append_assoc] at this
    have e : UFnMtNoCaseSmall.tok c = UFnMtNoCaseSmall.lit c := by unfold UFnMtNoCaseSmall.tok; rw [if_neg h1, if_neg h2]
    rw [e] at this
    exact this
theorem Sc.of {p : List Int} {g : List G} (b : Gl p g) : Sc p g false := Sc.on .nil b
theorem Sc.to {p : List Int} {g : List G} {b : Bool} (h : Sc p g b) : (b = false → Gl p g) ∧ (b = true → ∃ q, p = q ++ [92] ∧ Gl q g) := by
  induction h with
  | nil => exact ⟨fun _ => .nil, nofun⟩
  | slash h ih => exact ⟨nofun, fun _ => ⟨_, rfl, ih.1 rfl⟩⟩
  | @esc p g c h ih =>
    refine ⟨fun _ => ?_, nofun⟩
    obtain ⟨q, rfl, hq⟩ := ih.2 rfl
    rw [List.append_assoc]
    exact Gl.app hq (.esc .nil)
  | tok hc h ih => exact ⟨fun _ => Gl.app (ih.1 rfl) (gl_tok hc), nofun⟩
/-- How many backslashes stand at a pattern's end. -/
def tz (p : List Int) : Nat := (p.reverse.takeWhile (· = 92)).length
theorem tz_slash (p : List Int) : tz (p ++ [92]) = tz p + 1 := by
  unfold tz
  rw [List.reverse_append]
  simp
theorem tz_other (p : List Int) {c : Int} (h : c ≠ 92) : tz (p ++ [c]) = 0 := by
  unfold tz
  rw [List.reverse_append]
  simp [h]
theorem Sc.odd {p : List Int} {g : List G} {b : Bool} (h : Sc p g b) : (b = true ↔ tz p % 2 = 1) := by
  induction h with
  | nil => simp [tz]
  | @slash p g h ih =>
    rw [tz_slash]
    have h0 : ¬ (tz p % 2 = 1) := fun h => Bool.false_ne_true (ih.2 h)
    constructor
    · intro _; omega
    · intro _; rfl
  | @esc p g c h ih =>
    have h1 := ih.1 rfl
    by_cases hc : c = 92
    · subst hc
      rw [tz_slash]
      constructor
      · intro h; cases h
      · intro h; omega
    · rw [tz_other _ hc]; simp
  | tok hc h ih => rw [tz_other _ hc]; simp
/-- A pattern's last character: with a backslash of its own ahead, or without. -/
theorem gl_last {p : List Int} {c : Int} {g : List G} (h : Gl (p ++ [c]) g) :
    (tz p % 2 = 1 ∧ ∃ q g', p = q ++ [92] ∧ Gl q g' ∧ g = g' ++ [UFnMtNoCaseSmall.lit c]) ∨ (tz p % 2 = 0 ∧ c ≠ 92 ∧ ∃ g', Gl p g' ∧ g = g' ++ [UFnMtNoCaseSmall.tok c]) := by
  have s := Sc.of h
  generalize hx : p ++ [c] = x at s
  generalize hb : false = b at s
  cases s with
  | nil => simp at hx
  | slash k => cases hb
  | esc k =>
    obtain ⟨rfl, e2⟩ := List.append_inj' hx rfl
    cases e2
    obtain ⟨q, e, hq⟩ := k.to.2 rfl
    exact .inl ⟨k.odd.1 rfl, q, _, e, hq, rfl⟩
  | tok hc k =>
    obtain ⟨rfl, e2⟩ := List.append_inj' hx rfl
    cases e2
    refine .inr ⟨?_, hc, _, k.to.1 rfl, rfl⟩
    have : ¬ (tz p % 2 = 1) := fun k' => Bool.false_ne_true (k.odd.2 k')
    omega

/-! ### what the reference reads -/
theorem chars_l0 (s : ByteArray) (hs : (s.size : Int) ≤ 100000) (d : Nat) : ∀ (i : Nat) (acc : List Int), s.size - i ≤ d → i ≤ s.size → acc.length ≤ i → ∃ cs b, Ev (fun k => spec_Characters.l0 k s acc i) (cs, b) ∧ (b = true → ∃ r, cs = acc ++ r ∧ s.extract i s.size = bs r ∧ ∀ c ∈ r, Vd c) := by
  induction d with
  | zero =>
    intro i acc hd hi ha
    exact ⟨_, _, Ev.step (fun k => by rw [spec_Characters.l0]) (Ev.neg (by omega) (Ev.now _)), fun _ => ⟨[], by simp, by rw [ext_of_size s i (by omega)]; rfl, by simp⟩⟩
  | succ d ih =>
    intro i acc hd hi ha
    have st := fun k => (show spec_Characters.l0 (k + 1) s acc i = _ by rw [spec_Characters.l0])
    by_cases h : i < s.size
    · obtain ⟨c, n, b, e, hc⟩ := char_ev s hs i h
      cases b with
      | false => exact ⟨_, _, Ev.step st (Ev.pos (by omega) (Ev.bind e (Ev.neg Bool.false_ne_true (Ev.now _)))), nofun⟩
      | true =>
        have h1 := hc.n1; have h4 := hc.n4; have hl := hc.le rfl
        obtain ⟨cs, b, e2, h2⟩ := ih (i + n.toNat) (acc ++ [c]) (by omega) (by omega) (by rw [List.length_append]; simp; omega)
        refine ⟨cs, b, Ev.step st (Ev.pos (by omega) (Ev.bind e (Ev.pos rfl (Ev.pos (by omega) ?_)))), fun hb => ?_⟩
        · show Ev (fun k => spec_Characters.l0 k s (acc ++ [c]) (wrap64 (i + n))) (cs, b)
          rw [w64 (by omega) (by omega), show (i : Int) + n = ((i + n.toNat : Nat) : Int) by omega]
          exact e2
        · obtain ⟨r, er, ex, hv⟩ := h2 hb
          refine ⟨c :: r, by rw [er, List.append_assoc]; rfl, hc.tail ex, ?_⟩
          intro x hx
          rcases List.mem_cons.1 hx with rfl | hx
          · exact hc.vd rfl
          · exact hv x hx
    · exact ⟨_, _, Ev.step st (Ev.neg (by omega) (Ev.now _)), fun _ => ⟨[], by simp, by rw [ext_of_size s i (by omega)]; rfl, by simp⟩⟩
theorem ext_all (s : ByteArray) : s.extract 0 s.size = s := ByteArray.extract_zero_size
theorem chars_ev (s : ByteArray) (hs : (s.size : Int) ≤ 100000) : ∃ cs b, Ev (fun k => spec_Characters.f k s) (cs, b) ∧ (b = true → s = bs cs ∧ ∀ c ∈ cs, Vd c) := by
  obtain ⟨cs, b, e, h⟩ := chars_l0 s hs s.size 0 [] (by omega) (by omega) (by simp)
  refine ⟨cs, b, e, fun hb => ?_⟩
  obtain ⟨r, er, ex, hv⟩ := h hb
  rw [List.nil_append] at er
  subst er
  rw [ext_all] at ex
  exact ⟨ex, hv⟩
theorem globs_l0 (s : ByteArray) (hs : (s.size : Int) ≤ 100000) (d : Nat) : ∀ (i : Nat) (acc : List G), s.size - i ≤ d → i ≤ s.size → acc.length ≤ i → ∃ gs b, Ev (fun k => spec_Globs.l0 k s acc i) (gs, b) ∧ (b = true → ∃ g r, gs = acc ++ g ∧ s.extract i s.size = bs r ∧ Gl r g ∧ ∀ c ∈ r, Vd c) := by
  induction d using Nat.strongRecOn with
  | _ d ih =>
  intro i acc hd hi ha
  have st := fun k => (show spec_Globs.l0 (k + 1) s acc i = _ by rw [spec_Globs.l0])
  by_cases h : i < s.size
  · obtain ⟨c, n, b, e, hc⟩ := char_ev s hs i h
    cases b with
    | false => exact ⟨_, _, Ev.step st (Ev.pos (by omega) (Ev.bind e (Ev.neg Bool.false_ne_true (Ev.now _)))), nofun⟩
    | true =>
      have h1 := hc.n1; have h4 := hc.n4; have hl := hc.le rfl
      have ew : wrap64 ((i : Int) + n) = ((i + n.toNat : Nat) : Int) := by rw [w64 (by omega) (by omega)]; omega
      have go : ∀ g0 : G, Gl [c] [g0] → ∃ gs b, Ev (fun k => spec_Globs.l0 k s (acc ++ [g0]) ((i + n.toNat : Nat) : Int)) (gs, b) ∧ (b = true → ∃ g r, gs = acc ++ g ∧ s.extract i s.size = bs r ∧ Gl r g ∧ ∀ c ∈ r, Vd c) := by
        intro g0 hg0
        obtain ⟨gs, b, e2, h2⟩ := ih (s.size - (i + n.toNat)) (by omega) (i + n.toNat) (acc ++ [g0]) (by omega) (by omega) (by rw [List.length_append]; simp; omega)
        refine ⟨gs, b, e2, fun hb => ?_⟩
        obtain ⟨g, r, er, ex, hg, hv⟩ := h2 hb
        refine ⟨g0 :: g, c :: r, by rw [er, List.append_assoc]; rfl, hc.tail ex, Gl.app hg0 hg, ?_⟩
        intro x hx
        rcases List.mem_cons.1 hx with rfl | hx
        · exact hc.vd rfl
        · exact hv x hx
      by_cases c1 : c = 42
      · obtain ⟨gs, b, e2, h2⟩ := go star (by subst c1; exact .star .nil)
        refine ⟨gs, b, Ev.step st (Ev.pos (by omega) (Ev.bind e (Ev.pos rfl (Ev.pos c1 (Ev.pos (by omega) ?_))))), h2⟩
        show Ev (fun k => spec_Globs.l0 k s (acc ++ [star]) (wrap64 (i + n))) (gs, b)
        rw [ew]; exact e2
      by_cases c2 : c = 63
      · obtain ⟨gs, b, e2, h2⟩ := go one (by subst c2; exact .one .nil)
        refine ⟨gs, b, Ev.step st (Ev.pos (by omega) (Ev.bind e (Ev.pos rfl (Ev.neg c1 (Ev.pos c2 (Ev.pos (by omega) ?_)))))), h2⟩
        show Ev (fun k => spec_Globs.l0 k s (acc ++ [one]) (wrap64 (i + n))) (gs, b)
        rw [ew]; exact e2
      by_cases c3 : c = 92
      · subst c3
        by_cases c4 : i + n.toNat = s.size
        · exact ⟨_, _, Ev.step st (Ev.pos (by omega) (Ev.bind e (Ev.pos rfl (Ev.neg c1 (Ev.neg c2 (Ev.pos rfl (Ev.pos (by show wrap64 ((i : Int) + n) = _; rw [ew]; omega) (Ev.now _)))))))), nofun⟩
        obtain ⟨c', n', b', e', hc'⟩ := char_ev s hs (i + n.toNat) (by omega)
        have e'' : Ev (fun k => spec_Character.f k s (wrap64 ((i : Int) + n))) (c', n', b') := by rw [ew]; exact e'
        cases b' with
        | false => exact ⟨_, _, Ev.step st (Ev.pos (by omega) (Ev.bind e (Ev.pos rfl (Ev.neg c1 (Ev.neg c2 (Ev.pos rfl (Ev.neg (by show ¬ wrap64 ((i : Int) + n) = _; rw [ew]; omega) (Ev.bind e'' (Ev.neg Bool.false_ne_true (Ev.now _)))))))))), nofun⟩
        | true =>
          have h1' := hc'.n1; have h4' := hc'.n4; have hl' := hc'.le rfl
          have ew' : wrap64 (wrap64 ((i : Int) + n) + n') = ((i + n.toNat + n'.toNat : Nat) : Int) := by rw [ew, w64 (by omega) (by omega)]; omega
          obtain ⟨gs, b, e2, h2⟩ := ih (s.size - (i + n.toNat + n'.toNat)) (by omega) (i + n.toNat + n'.toNat) (acc ++ [lit c']) (by omega) (by omega) (by rw [List.length_append]; simp; omega)
          refine ⟨gs, b, Ev.step st (Ev.pos (by omega) (Ev.bind e (Ev.pos rfl (Ev.neg c1 (Ev.neg c2 (Ev.pos rfl (Ev.neg (by show ¬ wrap64 ((i : Int) + n) = _; rw [ew]; omega) (Ev.bind e'' (Ev.pos rfl (Ev.pos (by omega) ?_)))))))))), fun hb => ?_⟩
          · show Ev (fun k => spec_Globs.l0 k s (acc ++ [lit c']) (wrap64 (wrap64 (i + n) + n'))) (gs, b)
            rw [ew']; exact e2
          · obtain ⟨g, r, er, ex, hg, hv⟩ := h2 hb
            refine ⟨lit c' :: g, 92 :: c' :: r, by rw [er, List.append_assoc]; rfl, hc.tail (hc'.tail ex), .esc hg, ?_⟩
            intro x hx
            rcases List.mem_cons.1 hx with rfl | hx
            · exact hc.vd rfl
            · rcases List.mem_cons.1 hx with rfl | hx
              · exact hc'.vd rfl
              · exact hv x hx
      · obtain ⟨gs, b, e2, h2⟩ := go (lit c) (.lit c1 c2 c3 .nil)
        refine ⟨gs, b, Ev.step st (Ev.pos (by omega) (Ev.bind e (Ev.pos rfl (Ev.neg c1 (Ev.neg c2 (Ev.neg c3 (Ev.pos (by omega) ?_))))))), h2⟩
        show Ev (fun k => spec_Globs.l0 k s (acc ++ [lit c]) (wrap64 (i + n))) (gs, b)
        rw [ew]; exact e2
  · exact ⟨_, _, Ev.step st (Ev.neg (by omega) (Ev.now _)), fun _ => ⟨[], [], by simp, by rw [ext_of_size s i (by omega)]; rfl, .nil, by simp⟩⟩
theorem globs_ev (s : ByteArray) (hs : (s.size : Int) ≤ 100000) : ∃ gs b, Ev (fun k => spec_Globs.f k s) (gs, b) ∧ (b = true → ∃ p, s = bs p ∧ Gl p gs ∧ ∀ c ∈ p, Vd c) := by
  obtain ⟨gs, b, e, h⟩ := globs_l0 s hs s.size 0 [] (by omega) (by omega) (by simp)
  refine ⟨gs, b, e, fun hb => ?_⟩
  obtain ⟨g, r, er, ex, hg, hv⟩ := h hb
  rw [List.nil_append] at er
  subst er
  rw [ext_all] at ex
  exact ⟨r, ex, hg, hv⟩
end Go.Proofs.YtljmeaemonpkoaaDoor.UFnMtNoCaseSmall
