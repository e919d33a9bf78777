/- gjson's trim, told by hand (its two loops are jumps to labels): the text without the bytes up to a blank at its ends; no condition beside those that each theorem states. -/
import Derived.Test.YtnmbpleneddkhaaPFnGjQueryPartsx0
import Derived.ScopeJumps
import Derived.WalkMore
namespace Go
/-- As Q; by a goto to label l: J l. -/
def Exit.jumps (J : Nat → Act → World → Prop) (Q : Exit → Act → World → Prop) : Exit → Act → World → Prop
  | .goto l, a, w => J l a w
  | e, a, w => Q e a w
theorem wp_scope_jumps2 {P : Program} {a : Act} {w : World} {Q : Exit → Act → World → Prop} {c : Code} (J : Nat → Act → World → Prop) (μ : Nat → Act → World → Nat) (hf : ∀ l a w, J l a w → ∃ rest, findLabel c l = some rest)
    (first : c.wp P (Exit.jumps J Q) a w)
    (pass : ∀ l a w rest, J l a w → findLabel c l = some rest → rest.wp P (Exit.jumps (fun l' a' w' => J l' a' w' ∧ μ l' a' w' < μ l a w) Q) a w) : (Code.scope c).wp P Q a w := by
  intro b k cs
  have key : ∀ n l a w, μ l a w = n → J l a w → ∀ rest, findLabel c l = some rest → ∃ e a' w', Q e a' w' ∧ Arrives P (lone (b.at a (.code rest :: .inScope c :: k)) cs w) b k cs e a' w' := by
    intro n
    induction n using Nat.strongRecOn with
    | _ n ih =>
      intro l a w hn hJ rest hr
      obtain ⟨e, a₁, w₁, hq, harr⟩ := pass l a w rest hJ hr b (.inScope c :: k) cs
      cases e with
      | normal => exact ⟨.normal, a₁, w₁, hq, Steps.trans harr (.one step_inScope)⟩
      | exit id => exact ⟨.exit id, a₁, w₁, hq, fun k' hk => harr k' (by simp [exitTo, hk])⟩
      | goto l' =>
        obtain ⟨hJ', hlt⟩ := hq
        obtain ⟨rest', hr'⟩ := hf l' a₁ w₁ hJ'
        have hg : gotoIn l' (.inScope c :: k) = some (.code rest' :: .inScope c :: k) := by simp [gotoIn, hr']
        obtain ⟨e₂, a₂, w₂, hq₂, harr₂⟩ := ih _ (by omega) l' a₁ w₁ rfl hJ' rest' hr'
        exact ⟨e₂, a₂, w₂, hq₂, .of_steps (harr _ hg) harr₂⟩
      | ret => exact ⟨_, a₁, w₁, hq, harr⟩
      | panic ch => exact ⟨_, a₁, w₁, hq, harr⟩
      | outgrown => exact ⟨_, a₁, w₁, hq, harr⟩
  obtain ⟨e, a₁, w₁, hq, harr⟩ := first b (.inScope c :: k) cs
  cases e with
  | normal => exact ⟨.normal, a₁, w₁, hq, .head step_scope (Steps.trans harr (.one step_inScope))⟩
  | exit id => exact ⟨.exit id, a₁, w₁, hq, fun k' hk => .head step_scope (harr k' (by simp [exitTo, hk]))⟩
  | goto l' =>
    obtain ⟨rest', hr'⟩ := hf l' a₁ w₁ hq
    have hg : gotoIn l' (.inScope c :: k) = some (.code rest' :: .inScope c :: k) := by simp [gotoIn, hr']
    obtain ⟨e₂, a₂, w₂, hq₂, harr₂⟩ := key _ l' a₁ w₁ rfl hq rest' hr'
    exact ⟨e₂, a₂, w₂, hq₂, .of_steps (.head step_scope (harr _ hg)) harr₂⟩
  | ret => exact ⟨_, a₁, w₁, hq, .of_steps (.one step_scope) harr⟩
  | panic ch => exact ⟨_, a₁, w₁, hq, .of_steps (.one step_scope) harr⟩
  | outgrown => exact ⟨_, a₁, w₁, hq, .of_steps (.one step_scope) harr⟩
end Go
namespace Go.Proofs.Ytnmbpleneddkhaa.PFnGjQueryParts
open Go.RowKit Go.Proofs.YtnmbpleneddkhaaW.PrintWords Go.Proofs.YtnmbpleneddkhaaW.PrintLast Go.Proofs.YtnmbpleneddkhaaW.PrintMore
set_option linter.unusedVariables false
set_option linter.unusedSimpArgs false

def gjson_trim.r : Nat → ByteArray → Option ByteArray
  | 0, _ => none
  | k + 1, s => if 0 < (s.size : Int) then (if 0 ≤ wrap64 ((s.size : Int) - 1) then (if wrap64 ((s.size : Int) - 1) < (s.size : Int) then (if bt s (wrap64 ((s.size : Int) - 1)) ≤ 32 then gjson_trim.r k (s.extract 0 (wrap64 ((s.size : Int) - 1)).toNat) else some s) else none) else none) else some s
def gjson_trim.l : Nat → ByteArray → Option ByteArray
  | 0, _ => none
  | k + 1, s => if 0 < (s.size : Int) then (if bt s 0 ≤ 32 then gjson_trim.l k (s.extract 1 s.size) else gjson_trim.r k s) else gjson_trim.r k s
def gjson_trim.f (k : Nat) (a0 : ByteArray) : Option ByteArray := gjson_trim.l k a0
theorem gjson_trim.mono_r : ∀ k s, LeO (gjson_trim.r k s) (gjson_trim.r (k + 1) s)
  | 0, _ => fun r h => by simp [gjson_trim.r] at h
  | k + 1, s => by
    rw [gjson_trim.r, gjson_trim.r]
    exact LeO.ite (LeO.ite (LeO.ite (LeO.ite (gjson_trim.mono_r k _) (LeO.refl _)) (LeO.refl _)) (LeO.refl _)) (LeO.refl _)
theorem gjson_trim.mono_l : ∀ k s, LeO (gjson_trim.l k s) (gjson_trim.l (k + 1) s)
  | 0, _ => fun r h => by simp [gjson_trim.l] at h
  | k + 1, s => by
    rw [gjson_trim.l, gjson_trim.l]
    exact LeO.ite (LeO.ite (gjson_trim.mono_l k _) (gjson_trim.mono_r k _)) (gjson_trim.mono_r k _)
theorem gjson_trim.mono : ∀ a0 k, LeO (gjson_trim.f k a0) (gjson_trim.f (k + 1) a0) := fun a0 k => gjson_trim.mono_l k a0
def gjson_trim.J (w : World) (r : ByteArray) (l : Nat) (a : Act) (w' : World) : Prop :=
  ∃ (s : ByteArray) (k : Nat) (u3 u4 u5 u6 u7 u8 u9 u10 u11 u12 u13 u14 u15 u16 u17 u18 u19 u20 u21 u22 u23 u24 u25 u26 u27 u28 u29 : Value), Aside0 (∃ n, w' = w.drewN n) ∧ a = { tmps := #[.string s, undef, .string ⟨#[]⟩, u3, u4, u5, u6, u7, u8, u9, u10, u11, u12, u13, u14, u15, u16, u17, u18, u19, u20, u21, u22, u23, u24, u25, u26, u27, u28, u29], defers := [] } ∧ ((l = 0 ∧ gjson_trim.l k s = some r) ∨ (l = 1 ∧ gjson_trim.r k s = some r))
def gjson_trim.mu (_ : Nat) (a : Act) (_ : World) : Nat := match a.tmps.getD 0 undef with | .string s => s.size | _ => 0
set_option maxHeartbeats 8000000 in
set_option maxRecDepth 100000 in
theorem gjson_trim.calls (k : Nat) (a0 : ByteArray) (r : ByteArray) (w : World) (h : gjson_trim.f k a0 = some r) :
    Calls Try.prog 52 #[.string a0] w fun e w' => e = .returned (.string r) ∧ Drawn0 w w' := by
  have HA := Aside0.mk h
  have HW : Aside0 (∃ n, w = w.drewN n) := ⟨0, rfl⟩
  clear h
  go_enter Try.func52, Try.ntmps52
  go_wp2
  refine wp_scope_jumps2 (gjson_trim.J w r) gjson_trim.mu ?_ ?_ ?_
  · rintro l a w' ⟨s, k, u3, u4, u5, u6, u7, u8, u9, u10, u11, u12, u13, u14, u15, u16, u17, u18, u19, u20, u21, u22, u23, u24, u25, u26, u27, u28, u29, HW, rfl, ⟨rfl, h⟩ | ⟨rfl, h⟩⟩ <;> exact ⟨_, rfl⟩
  · have h := HA.out
    clear HA
    unfold gjson_trim.f at h
    cases k with
    | zero => exact absurd h (by simp [gjson_trim.l])
    | succ k =>
      rw [gjson_trim.l] at h
      by_cases c1 : 0 < (a0.size : Int)
      · rw [if_pos c1] at h
        have c1b0 : decide (0 < (a0.size : Int)) = true := decide_eq_true c1
        have c1b1 : decide (0 < a0.size) = true := decide_eq_true (by omega)
        have HZ := Aside0.mk (show 0 < a0.size by omega)
        have q1 : 0 < a0.size := by omega
        have hx1 := bt_lit a0 0 0 rfl
        have qi1 := eq_true c1
        replace q1 := eq_true q1
        have c3b0 := eq_true (show (1 : Int) ≤ (a0.size : Int) by omega)
        have c3b1 : decide ((1 : Int) ≤ (a0.size : Int)) = true := decide_eq_true (by omega)
        by_cases c2 : bt a0 0 ≤ 32
        · rw [if_pos c2] at h
          have c2b0 : decide (bt a0 0 ≤ 32) = true := decide_eq_true c2
          have HA := Aside0.mk h
          clear h c2 c1
          go_wp2
          go_step3
          go_wp2
          go_step3
          exact ⟨_, _, _, _, _, _, _, _, _, _, _, _, _, _, _, _, _, _, _, _, _, _, _, _, _, _, _, _, _, HW, rfl, .inl ⟨rfl, HA.out⟩⟩
        · rw [if_neg c2] at h
          have c2b0 : decide (bt a0 0 ≤ 32) = false := decide_eq_false c2
          clear c2 c1
          cases k with
          | zero => exact absurd h (by simp [gjson_trim.r])
          | succ k =>
            rw [gjson_trim.r] at h
            obtain ⟨ji, hji⟩ : ∃ ji, wrap64 ((a0.size : Int) - 1) = ji := ⟨_, rfl⟩
            rw [hji] at h
            have hjw : IntKind.i64.wrap ((a0.size : Int) - 1) = ji := (i64_w _).trans hji
            have d1 : 0 < (a0.size : Int) := by have h_ := HZ.out; omega
            · rw [if_pos d1] at h
              have d1b0 : decide (0 < (a0.size : Int)) = true := decide_eq_true d1
              have d1b1 : decide (0 < a0.size) = true := decide_eq_true (by omega)
              by_cases d2 : 0 ≤ ji
              · rw [if_pos d2] at h
                by_cases d3 : ji < (a0.size : Int)
                · rw [if_pos d3] at h
                  have hx2 := bt_at a0 ji
                  have HZ := Aside0.mk (show ji.toNat < a0.size by omega)
                  have d2b0 := eq_true d2
                  have d2b1 : decide (0 ≤ ji) = true := decide_eq_true d2
                  have d3b0 := eq_true d3
                  have d3b1 : decide (ji < (a0.size : Int)) = true := decide_eq_true d3
                  have d4b0 := eq_true (show ji ≤ (a0.size : Int) by omega)
                  have d4b1 : decide (ji ≤ (a0.size : Int)) = true := decide_eq_true (by omega)
                  by_cases d5 : bt a0 ji ≤ 32
                  · rw [if_pos d5] at h
                    have d5b0 : decide (bt a0 ji ≤ 32) = true := decide_eq_true d5
                    have HA := Aside0.mk h
                    clear h d1 d2 d3 d5
                    go_wp2
                    go_step3
                    go_wp2
                    go_step3
                    go_wp2
                    go_step3
                    exact ⟨_, _, _, _, _, _, _, _, _, _, _, _, _, _, _, _, _, _, _, _, _, _, _, _, _, _, _, _, _, HW, rfl, .inr ⟨rfl, HA.out⟩⟩
                  · rw [if_neg d5] at h
                    have d5b0 : decide (bt a0 ji ≤ 32) = false := decide_eq_false d5
                    obtain rfl := Option.some.inj h
                    clear h d1 d2 d3 d5
                    go_wp2
                    go_step3
                    go_wp2
                    go_step3
                    go_wp2
                    try simp only [Exit.jumps]
                    go_ret
                    first | (obtain ⟨nw, rfl⟩ := HW.out; exact ⟨rfl, ⟨_, rfl⟩⟩) | exact ⟨rfl, Drawn0.refl _⟩
                · rw [if_neg d3] at h; exact absurd h (by simp)
              · rw [if_neg d2] at h; exact absurd h (by simp)
      · rw [if_neg c1] at h
        have c1b0 : decide (0 < (a0.size : Int)) = false := decide_eq_false c1
        have c1b1 : decide (0 < a0.size) = false := decide_eq_false (by omega)
        have HN := Aside0.mk c1
        clear c1
        cases k with
        | zero => exact absurd h (by simp [gjson_trim.r])
        | succ k =>
          rw [gjson_trim.r] at h
          obtain ⟨ji, hji⟩ : ∃ ji, wrap64 ((a0.size : Int) - 1) = ji := ⟨_, rfl⟩
          rw [hji] at h
          have hjw : IntKind.i64.wrap ((a0.size : Int) - 1) = ji := (i64_w _).trans hji
          have d1 : ¬ 0 < (a0.size : Int) := HN.out
          · rw [if_neg d1] at h
            have d1b0 : decide (0 < (a0.size : Int)) = false := decide_eq_false d1
            have d1b1 : decide (0 < a0.size) = false := decide_eq_false (by omega)
            obtain rfl := Option.some.inj h
            clear h d1
            go_wp2
            go_step3
            go_wp2
            go_step3
            go_wp2
            try simp only [Exit.jumps]
            go_ret
            first | (obtain ⟨nw, rfl⟩ := HW.out; exact ⟨rfl, ⟨_, rfl⟩⟩) | exact ⟨rfl, Drawn0.refl _⟩
  · rintro l a w1 rest ⟨s, k, u3, u4, u5, u6, u7, u8, u9, u10, u11, u12, u13, u14, u15, u16, u17, u18, u19, u20, u21, u22, u23, u24, u25, u26, u27, u28, u29, HW, rfl, ⟨rfl, h⟩ | ⟨rfl, h⟩⟩ hrest
    · obtain rfl : _ = rest := Option.some.inj hrest
      clear hrest
      cases k with
      | zero => exact absurd h (by simp [gjson_trim.l])
      | succ k =>
        rw [gjson_trim.l] at h
        by_cases c1 : 0 < (s.size : Int)
        · rw [if_pos c1] at h
          have c1b0 : decide (0 < (s.size : Int)) = true := decide_eq_true c1
          have c1b1 : decide (0 < s.size) = true := decide_eq_true (by omega)
          have HZ := Aside0.mk (show 0 < s.size by omega)
          have q1 : 0 < s.size := by omega
          have hx1 := bt_lit s 0 0 rfl
          have qi1 := eq_true c1
          replace q1 := eq_true q1
          have c3b0 := eq_true (show (1 : Int) ≤ (s.size : Int) by omega)
          have c3b1 : decide ((1 : Int) ≤ (s.size : Int)) = true := decide_eq_true (by omega)
          by_cases c2 : bt s 0 ≤ 32
          · rw [if_pos c2] at h
            have c2b0 : decide (bt s 0 ≤ 32) = true := decide_eq_true c2
            have HA := Aside0.mk h
            clear h c2 c1
            go_wp2
            go_step3
            refine ⟨⟨_, _, _, _, _, _, _, _, _, _, _, _, _, _, _, _, _, _, _, _, _, _, _, _, _, _, _, _, _, HW, rfl, .inl ⟨rfl, HA.out⟩⟩, ?_⟩
            show (ByteArray.extract _ _ _).size < _
            rw [ByteArray.size_extract]
            have c1 := HZ.out
            show _ < ByteArray.size _
            omega
          · rw [if_neg c2] at h
            have c2b0 : decide (bt s 0 ≤ 32) = false := decide_eq_false c2
            clear c2 c1
            cases k with
            | zero => exact absurd h (by simp [gjson_trim.r])
            | succ k =>
              rw [gjson_trim.r] at h
              obtain ⟨ji, hji⟩ : ∃ ji, wrap64 ((s.size : Int) - 1) = ji := ⟨_, rfl⟩
              rw [hji] at h
              have hjw : IntKind.i64.wrap ((s.size : Int) - 1) = ji := (i64_w _).trans hji
              have d1 : 0 < (s.size : Int) := by have h_ := HZ.out; omega
              · rw [if_pos d1] at h
                have d1b0 : decide (0 < (s.size : Int)) = true := decide_eq_true d1
                have d1b1 : decide (0 < s.size) = true := decide_eq_true (by omega)
                by_cases d2 : 0 ≤ ji
                · rw [if_pos d2] at h
                  by_cases d3 : ji < (s.size : Int)
                  · rw [if_pos d3] at h
                    have hx2 := bt_at s ji
                    have HZ := Aside0.mk (show ji.toNat < s.size by omega)
                    have d2b0 := eq_true d2
                    have d2b1 : decide (0 ≤ ji) = true := decide_eq_true d2
                    have d3b0 := eq_true d3
                    have d3b1 : decide (ji < (s.size : Int)) = true := decide_eq_true d3
                    have d4b0 := eq_true (show ji ≤ (s.size : Int) by omega)
                    have d4b1 : decide (ji ≤ (s.size : Int)) = true := decide_eq_true (by omega)
                    by_cases d5 : bt s ji ≤ 32
                    · rw [if_pos d5] at h
                      have d5b0 : decide (bt s ji ≤ 32) = true := decide_eq_true d5
                      have HA := Aside0.mk h
                      clear h d1 d2 d3 d5
                      go_wp2
                      go_step3
                      go_wp2
                      go_step3
                      refine ⟨⟨_, _, _, _, _, _, _, _, _, _, _, _, _, _, _, _, _, _, _, _, _, _, _, _, _, _, _, _, _, HW, rfl, .inr ⟨rfl, HA.out⟩⟩, ?_⟩
                      show (ByteArray.extract _ _ _).size < _
                      rw [ByteArray.size_extract]
                      have c1 := HZ.out
                      show _ < ByteArray.size _
                      omega
                    · rw [if_neg d5] at h
                      have d5b0 : decide (bt s ji ≤ 32) = false := decide_eq_false d5
                      obtain rfl := Option.some.inj h
                      clear h d1 d2 d3 d5
                      go_wp2
                      go_step3
                      go_wp2
                      try simp only [Exit.jumps]
                      go_ret
                      first | (obtain ⟨nw, rfl⟩ := HW.out; exact ⟨rfl, ⟨_, rfl⟩⟩) | exact ⟨rfl, Drawn0.refl _⟩
                  · rw [if_neg d3] at h; exact absurd h (by simp)
                · rw [if_neg d2] at h; exact absurd h (by simp)
        · rw [if_neg c1] at h
          have c1b0 : decide (0 < (s.size : Int)) = false := decide_eq_false c1
          have c1b1 : decide (0 < s.size) = false := decide_eq_false (by omega)
          have HN := Aside0.mk c1
          clear c1
          cases k with
          | zero => exact absurd h (by simp [gjson_trim.r])
          | succ k =>
            rw [gjson_trim.r] at h
            obtain ⟨ji, hji⟩ : ∃ ji, wrap64 ((s.size : Int) - 1) = ji := ⟨_, rfl⟩
            rw [hji] at h
            have hjw : IntKind.i64.wrap ((s.size : Int) - 1) = ji := (i64_w _).trans hji
            have d1 : ¬ 0 < (s.size : Int) := HN.out
            · rw [if_neg d1] at h
              have d1b0 : decide (0 < (s.size : Int)) = false := decide_eq_false d1
              have d1b1 : decide (0 < s.size) = false := decide_eq_false (by omega)
              obtain rfl := Option.some.inj h
              clear h d1
              go_wp2
              go_step3
              go_wp2
              try simp only [Exit.jumps]
              go_ret
              first | (obtain ⟨nw, rfl⟩ := HW.out; exact ⟨rfl, ⟨_, rfl⟩⟩) | exact ⟨rfl, Drawn0.refl _⟩
    · obtain rfl : _ = rest := Option.some.inj hrest
      clear hrest
      cases k with
      | zero => exact absurd h (by simp [gjson_trim.r])
      | succ k =>
        rw [gjson_trim.r] at h
        obtain ⟨ji, hji⟩ : ∃ ji, wrap64 ((s.size : Int) - 1) = ji := ⟨_, rfl⟩
        rw [hji] at h
        have hjw : IntKind.i64.wrap ((s.size : Int) - 1) = ji := (i64_w _).trans hji
        by_cases d1 : 0 < (s.size : Int)
        · rw [if_pos d1] at h
          have d1b0 : decide (0 < (s.size : Int)) = true := decide_eq_true d1
          have d1b1 : decide (0 < s.size) = true := decide_eq_true (by omega)
          by_cases d2 : 0 ≤ ji
          · rw [if_pos d2] at h
            by_cases d3 : ji < (s.size : Int)
            · rw [if_pos d3] at h
              have hx2 := bt_at s ji
              have HZ := Aside0.mk (show ji.toNat < s.size by omega)
              have d2b0 := eq_true d2
              have d2b1 : decide (0 ≤ ji) = true := decide_eq_true d2
              have d3b0 := eq_true d3
              have d3b1 : decide (ji < (s.size : Int)) = true := decide_eq_true d3
              have d4b0 := eq_true (show ji ≤ (s.size : Int) by omega)
              have d4b1 : decide (ji ≤ (s.size : Int)) = true := decide_eq_true (by omega)
              by_cases d5 : bt s ji ≤ 32
              · rw [if_pos d5] at h
                have d5b0 : decide (bt s ji ≤ 32) = true := decide_eq_true d5
                have HA := Aside0.mk h
                clear h d1 d2 d3 d5
                go_wp2
                go_step3
                refine ⟨⟨_, _, _, _, _, _, _, _, _, _, _, _, _, _, _, _, _, _, _, _, _, _, _, _, _, _, _, _, _, HW, rfl, .inr ⟨rfl, HA.out⟩⟩, ?_⟩
                show (ByteArray.extract _ _ _).size < _
                rw [ByteArray.size_extract]
                have c1 := HZ.out
                show _ < ByteArray.size _
                omega
              · rw [if_neg d5] at h
                have d5b0 : decide (bt s ji ≤ 32) = false := decide_eq_false d5
                obtain rfl := Option.some.inj h
                clear h d1 d2 d3 d5
                go_wp2
                try simp only [Exit.jumps]
                go_ret
                first | (obtain ⟨nw, rfl⟩ := HW.out; exact ⟨rfl, ⟨_, rfl⟩⟩) | exact ⟨rfl, Drawn0.refl _⟩
            · rw [if_neg d3] at h; exact absurd h (by simp)
          · rw [if_neg d2] at h; exact absurd h (by simp)
        · rw [if_neg d1] at h
          have d1b0 : decide (0 < (s.size : Int)) = false := decide_eq_false d1
          have d1b1 : decide (0 < s.size) = false := decide_eq_false (by omega)
          obtain rfl := Option.some.inj h
          clear h d1
          go_wp2
          try simp only [Exit.jumps]
          go_ret
          first | (obtain ⟨nw, rfl⟩ := HW.out; exact ⟨rfl, ⟨_, rfl⟩⟩) | exact ⟨rfl, Drawn0.refl _⟩
end Go.Proofs.Ytnmbpleneddkhaa.PFnGjQueryParts
