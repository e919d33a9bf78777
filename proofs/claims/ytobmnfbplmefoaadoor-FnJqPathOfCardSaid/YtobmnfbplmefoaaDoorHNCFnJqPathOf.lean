/- jsonparser's Unescape of a text whose escapes are RFC 8259's, as a function; no condition beside those that each theorem states. -/
import Derived.Test.YtobmnfbplmefoaaDoorHNBFnJqPathOf
namespace Go.Proofs.YtobmnfbplmefoaaDoor.PFnJqPathOf
open Go.RowKit Go.Proofs.YtobmnfbplmefoaaDoorW.PrintWords Go.Proofs.YtobmnfbplmefoaaDoorW.PrintLast Go.Proofs.YtobmnfbplmefoaaDoorW.PrintMore
set_option linter.unusedVariables false
set_option linter.unusedSimpArgs false
set_option maxHeartbeats 4000000 in
set_option maxRecDepth 100000 in
theorem unescape_calls (l r : List Int) (hU : Un l r) (b o n c : Nat) (hl : l.length = n) (hc : n ≤ c) (hz : n ≤ 140737488355328) (hr : ∀ x ∈ l, 0 ≤ x ∧ x < 256) (h92 : 92 ∈ l) (A1 : Option Addr) (w : World) (hG : Glob w) (hH : Hd b o l w) :
    Calls Tryd.prog 28 #[.slice (some ⟨b, o, none⟩) n c, .slice A1 0 0] w (UnPost n r w) := by
  have k1 := loop_calls l r hU b o n c hl hc hz hr h92 A1 w hG hH
  have g0 := hG.e3_0
  have g1 := hG.e3_1
  have g2 := hG.e3_2
  clear hU hl hc hz hr h92 hG hH
  dsimp only [cfgV] at k1
  go_enter Tryd.func28, Tryd.ntmps28
  go_wp2_with (go_at_call 33; (with_reducible refine k1.mono ?_); rintro e w1 ⟨g, rfl, hg, ho, HB⟩; have H2 := Aside0.mk hg; have H3 := Aside0.mk ho; have H4 := Aside0.mk HB; clear HB ho hg k1)
  go_ret2
  exact ⟨g, rfl, H2.out, H3.out, H4.out⟩
/-! ### as a function -/
def okRb (x m : Int) : Bool := (m == 6 || m == 12) && decide (0 ≤ x) && decide (x ≤ 1114111) && (decide (x < 55296) || decide (57343 < x))
theorem okR_of {x m : Int} (h : okRb x m = true) : okR x m := by
  simp only [okRb, Bool.and_eq_true, Bool.or_eq_true, beq_iff_eq, decide_eq_true_eq] at h
  exact ⟨h.1.1.1, h.1.1.2, h.1.2, h.2⟩
/-- What a text's escapes stand for; none where an escape is none of RFC 8259's. -/
def unF : Nat → List Int → Option (List Int)
  | 0, _ => none
  | _ + 1, [] => some []
  | f + 1, c :: t => if c = 92 then (if 2 ≤ (c :: t).length then (if simpleE (rd (c :: t) 1) = true then (unF f (t.drop 1)).map (fun r => escT.getD (rd (c :: t) 1).toNat 0 :: r)
      else if rd (c :: t) 1 = 117 then (match jsonparser_decodeUnicodeEscape.f 9 (c :: t) with
        | some (x, m) => if okRb x m = true ∧ m.toNat ≤ (c :: t).length then (unF f ((c :: t).drop m.toNat)).map (fun r => encN x ++ r) else none
        | none => none) else none) else none) else (unF f t).map (fun r => c :: r)
theorem unF_un (f : Nat) : ∀ (l r : List Int), unF f l = some r → Un l r := by
  induction f with
  | zero => intro l r h; cases h
  | succ f ih =>
    intro l r h
    cases l with
    | nil =>
      obtain rfl := Option.some.inj (show some [] = some r from h)
      exact Un.nil
    | cons c t =>
      rw [unF] at h
      split at h
      · rename_i hc
        split at h
        · rename_i h2
          split at h
          · rename_i hs
            obtain ⟨r2, hr2, rfl⟩ := Option.map_eq_some_iff.1 h
            have := Un.es (Es.sh (l := c :: t) _ (show c = 92 from hc) rfl hs h2) (show Un ((c :: t).drop 2) r2 from ih _ _ hr2)
            exact this
          · split at h
            · rename_i h117
              split at h
              · rename_i x m hd
                split at h
                · rename_i ho
                  obtain ⟨r2, hr2, rfl⟩ := Option.map_eq_some_iff.1 h
                  have hok := okR_of ho.1
                  have hm : m = ((m.toNat : Nat) : Int) := by have := hok.1; omega
                  exact Un.es (Es.un (l := c :: t) 9 x m.toNat (show c = 92 from hc) h117 (by rw [← hm]; exact hd) (by rw [← hm]; exact hok) ho.2) (ih _ _ hr2)
                · cases h
              · cases h
            · cases h
        · cases h
      · rename_i hc
        obtain ⟨r2, hr2, rfl⟩ := Option.map_eq_some_iff.1 h
        exact Un.ch hc (ih _ _ hr2)
def jsonparser_Unescape.f (l0 : List Int) (l1 : List Int) : Option (List Int × Option Int) :=
  if l1 = [] ∧ l0.length ≤ 140737488355328 ∧ (l0.all fun x => decide (0 ≤ x) && decide (x < 256)) = true ∧ l0.contains 92 = true then (unF (l0.length + 1) l0).map (fun r => (r, none)) else none
set_option maxHeartbeats 4000000 in
theorem jsonparser_Unescape.calls (A0 : Option Addr) (c0 : Nat) (l0 : List Int) (A1 : Option Addr) (c1 : Nat) (l1 : List Int) (r1 : List Int) (r2 : Option Int) (w : World) (hr0 : Kd.C (Kd.int .u8) w A0 l0.length l0) (hc0 : l0.length ≤ c0) (hr1 : Kd.C (Kd.int .u8) w A1 l1.length l1) (hc1 : c1 ≤ l1.length) (h : jsonparser_Unescape.f l0 l1 = some (r1, r2)) (hG : Glob w) :
    Calls Tryd.prog 28 #[.slice A0 l0.length c0, .slice A1 l1.length c1] w fun e w' => ∃ v0_ : Value, ∃ evr2 : TypeId × Value, e = .returned (.tuple #[v0_, errX r2 evr2]) ∧ Kd.R (Kd.int .u8) 5 w' w.heap.size (fun _ => True) v0_ r1 ∧ Below w.heap.size w w' := by
  unfold jsonparser_Unescape.f at h
  split at h
  · rename_i hh
    obtain ⟨rfl, hz, hal, h92⟩ := hh
    obtain rfl : c1 = 0 := by simpa using hc1
    rw [show ([] : List Int).length = 0 from rfl]
    obtain ⟨r, hr, he⟩ := Option.map_eq_some_iff.1 h
    simp only [Prod.mk.injEq] at he
    obtain ⟨rfl, rfl⟩ := he
    have hU := unF_un _ _ _ hr
    have hrng : ∀ x ∈ l0, 0 ≤ x ∧ x < 256 := fun x hx => by simpa using List.all_eq_true.1 hal x hx
    have hmem : 92 ∈ l0 := by simpa using h92
    obtain ⟨b, o, rfl, hH⟩ := Hd.of_C hr0 (List.length_pos_of_mem hmem)
    refine (unescape_calls l0 r hU b o l0.length c0 rfl hc0 hz hrng hmem A1 w hG hH).mono ?_
    rintro e w' ⟨g, rfl, hg, ⟨out, ho, ht, hO⟩, hB⟩
    refine ⟨_, (0, .nilIface), rfl, ?_, hB⟩
    have hlen := hU.len
    have hrow : w'.ownsRow w.heap.size 5 1 (.slice (some ⟨g, 0, none⟩) l0.length l0.length) l0.length (nums .u8 out) := by
      refine ⟨by simp [nums, ho], .inr ⟨g, l0.length, (nums .u8 out).toArray, rfl, hg, hO.row, Nat.le_refl _, by simp only [maxLen]; omega, by simp [nums, ho], ?_⟩⟩
      rw [Nat.mul_one, List.take_of_length_le (by simp [nums, ho])]
    have h3 := own_take hrow hlen
    rw [Nat.mul_one, show (nums .u8 out).take r.length = nums .u8 r from by rw [← ht]; simp [nums, List.map_take]] at h3
    exact Kd.R_of_own h3 (fun _ _ => trivial)
  · cases h
end Go.Proofs.YtobmnfbplmefoaaDoor.PFnJqPathOf
