/- The look for control characters in fastjson's check of a value. -/
import Derived.Test.YtdhiihegfdmokaaDoorVNFnFjCheckObject
namespace Go.Proofs.YtdhiihegfdmokaaDoor.JFnFjCheckObject
open Go.RowKit Go.Proofs.YtdhiihegfdmokaaDoor.PFnFjCheckObject Go.Proofs.YtdhiihegfdmokaaDoorW.PrintWords Go.Proofs.YtdhiihegfdmokaaDoorW.PrintLast Go.Proofs.YtdhiihegfdmokaaDoorW.PrintMore
set_option linter.unusedSimpArgs false
set_option linter.unusedVariables false

theorem e_err (m x : ByteArray) : Ev (fun _ => (errors_New.f m).bind fun t => some (x, t)) (x, some 0) := Ev.bd (err_new m) (Ev.now _)
/-- The look for control characters in a string. -/
theorem ctl_v (sv tail : ByteArray) (hs : sv.size ≤ 100000) : ∃ r, Ev (fun k => fastjson_validateValue.l0 k sv tail (sv.size : Int) 0) r ∧ ((r = (tail, none) ∧ ∀ q : Nat, q < sv.size → 32 ≤ bt sv q) ∨ (r = (tail, some 0) ∧ ∃ q : Nat, q < sv.size ∧ bt sv q < 32)) := by
  have go : ∀ d i : Nat, sv.size - i = d → i ≤ sv.size → (∀ q : Nat, q < i → 32 ≤ bt sv q) → ∃ r, Ev (fun k => fastjson_validateValue.l0 k sv tail (sv.size : Int) (i : Int)) r ∧ ((r = (tail, none) ∧ ∀ q : Nat, q < sv.size → 32 ≤ bt sv q) ∨ (r = (tail, some 0) ∧ ∃ q : Nat, q < sv.size ∧ bt sv q < 32)) := by
    intro d
    induction d with
    | zero =>
      intro i hd hi hq
      exact ⟨(tail, none), Ev.step (fun k => by rw [fastjson_validateValue.l0]) (Ev.neg (by omega) (Ev.now _)), .inl ⟨rfl, fun q h => hq q (by omega)⟩⟩
    | succ d ih =>
      intro i hd hi hq
      by_cases c : bt sv i < 32
      · exact ⟨(tail, some 0), Ev.step (fun k => by rw [fastjson_validateValue.l0]) (Ev.pos (by omega) (Ev.pos (by omega) (Ev.pos (by omega) (Ev.pos c (e_err _ _))))), .inr ⟨rfl, i, by omega, c⟩⟩
      · obtain ⟨r, e, h⟩ := ih (i + 1) (by omega) (by omega) (fun q h => by
          by_cases e : q = i
          · rw [e]; omega
          · exact hq q (by omega))
        refine ⟨r, Ev.step (fun k => by rw [fastjson_validateValue.l0]) (Ev.pos (by omega) (Ev.pos (by omega) (Ev.pos (by omega) (Ev.neg c ?_)))), h⟩
        rw [w1 i (by omega)]
        exact e
  exact go sv.size 0 (by omega) (by omega) (fun q h => by omega)
theorem ctl_k (sv tail : ByteArray) (hs : sv.size ≤ 100000) : (Ev (fun k => fastjson_validateObject.l1 k tail sv (sv.size : Int) 0) (tail, some 0) ∧ ∃ q : Nat, q < sv.size ∧ bt sv q < 32) ∨
    ((∀ q : Nat, q < sv.size → 32 ≤ bt sv q) ∧ ∀ r, Ev (fun k => (fastjson_skipWS.f k tail).bind fun t332 => (if (t332.size : Int) = 0 then (fastjson_validateObject.j3 k t332 true) else (if 0 < (t332.size : Int) then (fastjson_validateObject.j3 k t332 ((bt t332 0) != 58)) else (none)))) r → Ev (fun k => fastjson_validateObject.l1 k tail sv (sv.size : Int) 0) r) := by
  have go : ∀ d i : Nat, sv.size - i = d → i ≤ sv.size → (∀ q : Nat, q < i → 32 ≤ bt sv q) → (Ev (fun k => fastjson_validateObject.l1 k tail sv (sv.size : Int) (i : Int)) (tail, some 0) ∧ ∃ q : Nat, q < sv.size ∧ bt sv q < 32) ∨
    ((∀ q : Nat, q < sv.size → 32 ≤ bt sv q) ∧ ∀ r, Ev (fun k => (fastjson_skipWS.f k tail).bind fun t332 => (if (t332.size : Int) = 0 then (fastjson_validateObject.j3 k t332 true) else (if 0 < (t332.size : Int) then (fastjson_validateObject.j3 k t332 ((bt t332 0) != 58)) else (none)))) r → Ev (fun k => fastjson_validateObject.l1 k tail sv (sv.size : Int) (i : Int)) r) := by
    intro d
    induction d with
    | zero =>
      intro i hd hi hq
      exact .inr ⟨fun q h => hq q (by omega), fun r e => Ev.step (fun k => by rw [fastjson_validateObject.l1]) (Ev.neg (by omega) e)⟩
    | succ d ih =>
      intro i hd hi hq
      by_cases c : bt sv i < 32
      · exact .inl ⟨Ev.step (fun k => by rw [fastjson_validateObject.l1]) (Ev.pos (by omega) (Ev.pos (by omega) (Ev.pos (by omega) (Ev.pos c (e_err _ _))))), i, by omega, c⟩
      · have st : ∀ r, Ev (fun k => fastjson_validateObject.l1 k tail sv (sv.size : Int) ((i + 1 : Nat) : Int)) r → Ev (fun k => fastjson_validateObject.l1 k tail sv (sv.size : Int) (i : Int)) r := fun r e => by
          refine Ev.step (fun k => by rw [fastjson_validateObject.l1]) (Ev.pos (by omega) (Ev.pos (by omega) (Ev.pos (by omega) (Ev.neg c ?_))))
          rw [w1 i (by omega)]
          exact e
        rcases ih (i + 1) (by omega) (by omega) (fun q h => by
          by_cases e : q = i
          · rw [e]; omega
          · exact hq q (by omega)) with ⟨e, h⟩ | ⟨h, k⟩
        · exact .inl ⟨st _ e, h⟩
        · exact .inr ⟨h, fun r e => st r (k r e)⟩
  exact go sv.size 0 (by omega) (by omega) (fun q h => by omega)
theorem sx_bt0 (T : ByteArray) (i : Nat) : bt (sx T i) 0 = bt T i := by
  have := sx_nat T i 0
  simpa using this
theorem isNone_of {o : Option Int} (h : o ≠ none) : ¬ o.isNone = true := by cases o <;> simp_all
theorem isNone_some {o : Option Int} (h : o.isSome = true) : ¬ o.isNone = true := by cases o <;> simp_all
end Go.Proofs.YtdhiihegfdmokaaDoor.JFnFjCheckObject
