/- What bytes a number, a word and a string of a JSON text are made of. -/
import Derived.Test.YtmneeighbkcadaaDoorJCFnJpLength
namespace Go.Proofs.YtmneeighbkcadaaDoor.JFnJpLength
open Go.RowKit Go.Proofs.YtmneeighbkcadaaDoor.PFnJpLength Go.Proofs.YtmneeighbkcadaaDoorW.PrintWords Go.Proofs.YtmneeighbkcadaaDoorW.PrintLast Go.Proofs.YtmneeighbkcadaaDoorW.PrintMore

def NumCh (c : Int) : Prop := (48 ≤ c ∧ c ≤ 57) ∨ c = 45 ∨ c = 43 ∨ c = 46 ∨ c = 101 ∨ c = 69
theorem num_ch {s : ByteArray} {i j : Int} (h : Num s i j) (q : Int) (h0 : i ≤ q) (h1 : q < j) : NumCh (bt s q) := by
  obtain ⟨a, b, c, ha, hb, hc, hj⟩ := h.out
  have d : ∀ {x y : Int}, Digs s x y → x ≤ q → q < y → NumCh (bt s q) := fun h h2 h3 => .inl (h.all q h2 h3)
  have cs : ∀ x : Int, q = x → NumCh (bt s x) → NumCh (bt s q) := fun x e h => e ▸ h
  by_cases q1 : q < a
  · exact cs i (by omega) (by unfold NumCh; omega)
  by_cases q2 : q < b
  · rcases hb with ⟨_, h2, h3⟩ | ⟨_, h2⟩
    · exact cs a (by omega) (by unfold NumCh; omega)
    · exact d h2 (by omega) q2
  by_cases q3 : q < c
  · rcases hc with ⟨h2, _⟩ | ⟨h2, h3⟩
    · omega
    · by_cases e : q = b
      · exact cs b e (by unfold NumCh; omega)
      · exact d h3 (by omega) q3
  rcases hj with ⟨h2, _⟩ | ⟨h2, h3⟩
  · omega
  by_cases e : q = c
  · exact cs c e (by unfold NumCh; omega)
  rcases h3 with ⟨_, _, h4⟩ | ⟨h3, h4⟩
  · exact d h4 (by omega) h1
  · by_cases e : q = c + 1
    · exact cs (c + 1) e (by unfold NumCh; omega)
    · exact d h4 (by omega) h1
theorem word_ch {s w : ByteArray} {i : Int} (h : Word s i w) (h0 : 0 ≤ i) (hw : ∀ q : Nat, q < w.size → 97 ≤ bt w q ∧ bt w q ≤ 122) (q : Int) (h1 : i ≤ q) (h2 : q < i + w.size) : 97 ≤ bt s q ∧ bt s q ≤ 122 := by
  have := h.at_ h0 (q - i).toNat (by omega)
  rw [show i + (((q - i).toNat : Nat) : Int) = q by omega] at this
  rw [this]
  exact hw _ (by omega)
theorem lit_ch {s : ByteArray} {kd i j : Int} {ns : List Sp} {ks : List Pl} (h : JV s kd i j ns ks) (hk : kd < 3) (h0 : 0 ≤ i) (q : Int) (h1 : i ≤ q) (h2 : q < j) : 97 ≤ bt s q ∧ bt s q ≤ 122 := by
  cases h with
  | null h => exact word_ch h h0 (fun q hq => by have : q < 4 := hq; match q, this with | 0, _ => decide | 1, _ => decide | 2, _ => decide | 3, _ => decide) q h1 h2
  | fals h => exact word_ch h h0 (fun q hq => by have : q < 5 := hq; match q, this with | 0, _ => decide | 1, _ => decide | 2, _ => decide | 3, _ => decide | 4, _ => decide) q h1 h2
  | tru h => exact word_ch h h0 (fun q hq => by have : q < 4 := hq; match q, this with | 0, _ => decide | 1, _ => decide | 2, _ => decide | 3, _ => decide) q h1 h2
  | num _ _ => omega
  | str _ _ => omega
  | arr0 _ _ _ _ => omega
  | arr _ _ _ => omega
  | obj0 _ _ _ _ => omega
  | obj _ _ _ => omega
theorem jv_num {s : ByteArray} {kd i j : Int} {ns : List Sp} {ks : List Pl} (h : JV s kd i j ns ks) (hk : kd = 3) : Num s i j := by
  cases h with
  | num h _ => exact h
  | null _ => omega
  | fals _ => omega
  | tru _ => omega
  | str _ _ => omega
  | arr0 _ _ _ _ => omega
  | arr _ _ _ => omega
  | obj0 _ _ _ _ => omega
  | obj _ _ _ => omega
end Go.Proofs.YtmneeighbkcadaaDoor.JFnJpLength
