/- All places of a JSON text, and what holds of each. -/
import Derived.Test.YtmneeighbkcadaaDoorJBFnJpLength
namespace Go.Proofs.YtmneeighbkcadaaDoor.JFnJpLength
open Go.RowKit Go.Proofs.YtmneeighbkcadaaDoor.PFnJpLength Go.Proofs.YtmneeighbkcadaaDoorW.PrintWords Go.Proofs.YtmneeighbkcadaaDoorW.PrintLast Go.Proofs.YtmneeighbkcadaaDoorW.PrintMore

mutual
def pre : Pl → List Pl
  | ⟨a, b, c, d, ks⟩ => ⟨a, b, c, d, ks⟩ :: preL ks
def preL : List Pl → List Pl
  | [] => []
  | k :: r => pre k ++ preL r
end
theorem StrT.lt {s : ByteArray} {i j : Int} (h : StrT s i j) : i < j := by
  induction h <;> omega
theorem StrT.hi {s : ByteArray} {i j : Int} (h : StrT s i j) : j ≤ s.size := by
  induction h <;> omega
theorem pre_pos (p : Pl) : 0 < (pre p).length := by
  obtain ⟨a, b, c, d, ks⟩ := p
  simp [pre]
theorem preL_len : ∀ l : List Pl, l.length ≤ (preL l).length
  | [] => by simp
  | q :: r => by have := preL_len r; have := pre_pos q; simp only [preL, List.length_append, List.length_cons]; omega
/-- What stands behind a value: a blank, a comma, a closing bracket, or nothing. -/
def Follow (s : ByteArray) (j : Int) : Prop := j = s.size ∨ (j < s.size ∧ (IsBl (bt s j) ∨ bt s j = 44 ∨ bt s j = 93 ∨ bt s j = 125))
theorem Follow.of_blk {s : ByteArray} {a b : Int} (h : Blk s a b) (hb : b < s.size) (hc : bt s b = 44 ∨ bt s b = 93 ∨ bt s b = 125) : Follow s a := by
  have := h.le
  by_cases e : a = b
  · subst e; exact .inr ⟨hb, .inr hc⟩
  · exact .inr ⟨by omega, .inl (h.all a (by omega) (by omega))⟩
structure GoodP (s : ByteArray) (q : Pl) : Prop where
  lo : 0 ≤ q.f1
  lt : q.f1 < q.f2
  hi : q.f2 ≤ s.size
  val : JV s q.f0 q.f1 q.f2 q.f3 q.f4
  fol : Follow s q.f2
/-- Induction over a value's places. -/
theorem jv_ind {s : ByteArray} {P : Int → Int → Int → List Sp → List Pl → Prop} {Q : Int → Int → List Pl → Prop} {R : Int → Int → List Sp → List Pl → Prop}
    (leaf : ∀ (kd i j : Int), JV s kd i j [] [] → P kd i j [] [])
    (arr : ∀ (i b j : Int) (ks : List Pl), JV s 5 i j [] ks → Blk s (i + 1) b → JE s b j ks → Q b j ks → P 5 i j [] ks)
    (obj : ∀ (i b j : Int) (ns : List Sp) (ks : List Pl), JV s 6 i j ns ks → Blk s (i + 1) b → JM s b j ns ks → R b j ns ks → P 6 i j ns ks)
    (one : ∀ (i a b kd : Int) (ns : List Sp) (ks : List Pl), i < a ∧ i < s.size → JV s kd i a ns ks → P kd i a ns ks → Blk s a b → b < s.size → bt s b = 93 → Q i (b + 1) [⟨kd, i, a, ns, ks⟩])
    (cons : ∀ (i a b c j kd : Int) (ns : List Sp) (ks r : List Pl), i < a ∧ i < s.size → JV s kd i a ns ks → P kd i a ns ks → Blk s a b → b < s.size → bt s b = 44 → Blk s (b + 1) c → JE s c j r → Q c j r → Q i j (⟨kd, i, a, ns, ks⟩ :: r))
    (mone : ∀ (i a b c d e kd : Int) (ns : List Sp) (ks : List Pl), i < s.size ∧ bt s i = 34 → StrT s (i + 1) a → Blk s a b → b < s.size → bt s b = 58 → Blk s (b + 1) c → c < d ∧ c < s.size → JV s kd c d ns ks → P kd c d ns ks → Blk s d e → e < s.size → bt s e = 125 → R i (e + 1) [⟨i, a⟩] [⟨kd, c, d, ns, ks⟩])
    (mcons : ∀ (i a b c d e f j kd : Int) (ns ns2 : List Sp) (ks ks2 : List Pl), i < s.size ∧ bt s i = 34 → StrT s (i + 1) a → Blk s a b → b < s.size → bt s b = 58 → Blk s (b + 1) c → c < d ∧ c < s.size → JV s kd c d ns ks → P kd c d ns ks → Blk s d e → e < s.size → bt s e = 44 → Blk s (e + 1) f → JM s f j ns2 ks2 → R f j ns2 ks2 → R i j (⟨i, a⟩ :: ns2) (⟨kd, c, d, ns, ks⟩ :: ks2))
    {kd i j : Int} {ns : List Sp} {ks : List Pl} (h : JV s kd i j ns ks) : P kd i j ns ks :=
  @JV.rec s (fun kd i j ns ks _ => P kd i j ns ks) (fun i j ks _ => Q i j ks) (fun i j ns ks _ => R i j ns ks)
    (fun h => leaf _ _ _ (.null h)) (fun h => leaf _ _ _ (.fals h)) (fun h => leaf _ _ _ (.tru h)) (fun h hd => leaf _ _ _ (.num h hd)) (fun h t => leaf _ _ _ (.str h t)) (fun h a b c => leaf _ _ _ (.arr0 h a b c))
    (fun h a b ih => arr _ _ _ _ (.arr h a b) a b ih) (fun h a b c => leaf _ _ _ (.obj0 h a b c)) (fun h a b ih => obj _ _ _ _ _ (.obj h a b) a b ih)
    (fun hl h a b c ih => one _ _ _ _ _ _ hl h ih a b c) (fun hl h a b c d e ih ih2 => cons _ _ _ _ _ _ _ _ _ hl h ih a b c d e ih2)
    (fun h t a b c d hl v e f g ih => mone _ _ _ _ _ _ _ _ _ h t a b c d hl v ih e f g)
    (fun h t a b c d hl v e f g k m ih ih2 => mcons _ _ _ _ _ _ _ _ _ _ _ _ _ h t a b c d hl v ih e f g k m ih2) kd i j ns ks h
theorem jv_all {s : ByteArray} {kd i j : Int} {ns : List Sp} {ks : List Pl} (h : JV s kd i j ns ks) : 0 ≤ i → i < j → j ≤ s.size → Follow s j →
    (∀ q ∈ pre ⟨kd, i, j, ns, ks⟩, GoodP s q) ∧ ((pre ⟨kd, i, j, ns, ks⟩).length : Int) ≤ j - i := by
  have more : ∀ kd i j ns ks b, JV s kd i j ns ks → 0 ≤ i → i < j → j ≤ s.size → Follow s j → i < b → (∀ q ∈ preL ks, GoodP s q) → ((preL ks).length : Int) ≤ j - b → (∀ q ∈ pre ⟨kd, i, j, ns, ks⟩, GoodP s q) ∧ ((pre ⟨kd, i, j, ns, ks⟩).length : Int) ≤ j - i := by
    intro kd i j ns ks b h h0 h1 h2 hf hb hq hl
    refine ⟨fun q hq2 => ?_, by simp [pre]; omega⟩
    simp only [pre, List.mem_cons] at hq2
    rcases hq2 with rfl | hq2
    · exact ⟨h0, h1, h2, h, hf⟩
    · exact hq q hq2
  refine jv_ind (P := fun kd i j ns ks => 0 ≤ i → i < j → j ≤ s.size → Follow s j → (∀ q ∈ pre ⟨kd, i, j, ns, ks⟩, GoodP s q) ∧ ((pre ⟨kd, i, j, ns, ks⟩).length : Int) ≤ j - i)
    (Q := fun i j ks => 0 ≤ i → j ≤ s.size → (∀ q ∈ preL ks, GoodP s q) ∧ ((preL ks).length : Int) ≤ j - i)
    (R := fun i j ns ks => 0 ≤ i → j ≤ s.size → (∀ q ∈ preL ks, GoodP s q) ∧ ((preL ks).length : Int) ≤ j - i) ?_ ?_ ?_ ?_ ?_ ?_ ?_ h
  · intro kd i j h h0 h1 h2 hf
    exact more _ _ _ _ _ (i + 1) h h0 h1 h2 hf (by omega) (by simp [preL]) (by simp [preL]; omega)
  · intro i b j ks h a _ ih h0 h1 h2 hf
    have := a.le
    have z := ih (by omega) h2
    exact more _ _ _ _ _ b h h0 h1 h2 hf (by omega) z.1 z.2
  · intro i b j ns ks h a _ ih h0 h1 h2 hf
    have := a.le
    have z := ih (by omega) h2
    exact more _ _ _ _ _ b h h0 h1 h2 hf (by omega) z.1 z.2
  · intro i a b kd ns ks hl h ih e f g h0 h2
    have := e.le; have := e.hi
    have z := ih h0 hl.1 (by omega) (.of_blk e f (.inr (.inl g)))
    exact ⟨fun q hq => z.1 q (by simpa [preL] using hq), by simp only [preL, List.append_nil]; omega⟩
  · intro i a b c j kd ns ks r hl h ih e f g k _ ih2 h0 h2
    have := e.le; have := e.hi; have := k.le
    have z := ih h0 hl.1 (by omega) (.of_blk e f (.inl g))
    have y := ih2 (by omega) h2
    refine ⟨fun q hq => ?_, by simp only [preL, List.length_append]; omega⟩
    simp only [preL, List.mem_append] at hq
    rcases hq with hq | hq
    · exact z.1 q hq
    · exact y.1 q hq
  · intro i a b c d e kd ns ks g t k l m n hl h ih o p q h0 h2
    have := t.lt; have := k.le; have := n.le; have := o.le; have := o.hi
    have z := ih (by omega) hl.1 (by omega) (.of_blk o p (.inr (.inr q)))
    exact ⟨fun q hq => z.1 q (by simpa [preL] using hq), by simp only [preL, List.append_nil]; omega⟩
  · intro i a b c d e f j kd ns ns2 ks ks2 g t k l m n hl h ih o p q r _ ih2 h0 h2
    have := t.lt; have := k.le; have := n.le; have := o.le; have := o.hi; have := r.le
    have z := ih (by omega) hl.1 (by omega) (.of_blk o p (.inl q))
    have y := ih2 (by omega) h2
    refine ⟨fun q hq => ?_, by simp only [preL, List.length_append]; omega⟩
    simp only [preL, List.mem_append] at hq
    rcases hq with hq | hq
    · exact z.1 q hq
    · exact y.1 q hq
end Go.Proofs.YtmneeighbkcadaaDoor.JFnJpLength
