/- The inner count of a container: what lies deeper is gone over, and each member or element is counted once; no condition beside those that each theorem states. -/
import Derived.Test.YtmneeighbkcadaaDoorFVFnJpLength
namespace Go.Proofs.YtmneeighbkcadaaDoor.JFnJpLength
open Go.RowKit Go.Proofs.YtmneeighbkcadaaDoor.PFnJpLength Go.Proofs.YtmneeighbkcadaaDoorW.PrintWords Go.Proofs.YtmneeighbkcadaaDoorW.PrintLast Go.Proofs.YtmneeighbkcadaaDoorW.PrintMore
set_option linter.unusedSimpArgs false
set_option linter.unusedVariables false

/-- Where the count stands: the closing byte, the error, the state, the stack, the count, where a value began, the place; and what it tells at last. -/
def At (s : ByteArray) (c8 : Int) (er : Option Int) (q : Int) (st : List Int) (n ps i : Int) (r : Int × Option Int) : Prop := Ev (fun k => sCL_.l0 k (bytesOf s) c8 er q st n ps i) r
theorem slide {P : Int → Prop} {a b : Int} (hab : a ≤ b) (h : ∀ p, a ≤ p → p < b → P (p + 1) → P p) (hb : P b) : P a := by
  have go : ∀ (d : Nat) (p : Int), a ≤ p → p ≤ b → b - p ≤ d → P p := by
    intro d
    induction d with
    | zero =>
      intro p h0 h1 hd
      obtain rfl : p = b := by omega
      exact hb
    | succ d ih =>
      intro p h0 h1 hd
      by_cases c : p = b
      · exact c ▸ hb
      · exact h p h0 (by omega) (ih (p + 1) (by omega) (by omega) (by omega))
  exact go (b - a).toNat a (Int.le_refl _) hab (by omega)
section
variable {s : ByteArray} (hs : (s.size : Int) ≤ 2147483647)
include hs
/-! ### inside what is deeper -/
section
variable {c8 : Int} {er : Option Int} {q n ps : Int} {r : Int × Option Int}
theorem deep_other {st : List Int} (hst : 1 < st.length) {i : Int} (h0 : 0 ≤ i) (h1 : i < s.size) (hc : bt s i ≠ 34 ∧ bt s i ≠ 91 ∧ bt s i ≠ 123 ∧ bt s i ≠ 93 ∧ bt s i ≠ 125) (h : At s c8 er q st n ps (i + 1) r) : At s c8 er q st n ps i r := by
  have hl : ((bytesOf s).length : Int) = s.size := by rw [bytesOf_length]
  have hr := rd_bytesOf s i
  obtain ⟨e1, e2, e3, e4, e5⟩ := hc
  refine Ev.step (fun k => by rw [sCL_.l0]) (Ev.pos (by omega) (Ev.pos h0 (Ev.pos (by omega) (Ev.neg (by omega) (Ev.neg (by omega) (Ev.neg (by omega) (Ev.neg (by omega) ?_)))))))
  rw [show (rd (bytesOf s) i == 125) = false by rw [hr]; simp [e5]]
  refine Ev.step (fun k => by rw [sCL_.j2]) (Ev.neg Bool.false_ne_true ?_)
  rw [w64 (by omega) (by omega)]
  exact h
theorem deep_str {st : List Int} (hst : 1 < st.length) {i j : Int} (h0 : 0 ≤ i) (h1 : i < s.size) (hc : bt s i = 34) (t : StrT s (i + 1) j) (h : At s c8 er q st n ps j r) : At s c8 er q st n ps i r := by
  have hl : ((bytesOf s).length : Int) = s.size := by rw [bytesOf_length]
  have hr := rd_bytesOf s i
  have t1 := t.lt
  have t2 := t.hi
  obtain ⟨b, e⟩ := strEnd_ev s hs i j h0 t
  have w1 : wrap64 (i + 1) = i + 1 := w64 (by omega) (by omega)
  refine Ev.step (fun k => by rw [sCL_.l0]) (Ev.pos (by omega) (Ev.pos h0 (Ev.pos (by omega) (Ev.pos (by omega) ?_))))
  rw [w1]
  refine Ev.pos (by omega) (Ev.pos (by omega) ?_)
  refine Ev.bind e ?_
  refine Ev.neg (by show ¬ (j - (i + 1) = -1); omega) ?_
  show Ev (fun k => sCL_.l0 k (bytesOf s) c8 er q st n ps (wrap64 (wrap64 (i + (j - (i + 1))) + 1))) r
  rw [show i + (j - (i + 1)) = j - 1 by omega, w64 (x := j - 1) (by omega) (by omega), w64 (by omega) (by omega), show j - 1 + 1 = j by omega]
  exact h
theorem deep_arr {st : List Int} (hst : 1 < st.length) {i : Int} (hi : (st.length : Int) ≤ i + 1) (h0 : 0 ≤ i) (h1 : i < s.size) (hc : bt s i = 91) (h : At s c8 er q (st ++ [93]) n ps (i + 1) r) : At s c8 er q st n ps i r := by
  have hl : ((bytesOf s).length : Int) = s.size := by rw [bytesOf_length]
  have hr := rd_bytesOf s i
  refine Ev.step (fun k => by rw [sCL_.l0]) (Ev.pos (by omega) (Ev.pos h0 (Ev.pos (by omega) (Ev.neg (by omega) (Ev.pos (by omega) (Ev.pos (by omega) ?_))))))
  rw [w64 (by omega) (by omega)]
  exact h
theorem deep_obj {st : List Int} (hst : 1 < st.length) {i : Int} (hi : (st.length : Int) ≤ i + 1) (h0 : 0 ≤ i) (h1 : i < s.size) (hc : bt s i = 123) (h : At s c8 er q (st ++ [125]) n ps (i + 1) r) : At s c8 er q st n ps i r := by
  have hl : ((bytesOf s).length : Int) = s.size := by rw [bytesOf_length]
  have hr := rd_bytesOf s i
  refine Ev.step (fun k => by rw [sCL_.l0]) (Ev.pos (by omega) (Ev.pos h0 (Ev.pos (by omega) (Ev.neg (by omega) (Ev.neg (by omega) (Ev.pos (by omega) (Ev.pos (by omega) ?_)))))))
  rw [w64 (by omega) (by omega)]
  exact h
theorem deep_close {st : List Int} {c : Int} (hcc : c = 93 ∨ c = 125) (hst : 0 < st.length) {i : Int} (hi : (st.length : Int) ≤ i + 1) (h0 : 0 ≤ i) (h1 : i < s.size) (hc : bt s i = c) (h : At s c8 er q st n ps (i + 1) r) : At s c8 er q (st ++ [c]) n ps i r := by
  have hl : ((bytesOf s).length : Int) = s.size := by rw [bytesOf_length]
  have hr := rd_bytesOf s i
  have ha : ((st ++ [c]).length : Int) = st.length + 1 := by simp
  have w : wrap64 (((st ++ [c]).length : Int) - 1) = st.length := by rw [w64 (by omega) (by omega)]; omega
  have top : rd (st ++ [c]) (st.length : Int) = c := by
    unfold rd
    simp
  have cut : (st ++ [c]).take ((st.length : Int)).toNat = st := by simp
  have pop : Ev (fun k => sCL_.j2 k (bytesOf s) c8 er q (st ++ [c]) n ps i (rd (bytesOf s) i) true) r := by
    refine Ev.step (fun k => by rw [sCL_.j2]) (Ev.pos rfl ?_)
    rw [w, top, cut]
    refine Ev.pos (by omega) (Ev.pos (by omega) (Ev.pos (by omega) (Ev.pos (by omega) ?_)))
    rw [w64 (by omega) (by omega)]
    exact h
  by_cases e : c = 93
  · refine Ev.step (fun k => by rw [sCL_.l0]) (Ev.pos (by omega) (Ev.pos h0 (Ev.pos (by omega) (Ev.neg (by omega) (Ev.neg (by omega) (Ev.neg (by omega) (Ev.pos (by omega) ?_)))))))
    rw [show (rd (bytesOf s) i == 93) = true from beq_iff_eq.2 (by omega)]
    exact pop
  · refine Ev.step (fun k => by rw [sCL_.l0]) (Ev.pos (by omega) (Ev.pos h0 (Ev.pos (by omega) (Ev.neg (by omega) (Ev.neg (by omega) (Ev.neg (by omega) (Ev.neg (by omega) ?_)))))))
    rw [show (rd (bytesOf s) i == 125) = true from beq_iff_eq.2 (by omega)]
    exact pop
theorem deep_blk {st : List Int} (hst : 1 < st.length) {a b : Int} (h0 : 0 ≤ a) (hb : Blk s a b) (h : At s c8 er q st n ps b r) : At s c8 er q st n ps a r := by
  have := hb.hi
  refine slide (P := fun p => At s c8 er q st n ps p r) hb.le (fun p h1 h2 h3 => deep_other hs hst (by omega) (by omega) ?_ h3) h
  have := hb.all p h1 h2
  unfold IsBl at this
  omega
end
/-- A value that lies deeper is gone over; so is a container's inside, whose closing byte is on the stack. -/
theorem deep {c8 : Int} {er : Option Int} {q n ps : Int} {r : Int × Option Int} {kd i j : Int} {ns : List Sp} {ks : List Pl} (h : JV s kd i j ns ks) : 0 ≤ i → i < j → j ≤ s.size →
    (∀ st : List Int, 1 < st.length → (st.length : Int) ≤ i + 1 → At s c8 er q st n ps j r → At s c8 er q st n ps i r) ∧
    (kd = 5 → ∀ st : List Int, 0 < st.length → (st.length : Int) ≤ i + 1 → At s c8 er q st n ps j r → At s c8 er q (st ++ [93]) n ps (i + 1) r) ∧
    (kd = 6 → ∀ st : List Int, 0 < st.length → (st.length : Int) ≤ i + 1 → At s c8 er q st n ps j r → At s c8 er q (st ++ [125]) n ps (i + 1) r) := by
  have app : ∀ (st : List Int) (c : Int), (st ++ [c]).length = st.length + 1 := fun st c => by simp
  refine jv_ind (P := fun kd i j ns ks => 0 ≤ i → i < j → j ≤ s.size →
      (∀ st : List Int, 1 < st.length → (st.length : Int) ≤ i + 1 → At s c8 er q st n ps j r → At s c8 er q st n ps i r) ∧
      (kd = 5 → ∀ st : List Int, 0 < st.length → (st.length : Int) ≤ i + 1 → At s c8 er q st n ps j r → At s c8 er q (st ++ [93]) n ps (i + 1) r) ∧
      (kd = 6 → ∀ st : List Int, 0 < st.length → (st.length : Int) ≤ i + 1 → At s c8 er q st n ps j r → At s c8 er q (st ++ [125]) n ps (i + 1) r))
    (Q := fun i j ks => 0 ≤ i → j ≤ s.size → ∀ st : List Int, 0 < st.length → (st.length : Int) ≤ i → At s c8 er q st n ps j r → At s c8 er q (st ++ [93]) n ps i r)
    (R := fun i j ns ks => 0 ≤ i → j ≤ s.size → ∀ st : List Int, 0 < st.length → (st.length : Int) ≤ i → At s c8 er q st n ps j r → At s c8 er q (st ++ [125]) n ps i r) ?_ ?_ ?_ ?_ ?_ ?_ ?_ h
  · intro kd i j h h0 h1 h2
    by_cases c : kd < 4
    · refine ⟨fun st hst _ ha => slide (P := fun p => At s c8 er q st n ps p r) (Int.le_of_lt h1) (fun p h3 h4 h5 => deep_other hs hst (by omega) (by omega) ?_ h5) ha, fun hk => by omega, fun hk => by omega⟩
      have := prim_last h c h0 p h3 h4
      unfold NumCh at this
      omega
    · cases h with
      | null _ => omega
      | fals _ => omega
      | tru _ => omega
      | num _ _ => omega
      | str hc t => exact ⟨fun st hst _ ha => deep_str hs hst h0 (by omega) hc t ha, fun hk => by omega, fun hk => by omega⟩
      | arr0 hc hb h3 h4 =>
        have := hb.le
        have body : ∀ st : List Int, 0 < st.length → (st.length : Int) ≤ i + 1 → At s c8 er q st n ps _ r → At s c8 er q (st ++ [93]) n ps (i + 1) r := fun st hst hi ha =>
          deep_blk hs (by rw [app]; omega) (by omega) hb (deep_close hs (.inl rfl) hst (by omega) (by omega) h3 h4 ha)
        exact ⟨fun st hst hi ha => deep_arr hs hst hi h0 (by omega) hc (body st (by omega) hi ha), fun _ => body, fun hk => by omega⟩
      | obj0 hc hb h3 h4 =>
        have := hb.le
        have body : ∀ st : List Int, 0 < st.length → (st.length : Int) ≤ i + 1 → At s c8 er q st n ps _ r → At s c8 er q (st ++ [125]) n ps (i + 1) r := fun st hst hi ha =>
          deep_blk hs (by rw [app]; omega) (by omega) hb (deep_close hs (.inr rfl) hst (by omega) (by omega) h3 h4 ha)
        exact ⟨fun st hst hi ha => deep_obj hs hst hi h0 (by omega) hc (body st (by omega) hi ha), fun hk => by omega, fun _ => body⟩
      | arr _ _ h2 => nomatch h2
      | obj _ _ h2 => nomatch h2
  · intro i b j ks h hb _ ih h0 h1 h2
    have := hb.le
    have hc : bt s i = 91 := by cases h <;> assumption
    have body : ∀ st : List Int, 0 < st.length → (st.length : Int) ≤ i + 1 → At s c8 er q st n ps j r → At s c8 er q (st ++ [93]) n ps (i + 1) r := fun st hst hi ha =>
      deep_blk hs (by rw [app]; omega) (by omega) hb (ih (by omega) h2 st hst (by omega) ha)
    exact ⟨fun st hst hi ha => deep_arr hs hst hi h0 (by omega) hc (body st (by omega) hi ha), fun _ => body, fun hk => by omega⟩
  · intro i b j ns ks h hb _ ih h0 h1 h2
    have := hb.le
    have hc : bt s i = 123 := by cases h <;> assumption
    have body : ∀ st : List Int, 0 < st.length → (st.length : Int) ≤ i + 1 → At s c8 er q st n ps j r → At s c8 er q (st ++ [125]) n ps (i + 1) r := fun st hst hi ha =>
      deep_blk hs (by rw [app]; omega) (by omega) hb (ih (by omega) h2 st hst (by omega) ha)
    exact ⟨fun st hst hi ha => deep_obj hs hst hi h0 (by omega) hc (body st (by omega) hi ha), fun hk => by omega, fun _ => body⟩
  · intro i a b kd ns ks hl h ih hb h3 h4 h0 h2 st hst hi ha
    have := hb.le
    have := hb.hi
    exact (ih h0 hl.1 (by omega)).1 _ (by rw [app]; omega) (by rw [app]; omega) (deep_blk hs (by rw [app]; omega) (by omega) hb (deep_close hs (.inl rfl) hst (by omega) (by omega) h3 h4 ha))
  · intro i a b c j kd ns ks rr hl h ih hb h3 h4 hb2 _ ih2 h0 h2 st hst hi ha
    have := hb.le
    have := hb.hi
    have := hb2.le
    exact (ih h0 hl.1 (by omega)).1 _ (by rw [app]; omega) (by rw [app]; omega) (deep_blk hs (by rw [app]; omega) (by omega) hb
      (deep_other hs (by rw [app]; omega) (by omega) h3 (by omega) (deep_blk hs (by rw [app]; omega) (by omega) hb2 (ih2 (by omega) h2 st hst (by omega) ha))))
  · intro i a b c d e kd ns ks g t k1 h3 h4 k2 hl h ih k3 h5 h6 h0 h2 st hst hi ha
    have := t.lt
    have := k1.le
    have := k2.le
    have := k3.le
    have := k3.hi
    exact deep_str hs (by rw [app]; omega) h0 g.1 g.2 t (deep_blk hs (by rw [app]; omega) (by omega) k1 (deep_other hs (by rw [app]; omega) (by omega) h3 (by omega) (deep_blk hs (by rw [app]; omega) (by omega) k2
      ((ih (by omega) hl.1 (by omega)).1 _ (by rw [app]; omega) (by rw [app]; omega) (deep_blk hs (by rw [app]; omega) (by omega) k3 (deep_close hs (.inr rfl) hst (by omega) (by omega) h5 h6 ha))))))
  · intro i a b c d e f j kd ns ns2 ks ks2 g t k1 h3 h4 k2 hl h ih k3 h5 h6 k4 _ ih2 h0 h2 st hst hi ha
    have := t.lt
    have := k1.le
    have := k2.le
    have := k3.le
    have := k3.hi
    have := k4.le
    exact deep_str hs (by rw [app]; omega) h0 g.1 g.2 t (deep_blk hs (by rw [app]; omega) (by omega) k1 (deep_other hs (by rw [app]; omega) (by omega) h3 (by omega) (deep_blk hs (by rw [app]; omega) (by omega) k2
      ((ih (by omega) hl.1 (by omega)).1 _ (by rw [app]; omega) (by rw [app]; omega) (deep_blk hs (by rw [app]; omega) (by omega) k3 (deep_other hs (by rw [app]; omega) (by omega) h5 (by omega)
        (deep_blk hs (by rw [app]; omega) (by omega) k4 (ih2 (by omega) h2 st hst (by omega) ha))))))))
end
end Go.Proofs.YtmneeighbkcadaaDoor.JFnJpLength
