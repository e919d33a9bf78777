/- The inner count of a container: each member or element is counted once, from the first to the closing byte; no condition beside those that each theorem states. -/
import Derived.Test.YtmneeighbkcadaaDoorFWFnJpLength
namespace Go.Proofs.YtmneeighbkcadaaDoor.JFnJpLength
open Go.RowKit Go.Proofs.YtmneeighbkcadaaDoor.PFnJpLength Go.Proofs.YtmneeighbkcadaaDoorW.PrintWords Go.Proofs.YtmneeighbkcadaaDoorW.PrintLast Go.Proofs.YtmneeighbkcadaaDoorW.PrintMore
set_option linter.unusedSimpArgs false
set_option linter.unusedVariables false

theorem no_bl {s : ByteArray} {i : Int} (h : ¬ IsBl (bt s i)) : ¬ decide (IsBl (rd (bytesOf s) i)) = true := by
  rw [rd_bytesOf, decide_eq_false h]
  exact Bool.false_ne_true
theorem one_le (c : Int) : ¬ (([c].length : Nat) : Int) > 1 := by simp
section
variable {s : ByteArray} (hs : (s.size : Int) ≤ 2147483647) {er : Option Int} {r : Int × Option Int}
include hs
/-! ### one byte at the top -/
theorem t_blank {c8 q : Int} (hq : q = 0 ∨ q = 2 ∨ q = 3 ∨ q = 4 ∨ q = 5 ∨ q = 7) {n ps i : Int} (h0 : 0 ≤ i) (h1 : i < s.size) (hb : IsBl (bt s i)) (h : At s c8 er q [c8] n ps (i + 1) r) : At s c8 er q [c8] n ps i r := by
  have hl : ((bytesOf s).length : Int) = s.size := by rw [bytesOf_length]
  have hr := rd_bytesOf s i
  have hd : decide (IsBl (rd (bytesOf s) i)) = true := by rw [hr]; exact decide_eq_true hb
  have hw : wrap64 (i + 1) = i + 1 := w64 (by omega) (by omega)
  rcases hq with rfl | rfl | rfl | rfl | rfl | rfl
  · refine Ev.step (fun k => by rw [sCL_.l0]) (Ev.pos (by omega) (Ev.pos h0 (Ev.neg (one_le c8) (Ev.pos rfl (Ev.bd (ws_f _) (Ev.pos hd ?_))))))
    rw [hw]; exact h
  · refine Ev.step (fun k => by rw [sCL_.l0]) (Ev.pos (by omega) (Ev.pos h0 (Ev.neg (one_le c8) (Ev.neg (by decide) (Ev.neg (by decide) (Ev.pos rfl (Ev.bd (ws_f _) (Ev.pos hd ?_))))))))
    rw [hw]; exact h
  · refine Ev.step (fun k => by rw [sCL_.l0]) (Ev.pos (by omega) (Ev.pos h0 (Ev.neg (one_le c8) (Ev.neg (by decide) (Ev.neg (by decide) (Ev.neg (by decide) (Ev.pos rfl (Ev.bd (ws_f _) (Ev.pos hd ?_)))))))))
    rw [hw]; exact h
  · refine Ev.step (fun k => by rw [sCL_.l0]) (Ev.pos (by omega) (Ev.pos h0 (Ev.neg (one_le c8) (Ev.neg (by decide) (Ev.neg (by decide) (Ev.neg (by decide) (Ev.neg (by decide) (Ev.pos rfl (Ev.bd (ws_f _) (Ev.pos hd ?_))))))))))
    rw [hw]; exact h
  · refine Ev.step (fun k => by rw [sCL_.l0]) (Ev.pos (by omega) (Ev.pos h0 (Ev.neg (one_le c8) (Ev.neg (by decide) (Ev.neg (by decide) (Ev.neg (by decide) (Ev.neg (by decide) (Ev.neg (by decide) (Ev.pos rfl (Ev.bd (ws_f _) (Ev.pos hd ?_)))))))))))
    rw [hw]; exact h
  · refine Ev.step (fun k => by rw [sCL_.l0]) (Ev.pos (by omega) (Ev.pos h0 (Ev.neg (one_le c8) (Ev.neg (by decide) (Ev.neg (by decide) (Ev.neg (by decide) (Ev.neg (by decide) (Ev.neg (by decide) (Ev.neg (by decide) (Ev.neg (by decide) (Ev.pos rfl (Ev.bd (ws_f _) (Ev.pos hd ?_)))))))))))))
    rw [hw]; exact h
theorem t_blanks {c8 q : Int} (hq : q = 0 ∨ q = 2 ∨ q = 3 ∨ q = 4 ∨ q = 5 ∨ q = 7) {n ps a b : Int} (h0 : 0 ≤ a) (hb : Blk s a b) (h : At s c8 er q [c8] n ps b r) : At s c8 er q [c8] n ps a r := by
  have := hb.hi
  exact slide (P := fun p => At s c8 er q [c8] n ps p r) hb.le (fun p h1 h2 h3 => t_blank hs hq (by omega) (by omega) (hb.all p h1 h2) h3) h
/-! an array's states -/
theorem a_end0 {ps i : Int} (h0 : 0 ≤ i) (h1 : i < s.size) (hc : bt s i = 93) : At s 93 er 0 [93] 0 ps i (0, none) := by
  have _h := hs
  have hl : ((bytesOf s).length : Int) = s.size := by rw [bytesOf_length]
  have hr := rd_bytesOf s i
  refine Ev.step (fun k => by rw [sCL_.l0]) (Ev.pos (by omega) (Ev.pos h0 (Ev.neg (one_le 93) (Ev.pos rfl (Ev.bd (ws_f _) ?_)))))
  exact Ev.neg (no_bl (by rw [hc]; unfold IsBl; omega)) (Ev.pos (by omega) (Ev.pos rfl (Ev.now _)))
theorem a_enter {n ps i : Int} (h0 : 0 ≤ i) (h1 : i < s.size) (hb : ¬ IsBl (bt s i)) (hc : bt s i ≠ 93 ∧ bt s i ≠ 44 ∧ bt s i ≠ 125 ∧ bt s i ≠ 58) (h : Ev (fun k => sCL_.j3 k (bytesOf s) 93 er [93] n ps i (rd (bytesOf s) i) false) r) : At s 93 er 0 [93] n ps i r := by
  have _h := hs
  have hl : ((bytesOf s).length : Int) = s.size := by rw [bytesOf_length]
  have hr := rd_bytesOf s i
  obtain ⟨e1, e2, e3, e4⟩ := hc
  refine Ev.step (fun k => by rw [sCL_.l0]) (Ev.pos (by omega) (Ev.pos h0 (Ev.neg (one_le 93) (Ev.pos rfl (Ev.bd (ws_f _) ?_)))))
  refine Ev.neg (no_bl hb) (Ev.neg (by omega) (Ev.neg (by omega) (Ev.neg (by omega) ?_)))
  rw [show (rd (bytesOf s) i == 58) = false by rw [hr]; simp [e4]]
  exact h
theorem o_enter {n ps i : Int} (h0 : 0 ≤ i) (h1 : i < s.size) (hb : ¬ IsBl (bt s i)) (hc : bt s i ≠ 93 ∧ bt s i ≠ 44 ∧ bt s i ≠ 125 ∧ bt s i ≠ 58) (h : Ev (fun k => sCL_.j4 k (bytesOf s) 125 er [125] n ps i (rd (bytesOf s) i) false) r) : At s 125 er 5 [125] n ps i r := by
  have _h := hs
  have hl : ((bytesOf s).length : Int) = s.size := by rw [bytesOf_length]
  have hr := rd_bytesOf s i
  obtain ⟨e1, e2, e3, e4⟩ := hc
  refine Ev.step (fun k => by rw [sCL_.l0]) (Ev.pos (by omega) (Ev.pos h0 (Ev.neg (one_le 125) (Ev.neg (by decide) (Ev.neg (by decide) (Ev.neg (by decide) (Ev.neg (by decide) (Ev.neg (by decide) (Ev.pos rfl (Ev.bd (ws_f _) ?_))))))))))
  refine Ev.neg (no_bl hb) (Ev.neg (by omega) (Ev.neg (by omega) (Ev.neg (by omega) ?_)))
  rw [show (rd (bytesOf s) i == 58) = false by rw [hr]; simp [e4]]
  exact h
theorem a_prim {n ps i : Int} (hn : 0 ≤ n ∧ n ≤ i) (h0 : 0 ≤ i) (h1 : i < s.size) (hb : ¬ IsBl (bt s i)) (hc : bt s i ≠ 93 ∧ bt s i ≠ 44 ∧ bt s i ≠ 125 ∧ bt s i ≠ 58) (hd : bt s i ≠ 34 ∧ bt s i ≠ 91 ∧ bt s i ≠ 123) (h : At s 93 er 1 [93] (n + 1) i (i + 1) r) : At s 93 er 0 [93] n ps i r := by
  have hr := rd_bytesOf s i
  obtain ⟨e1, e2, e3⟩ := hd
  refine a_enter hs h0 h1 hb hc (Ev.step (fun k => by rw [sCL_.j3]) (Ev.neg Bool.false_ne_true (Ev.neg (by omega) (Ev.neg (by omega) (Ev.neg (by omega) ?_)))))
  rw [w64 (x := n + 1) (by omega) (by omega), w64 (x := i + 1) (by omega) (by omega)]
  exact h
theorem o_prim {n ps i : Int} (hn : 0 ≤ n ∧ n ≤ i) (h0 : 0 ≤ i) (h1 : i < s.size) (hb : ¬ IsBl (bt s i)) (hc : bt s i ≠ 93 ∧ bt s i ≠ 44 ∧ bt s i ≠ 125 ∧ bt s i ≠ 58) (hd : bt s i ≠ 34 ∧ bt s i ≠ 91 ∧ bt s i ≠ 123) (h : At s 125 er 6 [125] (n + 1) i (i + 1) r) : At s 125 er 5 [125] n ps i r := by
  have hr := rd_bytesOf s i
  obtain ⟨e1, e2, e3⟩ := hd
  refine o_enter hs h0 h1 hb hc (Ev.step (fun k => by rw [sCL_.j4]) (Ev.neg Bool.false_ne_true (Ev.neg (by omega) (Ev.neg (by omega) (Ev.neg (by omega) ?_)))))
  rw [w64 (x := n + 1) (by omega) (by omega), w64 (x := i + 1) (by omega) (by omega)]
  exact h
theorem a_str {n ps i j : Int} (hn : 0 ≤ n ∧ n ≤ i) (h0 : 0 ≤ i) (h1 : i < s.size) (hc : bt s i = 34) (t : StrT s (i + 1) j) (h : At s 93 er 2 [93] (n + 1) ps j r) : At s 93 er 0 [93] n ps i r := by
  have hl : ((bytesOf s).length : Int) = s.size := by rw [bytesOf_length]
  have hr := rd_bytesOf s i
  have t1 := t.lt
  have t2 := t.hi
  obtain ⟨b, e⟩ := strEnd_ev s hs i j h0 t
  refine a_enter hs h0 h1 (by rw [hc]; unfold IsBl; omega) (by omega) (Ev.step (fun k => by rw [sCL_.j3]) (Ev.neg Bool.false_ne_true (Ev.pos (by omega) ?_)))
  rw [w64 (x := i + 1) (by omega) (by omega), w64 (x := n + 1) (by omega) (by omega)]
  refine Ev.pos (by omega) (Ev.pos (by omega) ?_)
  refine Ev.bind e ?_
  refine Ev.neg (by show ¬ (j - (i + 1) = -1); omega) ?_
  show Ev (fun k => sCL_.l0 k (bytesOf s) 93 er 2 [93] (n + 1) ps (wrap64 (wrap64 (i + (j - (i + 1))) + 1))) r
  rw [show i + (j - (i + 1)) = j - 1 by omega, w64 (x := j - 1) (by omega) (by omega), w64 (by omega) (by omega), show j - 1 + 1 = j by omega]
  exact h
theorem o_str {n ps i j : Int} (hn : 0 ≤ n ∧ n ≤ i) (h0 : 0 ≤ i) (h1 : i < s.size) (hc : bt s i = 34) (t : StrT s (i + 1) j) (h : At s 125 er 7 [125] (n + 1) ps j r) : At s 125 er 5 [125] n ps i r := by
  have hl : ((bytesOf s).length : Int) = s.size := by rw [bytesOf_length]
  have hr := rd_bytesOf s i
  have t1 := t.lt
  have t2 := t.hi
  obtain ⟨b, e⟩ := strEnd_ev s hs i j h0 t
  refine o_enter hs h0 h1 (by rw [hc]; unfold IsBl; omega) (by omega) (Ev.step (fun k => by rw [sCL_.j4]) (Ev.neg Bool.false_ne_true (Ev.pos (by omega) ?_)))
  rw [w64 (x := i + 1) (by omega) (by omega), w64 (x := n + 1) (by omega) (by omega)]
  refine Ev.pos (by omega) (Ev.pos (by omega) ?_)
  refine Ev.bind e ?_
  refine Ev.neg (by show ¬ (j - (i + 1) = -1); omega) ?_
  show Ev (fun k => sCL_.l0 k (bytesOf s) 125 er 7 [125] (n + 1) ps (wrap64 (wrap64 (i + (j - (i + 1))) + 1))) r
  rw [show i + (j - (i + 1)) = j - 1 by omega, w64 (x := j - 1) (by omega) (by omega), w64 (by omega) (by omega), show j - 1 + 1 = j by omega]
  exact h
theorem a_open {n ps i c : Int} (hn : 0 ≤ n ∧ n ≤ i) (h0 : 0 ≤ i) (h1 : i < s.size) (hc : bt s i = 91 ∧ c = 93 ∨ bt s i = 123 ∧ c = 125) (h : At s 93 er 2 ([93] ++ [c]) (n + 1) ps (i + 1) r) : At s 93 er 0 [93] n ps i r := by
  have hr := rd_bytesOf s i
  rcases hc with ⟨hc, rfl⟩ | ⟨hc, rfl⟩
  · refine a_enter hs h0 h1 (by rw [hc]; unfold IsBl; omega) (by omega) (Ev.step (fun k => by rw [sCL_.j3]) (Ev.neg Bool.false_ne_true (Ev.neg (by omega) (Ev.pos (by omega) (Ev.pos (by simp) ?_)))))
    rw [w64 (x := n + 1) (by omega) (by omega), w64 (x := i + 1) (by omega) (by omega)]
    exact h
  · refine a_enter hs h0 h1 (by rw [hc]; unfold IsBl; omega) (by omega) (Ev.step (fun k => by rw [sCL_.j3]) (Ev.neg Bool.false_ne_true (Ev.neg (by omega) (Ev.neg (by omega) (Ev.pos (by omega) (Ev.pos (by simp) ?_))))))
    rw [w64 (x := n + 1) (by omega) (by omega), w64 (x := i + 1) (by omega) (by omega)]
    exact h
theorem o_open {n ps i c : Int} (hn : 0 ≤ n ∧ n ≤ i) (h0 : 0 ≤ i) (h1 : i < s.size) (hc : bt s i = 91 ∧ c = 93 ∨ bt s i = 123 ∧ c = 125) (h : At s 125 er 7 ([125] ++ [c]) (n + 1) ps (i + 1) r) : At s 125 er 5 [125] n ps i r := by
  have hr := rd_bytesOf s i
  rcases hc with ⟨hc, rfl⟩ | ⟨hc, rfl⟩
  · refine o_enter hs h0 h1 (by rw [hc]; unfold IsBl; omega) (by omega) (Ev.step (fun k => by rw [sCL_.j4]) (Ev.neg Bool.false_ne_true (Ev.neg (by omega) (Ev.pos (by omega) (Ev.pos (by simp) ?_)))))
    rw [w64 (x := n + 1) (by omega) (by omega), w64 (x := i + 1) (by omega) (by omega)]
    exact h
  · refine o_enter hs h0 h1 (by rw [hc]; unfold IsBl; omega) (by omega) (Ev.step (fun k => by rw [sCL_.j4]) (Ev.neg Bool.false_ne_true (Ev.neg (by omega) (Ev.neg (by omega) (Ev.pos (by omega) (Ev.pos (by simp) ?_))))))
    rw [w64 (x := n + 1) (by omega) (by omega), w64 (x := i + 1) (by omega) (by omega)]
    exact h
theorem p_other {c8 q : Int} (hq : q = 1 ∨ q = 6) {n ps i : Int} (h0 : 0 ≤ i) (h1 : i < s.size) (hc : bt s i ≠ 44 ∧ bt s i ≠ 93 ∧ bt s i ≠ 125) (h : At s c8 er q [c8] n ps (i + 1) r) : At s c8 er q [c8] n ps i r := by
  have hl : ((bytesOf s).length : Int) = s.size := by rw [bytesOf_length]
  have hr := rd_bytesOf s i
  obtain ⟨e1, e2, e3⟩ := hc
  have hw : wrap64 (i + 1) = i + 1 := w64 (by omega) (by omega)
  rcases hq with rfl | rfl
  · refine Ev.step (fun k => by rw [sCL_.l0]) (Ev.pos (by omega) (Ev.pos h0 (Ev.neg (one_le c8) (Ev.neg (by decide) (Ev.pos rfl (Ev.neg (by omega) (Ev.neg (by omega) (Ev.neg (by omega) ?_))))))))
    rw [hw]; exact h
  · refine Ev.step (fun k => by rw [sCL_.l0]) (Ev.pos (by omega) (Ev.pos h0 (Ev.neg (one_le c8) (Ev.neg (by decide) (Ev.neg (by decide) (Ev.neg (by decide) (Ev.neg (by decide) (Ev.neg (by decide) (Ev.neg (by decide) (Ev.pos rfl (Ev.neg (by omega) (Ev.neg (by omega) (Ev.neg (by omega) ?_)))))))))))))
    rw [hw]; exact h
theorem pa_comma {n ps i : Int} (hp : 0 ≤ ps ∧ ps ≤ i) (h1 : i < s.size) (hc : bt s i = 44) (hv : Ev (fun k => vCP_.f k (pc s ps i)) true) (h : At s 93 er 0 [93] n ps (i + 1) r) : At s 93 er 1 [93] n ps i r := by
  have hl : ((bytesOf s).length : Int) = s.size := by rw [bytesOf_length]
  have hr := rd_bytesOf s i
  refine Ev.step (fun k => by rw [sCL_.l0]) (Ev.pos (by omega) (Ev.pos (by omega) (Ev.neg (one_le 93) (Ev.neg (by decide) (Ev.pos rfl (Ev.pos (by omega) (Ev.pos hp.1 (Ev.pos hp.2 (Ev.pos (by omega) ?_)))))))))
  refine Ev.bind hv ?_
  refine Ev.pos rfl ?_
  rw [w64 (by omega) (by omega)]
  exact h
theorem pa_end {n ps i : Int} (hp : 0 ≤ ps ∧ ps ≤ i) (h1 : i < s.size) (hc : bt s i = 93) (hv : Ev (fun k => vCP_.f k (pc s ps i)) true) : At s 93 er 1 [93] n ps i (n, none) := by
  have _h := hs
  have hl : ((bytesOf s).length : Int) = s.size := by rw [bytesOf_length]
  have hr := rd_bytesOf s i
  refine Ev.step (fun k => by rw [sCL_.l0]) (Ev.pos (by omega) (Ev.pos (by omega) (Ev.neg (one_le 93) (Ev.neg (by decide) (Ev.pos rfl (Ev.neg (by omega) (Ev.pos (by omega) (Ev.pos hp.1 (Ev.pos hp.2 (Ev.pos (by omega) ?_))))))))))
  refine Ev.bind hv ?_
  exact Ev.pos rfl (Ev.now _)
theorem po_comma {n ps i : Int} (hp : 0 ≤ ps ∧ ps ≤ i) (h1 : i < s.size) (hc : bt s i = 44) (hv : Ev (fun k => vCP_.f k (pc s ps i)) true) (h : At s 125 er 3 [125] n ps (i + 1) r) : At s 125 er 6 [125] n ps i r := by
  have hl : ((bytesOf s).length : Int) = s.size := by rw [bytesOf_length]
  have hr := rd_bytesOf s i
  refine Ev.step (fun k => by rw [sCL_.l0]) (Ev.pos (by omega) (Ev.pos (by omega) (Ev.neg (one_le 125) (Ev.neg (by decide) (Ev.neg (by decide) (Ev.neg (by decide) (Ev.neg (by decide) (Ev.neg (by decide) (Ev.neg (by decide) (Ev.pos rfl (Ev.pos (by omega) (Ev.pos hp.1 (Ev.pos hp.2 (Ev.pos (by omega) ?_))))))))))))))
  refine Ev.bind hv ?_
  refine Ev.pos rfl ?_
  rw [w64 (by omega) (by omega)]
  exact h
theorem po_end {n ps i : Int} (hp : 0 ≤ ps ∧ ps ≤ i) (h1 : i < s.size) (hc : bt s i = 125) (hv : Ev (fun k => vCP_.f k (pc s ps i)) true) : At s 125 er 6 [125] n ps i (n, none) := by
  have _h := hs
  have hl : ((bytesOf s).length : Int) = s.size := by rw [bytesOf_length]
  have hr := rd_bytesOf s i
  refine Ev.step (fun k => by rw [sCL_.l0]) (Ev.pos (by omega) (Ev.pos (by omega) (Ev.neg (one_le 125) (Ev.neg (by decide) (Ev.neg (by decide) (Ev.neg (by decide) (Ev.neg (by decide) (Ev.neg (by decide) (Ev.neg (by decide) (Ev.pos rfl (Ev.neg (by omega) (Ev.pos (by omega) (Ev.pos hp.1 (Ev.pos hp.2 (Ev.pos (by omega) ?_)))))))))))))))
  refine Ev.bind hv ?_
  exact Ev.pos rfl (Ev.now _)
theorem da_comma {n ps i : Int} (h0 : 0 ≤ i) (h1 : i < s.size) (hc : bt s i = 44) (h : At s 93 er 0 [93] n ps (i + 1) r) : At s 93 er 2 [93] n ps i r := by
  have hl : ((bytesOf s).length : Int) = s.size := by rw [bytesOf_length]
  have hr := rd_bytesOf s i
  refine Ev.step (fun k => by rw [sCL_.l0]) (Ev.pos (by omega) (Ev.pos h0 (Ev.neg (one_le 93) (Ev.neg (by decide) (Ev.neg (by decide) (Ev.pos rfl (Ev.bd (ws_f _) ?_)))))))
  refine Ev.neg (no_bl (by rw [hc]; unfold IsBl; omega)) (Ev.pos (by omega) ?_)
  rw [w64 (by omega) (by omega)]
  exact h
theorem da_end {n ps i : Int} (h0 : 0 ≤ i) (h1 : i < s.size) (hc : bt s i = 93) : At s 93 er 2 [93] n ps i (n, none) := by
  have _h := hs
  have hl : ((bytesOf s).length : Int) = s.size := by rw [bytesOf_length]
  have hr := rd_bytesOf s i
  refine Ev.step (fun k => by rw [sCL_.l0]) (Ev.pos (by omega) (Ev.pos h0 (Ev.neg (one_le 93) (Ev.neg (by decide) (Ev.neg (by decide) (Ev.pos rfl (Ev.bd (ws_f _) ?_)))))))
  exact Ev.neg (no_bl (by rw [hc]; unfold IsBl; omega)) (Ev.neg (by omega) (Ev.pos (by omega) (Ev.now _)))
theorem do_comma {n ps i : Int} (h0 : 0 ≤ i) (h1 : i < s.size) (hc : bt s i = 44) (h : At s 125 er 3 [125] n ps (i + 1) r) : At s 125 er 7 [125] n ps i r := by
  have hl : ((bytesOf s).length : Int) = s.size := by rw [bytesOf_length]
  have hr := rd_bytesOf s i
  refine Ev.step (fun k => by rw [sCL_.l0]) (Ev.pos (by omega) (Ev.pos h0 (Ev.neg (one_le 125) (Ev.neg (by decide) (Ev.neg (by decide) (Ev.neg (by decide) (Ev.neg (by decide) (Ev.neg (by decide) (Ev.neg (by decide) (Ev.neg (by decide) (Ev.pos rfl (Ev.bd (ws_f _) ?_))))))))))))
  refine Ev.neg (no_bl (by rw [hc]; unfold IsBl; omega)) (Ev.pos (by omega) ?_)
  rw [w64 (by omega) (by omega)]
  exact h
theorem do_end {n ps i : Int} (h0 : 0 ≤ i) (h1 : i < s.size) (hc : bt s i = 125) : At s 125 er 7 [125] n ps i (n, none) := by
  have _h := hs
  have hl : ((bytesOf s).length : Int) = s.size := by rw [bytesOf_length]
  have hr := rd_bytesOf s i
  refine Ev.step (fun k => by rw [sCL_.l0]) (Ev.pos (by omega) (Ev.pos h0 (Ev.neg (one_le 125) (Ev.neg (by decide) (Ev.neg (by decide) (Ev.neg (by decide) (Ev.neg (by decide) (Ev.neg (by decide) (Ev.neg (by decide) (Ev.neg (by decide) (Ev.pos rfl (Ev.bd (ws_f _) ?_))))))))))))
  exact Ev.neg (no_bl (by rw [hc]; unfold IsBl; omega)) (Ev.neg (by omega) (Ev.pos (by omega) (Ev.now _)))
theorem o_end0 {ps i : Int} (h0 : 0 ≤ i) (h1 : i < s.size) (hc : bt s i = 125) : At s 125 er 3 [125] 0 ps i (0, none) := by
  have _h := hs
  have hl : ((bytesOf s).length : Int) = s.size := by rw [bytesOf_length]
  have hr := rd_bytesOf s i
  refine Ev.step (fun k => by rw [sCL_.l0]) (Ev.pos (by omega) (Ev.pos h0 (Ev.neg (one_le 125) (Ev.neg (by decide) (Ev.neg (by decide) (Ev.neg (by decide) (Ev.pos rfl (Ev.bd (ws_f _) ?_))))))))
  exact Ev.neg (no_bl (by rw [hc]; unfold IsBl; omega)) (Ev.pos (by omega) (Ev.pos rfl (Ev.now _)))
theorem o_key {n ps i j : Int} (h0 : 0 ≤ i) (h1 : i < s.size) (hc : bt s i = 34) (t : StrT s (i + 1) j) (h : At s 125 er 4 [125] n ps j r) : At s 125 er 3 [125] n ps i r := by
  have hl : ((bytesOf s).length : Int) = s.size := by rw [bytesOf_length]
  have hr := rd_bytesOf s i
  have t1 := t.lt
  have t2 := t.hi
  obtain ⟨b, e⟩ := strEnd_ev s hs i j h0 t
  refine Ev.step (fun k => by rw [sCL_.l0]) (Ev.pos (by omega) (Ev.pos h0 (Ev.neg (one_le 125) (Ev.neg (by decide) (Ev.neg (by decide) (Ev.neg (by decide) (Ev.pos rfl (Ev.bd (ws_f _) ?_))))))))
  refine Ev.neg (no_bl (by rw [hc]; unfold IsBl; omega)) (Ev.neg (by omega) (Ev.pos (by omega) ?_))
  rw [w64 (x := i + 1) (by omega) (by omega)]
  refine Ev.pos (by omega) (Ev.pos (by omega) ?_)
  refine Ev.bind e ?_
  refine Ev.neg (by show ¬ (j - (i + 1) = -1); omega) ?_
  show Ev (fun k => sCL_.l0 k (bytesOf s) 125 er 4 [125] n ps (wrap64 (wrap64 (i + (j - (i + 1))) + 1))) r
  rw [show i + (j - (i + 1)) = j - 1 by omega, w64 (x := j - 1) (by omega) (by omega), w64 (by omega) (by omega), show j - 1 + 1 = j by omega]
  exact h
theorem o_colon {n ps i : Int} (h0 : 0 ≤ i) (h1 : i < s.size) (hc : bt s i = 58) (h : At s 125 er 5 [125] n ps (i + 1) r) : At s 125 er 4 [125] n ps i r := by
  have hl : ((bytesOf s).length : Int) = s.size := by rw [bytesOf_length]
  have hr := rd_bytesOf s i
  refine Ev.step (fun k => by rw [sCL_.l0]) (Ev.pos (by omega) (Ev.pos h0 (Ev.neg (one_le 125) (Ev.neg (by decide) (Ev.neg (by decide) (Ev.neg (by decide) (Ev.neg (by decide) (Ev.pos rfl (Ev.bd (ws_f _) ?_)))))))))
  refine Ev.neg (no_bl (by rw [hc]; unfold IsBl; omega)) (Ev.pos (by omega) ?_)
  rw [w64 (by omega) (by omega)]
  exact h
/-! ### one element, one member's value -/
theorem a_val {kd i a b n ps : Int} {ns : List Sp} {ks : List Pl} (h : JV s kd i a ns ks) (hn : 0 ≤ n ∧ n ≤ i) (h1 : i < a) (hb : Blk s a b) (f1 : kd < 4 → At s 93 er 1 [93] (n + 1) i b r) (f2 : At s 93 er 2 [93] (n + 1) ps b r) : At s 93 er 0 [93] n ps i r := by
  have b1 := hb.le
  have b2 := hb.hi
  by_cases c : kd < 4
  · have fst := prim_last h c (by omega) i (Int.le_refl _) h1
    unfold NumCh at fst
    refine a_prim hs hn (by omega) (by omega) (by unfold IsBl; omega) (by omega) (by omega) (slide (P := fun p => At s 93 er 1 [93] (n + 1) i p r) (b := b) (by omega) (fun p h3 h4 h5 => p_other hs (.inl rfl) (by omega) (by omega) ?_ h5) (f1 c))
    by_cases c2 : p < a
    · have := prim_last h c (by omega) p (by omega) c2
      unfold NumCh at this
      omega
    · have := hb.all p (by omega) h4
      unfold IsBl at this
      omega
  · have f3 := t_blanks hs (.inr (.inl rfl)) (by omega) hb f2
    have body := deep (s := s) hs (c8 := 93) (er := er) (q := 2) (n := n + 1) (ps := ps) (r := r) h (by omega) h1 (by omega)
    cases h with
    | null _ => omega
    | fals _ => omega
    | tru _ => omega
    | num _ _ => omega
    | str hc t => exact a_str hs hn (by omega) (by omega) hc t f3
    | arr0 hc _ _ _ => exact a_open hs hn (by omega) (by omega) (.inl ⟨hc, rfl⟩) (body.2.1 rfl [93] (by simp) (by simp; omega) f3)
    | arr hc _ _ => exact a_open hs hn (by omega) (by omega) (.inl ⟨hc, rfl⟩) (body.2.1 rfl [93] (by simp) (by simp; omega) f3)
    | obj0 hc _ _ _ => exact a_open hs hn (by omega) (by omega) (.inr ⟨hc, rfl⟩) (body.2.2 rfl [93] (by simp) (by simp; omega) f3)
    | obj hc _ _ => exact a_open hs hn (by omega) (by omega) (.inr ⟨hc, rfl⟩) (body.2.2 rfl [93] (by simp) (by simp; omega) f3)
theorem o_val {kd i a b n ps : Int} {ns : List Sp} {ks : List Pl} (h : JV s kd i a ns ks) (hn : 0 ≤ n ∧ n ≤ i) (h1 : i < a) (hb : Blk s a b) (f1 : kd < 4 → At s 125 er 6 [125] (n + 1) i b r) (f2 : At s 125 er 7 [125] (n + 1) ps b r) : At s 125 er 5 [125] n ps i r := by
  have b1 := hb.le
  have b2 := hb.hi
  by_cases c : kd < 4
  · have fst := prim_last h c (by omega) i (Int.le_refl _) h1
    unfold NumCh at fst
    refine o_prim hs hn (by omega) (by omega) (by unfold IsBl; omega) (by omega) (by omega) (slide (P := fun p => At s 125 er 6 [125] (n + 1) i p r) (b := b) (by omega) (fun p h3 h4 h5 => p_other hs (.inr rfl) (by omega) (by omega) ?_ h5) (f1 c))
    by_cases c2 : p < a
    · have := prim_last h c (by omega) p (by omega) c2
      unfold NumCh at this
      omega
    · have := hb.all p (by omega) h4
      unfold IsBl at this
      omega
  · have f3 := t_blanks hs (.inr (.inr (.inr (.inr (.inr rfl))))) (by omega) hb f2
    have body := deep (s := s) hs (c8 := 125) (er := er) (q := 7) (n := n + 1) (ps := ps) (r := r) h (by omega) h1 (by omega)
    cases h with
    | null _ => omega
    | fals _ => omega
    | tru _ => omega
    | num _ _ => omega
    | str hc t => exact o_str hs hn (by omega) (by omega) hc t f3
    | arr0 hc _ _ _ => exact o_open hs hn (by omega) (by omega) (.inl ⟨hc, rfl⟩) (body.2.1 rfl [125] (by simp) (by simp; omega) f3)
    | arr hc _ _ => exact o_open hs hn (by omega) (by omega) (.inl ⟨hc, rfl⟩) (body.2.1 rfl [125] (by simp) (by simp; omega) f3)
    | obj0 hc _ _ _ => exact o_open hs hn (by omega) (by omega) (.inr ⟨hc, rfl⟩) (body.2.2 rfl [125] (by simp) (by simp; omega) f3)
    | obj hc _ _ => exact o_open hs hn (by omega) (by omega) (.inr ⟨hc, rfl⟩) (body.2.2 rfl [125] (by simp) (by simp; omega) f3)
/-! ### all of them -/
theorem count {kd i j : Int} {ns : List Sp} {ks : List Pl} (h : JV s kd i j ns ks) : 0 ≤ i → i < j → j ≤ s.size →
    (kd = 5 → ∀ ps, At s 93 er 0 [93] 0 ps (i + 1) ((ks.length : Int), none)) ∧ (kd = 6 → ∀ ps, At s 125 er 3 [125] 0 ps (i + 1) ((ks.length : Int), none)) := by
  have prim : ∀ {kd i a b : Int} {ns : List Sp} {ks : List Pl}, JV s kd i a ns ks → 0 ≤ i → i < a → a ≤ s.size → Blk s a b → kd < 4 → Ev (fun k => vCP_.f k (pc s i b)) true := by
    intro kd i a b ns ks h h0 h1 h2 hb hk
    have := hb.le
    have := hb.hi
    exact prim_ev s hs h hk h0 h1 h2 (b - a).toNat b (by omega) (by omega) (by omega) hb.all
  refine jv_ind (P := fun kd i j ns ks => 0 ≤ i → i < j → j ≤ s.size → (kd = 5 → ∀ ps, At s 93 er 0 [93] 0 ps (i + 1) ((ks.length : Int), none)) ∧ (kd = 6 → ∀ ps, At s 125 er 3 [125] 0 ps (i + 1) ((ks.length : Int), none)))
    (Q := fun i j ks => 0 ≤ i → j ≤ s.size → ∀ n ps : Int, 0 ≤ n → n ≤ i → At s 93 er 0 [93] n ps i (n + ks.length, none))
    (R := fun i j ns ks => 0 ≤ i → j ≤ s.size → ∀ n ps : Int, 0 ≤ n → n ≤ i → At s 125 er 3 [125] n ps i (n + ks.length, none)) ?_ ?_ ?_ ?_ ?_ ?_ ?_ h
  · intro kd i j h h0 h1 h2
    cases h with
    | null _ => exact ⟨fun h => by omega, fun h => by omega⟩
    | fals _ => exact ⟨fun h => by omega, fun h => by omega⟩
    | tru _ => exact ⟨fun h => by omega, fun h => by omega⟩
    | num _ _ => exact ⟨fun h => by omega, fun h => by omega⟩
    | str _ _ => exact ⟨fun h => by omega, fun h => by omega⟩
    | arr0 hc hb h3 h4 =>
      have := hb.le
      exact ⟨fun _ ps => t_blanks hs (.inl rfl) (by omega) hb (a_end0 hs (by omega) h3 h4), fun h => by omega⟩
    | obj0 hc hb h3 h4 =>
      have := hb.le
      exact ⟨fun h => by omega, fun _ ps => t_blanks hs (.inr (.inr (.inl rfl))) (by omega) hb (o_end0 hs (by omega) h3 h4)⟩
    | arr _ _ h2 => nomatch h2
    | obj _ _ h2 => nomatch h2
  · intro i b j ks h hb _ ih h0 h1 h2
    have := hb.le
    refine ⟨fun _ ps => t_blanks hs (.inl rfl) (by omega) hb ?_, fun h => by omega⟩
    have := ih (by omega) h2 0 ps (by omega) (by omega)
    rwa [Int.zero_add] at this
  · intro i b j ns ks h hb _ ih h0 h1 h2
    have := hb.le
    refine ⟨fun h => by omega, fun _ ps => t_blanks hs (.inr (.inr (.inl rfl))) (by omega) hb ?_⟩
    have := ih (by omega) h2 0 ps (by omega) (by omega)
    rwa [Int.zero_add] at this
  · intro i a b kd ns ks hl h _ hb h3 h4 h0 h2 n ps hn1 hn2
    have b1 := hb.le
    have b2 := hb.hi
    exact a_val hs h ⟨hn1, hn2⟩ hl.1 hb (fun hk => pa_end hs (by omega) h3 h4 (prim h h0 hl.1 (by omega) hb hk)) (da_end hs (by omega) h3 h4)
  · intro i a b c j kd ns ks rr hl h _ hb h3 h4 hb2 _ ih2 h0 h2 n ps hn1 hn2
    have b1 := hb.le
    have b2 := hb.hi
    have b3 := hb2.le
    have more : ∀ ps, At s 93 er 0 [93] (n + 1) ps (b + 1) (n + ((⟨kd, i, a, ns, ks⟩ :: rr : List Pl).length : Nat), none) := by
      intro ps
      refine t_blanks hs (.inl rfl) (by omega) hb2 ?_
      have := ih2 (by omega) h2 (n + 1) ps (by omega) (by omega)
      rwa [show n + 1 + (rr.length : Int) = n + ((⟨kd, i, a, ns, ks⟩ :: rr : List Pl).length : Nat) by rw [List.length_cons]; omega] at this
    exact a_val hs h ⟨hn1, hn2⟩ hl.1 hb (fun hk => pa_comma hs (by omega) h3 h4 (prim h h0 hl.1 (by omega) hb hk) (more _)) (da_comma hs (by omega) h3 h4 (more _))
  · intro i a b c d e kd ns ks g t k1 h3 h4 k2 hl h _ k3 h5 h6 h0 h2 n ps hn1 hn2
    have := t.lt
    have := k1.le
    have := k2.le
    have := k3.le
    have := k3.hi
    exact o_key hs h0 g.1 g.2 t (t_blanks hs (.inr (.inr (.inr (.inl rfl)))) (by omega) k1 (o_colon hs (by omega) h3 h4 (t_blanks hs (.inr (.inr (.inr (.inr (.inl rfl))))) (by omega) k2
      (o_val hs h ⟨hn1, by omega⟩ hl.1 k3 (fun hk => po_end hs (by omega) h5 h6 (prim h (by omega) hl.1 (by omega) k3 hk)) (do_end hs (by omega) h5 h6)))))
  · intro i a b c d e f j kd ns ns2 ks ks2 g t k1 h3 h4 k2 hl h _ k3 h5 h6 k4 _ ih2 h0 h2 n ps hn1 hn2
    have := t.lt
    have := k1.le
    have := k2.le
    have := k3.le
    have := k3.hi
    have := k4.le
    have more : ∀ ps, At s 125 er 3 [125] (n + 1) ps (e + 1) (n + ((⟨kd, c, d, ns, ks⟩ :: ks2 : List Pl).length : Nat), none) := by
      intro ps
      refine t_blanks hs (.inr (.inr (.inl rfl))) (by omega) k4 ?_
      have := ih2 (by omega) h2 (n + 1) ps (by omega) (by omega)
      rwa [show n + 1 + (ks2.length : Int) = n + ((⟨kd, c, d, ns, ks⟩ :: ks2 : List Pl).length : Nat) by rw [List.length_cons]; omega] at this
    exact o_key hs h0 g.1 g.2 t (t_blanks hs (.inr (.inr (.inr (.inl rfl)))) (by omega) k1 (o_colon hs (by omega) h3 h4 (t_blanks hs (.inr (.inr (.inr (.inr (.inl rfl))))) (by omega) k2
      (o_val hs h ⟨hn1, by omega⟩ hl.1 k3 (fun hk => po_comma hs (by omega) h5 h6 (prim h (by omega) hl.1 (by omega) k3 hk) (more _)) (do_comma hs (by omega) h5 h6 (more _))))))
end
/-- The inner count of a value of a JSON text that is an array or an object. -/
theorem scan_ev {s : ByteArray} (hs : (s.size : Int) ≤ 2147483647) {kd i j : Int} {ns : List Sp} {ks : List Pl} (h : GoodP s ⟨kd, i, j, ns, ks⟩) (hk : kd = 5 ∨ kd = 6) : Ev (fun k => sCL_.f k (bytesOf s) i (bt s i)) ((ks.length : Int), none) := by
  have h0 : 0 ≤ i := h.lo
  have h1 : i < j := h.lt
  have h2 : j ≤ s.size := h.hi
  have hv : JV s kd i j ns ks := h.val
  have w : wrap64 (i + 1) = i + 1 := w64 (by omega) (by omega)
  have start : ∀ (c8 : Int) (er : Option Int) (q : Int), At s c8 er q [c8] 0 (-1) (i + 1) ((ks.length : Int), none) → Ev (fun k => sCL_.j0 k (bytesOf s) i c8 er q) ((ks.length : Int), none) := by
    intro c8 er q ha
    refine Ev.step (fun k => by rw [sCL_.j0]) ?_
    refine Ev.bd (a := [0]) rfl ?_
    refine Ev.pos (by decide) ?_
    rw [w]
    exact ha
  unfold sCL_.f
  rcases hk with rfl | rfl
  · have hc : bt s i = 91 := by cases hv <;> assumption
    exact Ev.neg (by omega) (start 93 (some 0) 0 ((count hs hv h0 h1 h2).1 rfl _))
  · have hc : bt s i = 123 := by cases hv <;> assumption
    exact Ev.pos hc (start 125 (some 1) 3 ((count hs hv h0 h1 h2).2 rfl _))
theorem length_ev {s : ByteArray} (hs : (s.size : Int) ≤ 2147483647) {kd i j : Int} {ns : List Sp} {ks : List Pl} (h : GoodP s ⟨kd, i, j, ns, ks⟩) (hk : kd = 5 ∨ kd = 6) : Ev (fun k => JJL_.f k s i (bt s i)) ((ks.length : Int), true) := by
  have e : Ev (fun k => DDL_.f k s i (bt s i)) ((ks.length : Int), none) := by
    unfold DDL_.f
    exact Ev.pos (by omega) (Ev.bind (scan_ev hs h hk) (Ev.now _))
  unfold JJL_.f
  exact Ev.bind e (Ev.pos rfl (Ev.now _))
end Go.Proofs.YtmneeighbkcadaaDoor.JFnJpLength
