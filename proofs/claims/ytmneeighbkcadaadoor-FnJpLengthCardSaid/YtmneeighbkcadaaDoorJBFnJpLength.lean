/- The reference's reader of JSON texts: what a value, an object's members and an array's elements are, and that the reader finds just these. -/
import Derived.Test.YtmneeighbkcadaaDoorJAFnJpLength
import Derived.Lib.Strings
namespace Go.Proofs.YtmneeighbkcadaaDoor.JFnJpLength
open Go.RowKit Go.Proofs.YtmneeighbkcadaaDoor.PFnJpLength Go.Proofs.YtmneeighbkcadaaDoorW.PrintWords Go.Proofs.YtmneeighbkcadaaDoorW.PrintLast Go.Proofs.YtmneeighbkcadaaDoorW.PrintMore

abbrev Pl := S27
abbrev Sp := S43
/-! ### bytes of a piece -/
theorem bt_getD (s : ByteArray) (i : Int) : bt s i = ((s.data.toList.getD i.toNat 0).toNat : Int) := by
  unfold bt
  by_cases h : i.toNat < s.size
  · rw [dif_pos h, List.getD_eq_getElem?_getD, List.getElem?_eq_getElem (by simpa using h)]
    rfl
  · rw [dif_neg h, List.getD_eq_getElem?_getD, List.getElem?_eq_none (by simpa using h)]
    rfl
theorem tl_get {s : ByteArray} {a b : Nat} {w : ByteArray} (h : (s.extract a b).toList = w.toList) (q : Nat) (hq : q < w.size) : s.data.toList.getD (a + q) 0 = w.data.toList.getD q 0 := by
  rw [Lib.extract_toList, ByteArray.toList_eq] at h
  have h2 : (List.take (b - a) (List.drop a s.data.toList)).getD q 0 = w.data.toList.getD q 0 := congrArg (fun l : List UInt8 => l.getD q 0) h
  rw [← h2]
  have hl := congrArg List.length h
  simp only [List.length_take, List.length_drop, Array.length_toList, ByteArray.size_data] at hl
  simp only [List.getD_eq_getElem?_getD]
  rw [List.getElem?_take_of_lt (by omega), List.getElem?_drop]
structure Word (s : ByteArray) (i : Int) (w : ByteArray) : Prop where
  hi : i + w.size ≤ s.size
  eq : (s.extract i.toNat (i + (w.size : Int)).toNat).toList = w.toList
theorem Word.at_ {s w : ByteArray} {i : Int} (h : Word s i w) (h0 : 0 ≤ i) (q : Nat) (hq : q < w.size) : bt s (i + q) = bt w q := by
  rw [bt_getD, bt_getD, show (i + (q : Int)).toNat = i.toNat + q by omega, tl_get h.eq q hq]
  rfl
theorem word_f (s w : ByteArray) (hs : (s.size : Int) ≤ 140737488351232) (hw : (w.size : Int) ≤ 100) (i : Int) (h0 : 0 ≤ i) (h1 : i ≤ s.size) :
    (Word s i w ∧ w_.f s i w = some (true, s, i + w.size)) ∨ (¬ Word s i w ∧ w_.f s i w = some (false, s, i)) := by
  unfold w_.f
  rw [w64 (x := (s.size : Int) - i) (by omega) (by omega), w64 (x := i + (w.size : Int)) (by omega) (by omega)]
  by_cases c1 : (s.size : Int) - i < w.size
  · right
    rw [if_pos c1]
    exact ⟨fun h => by have := h.hi; omega, rfl⟩
  · rw [if_neg c1, if_pos h0, if_pos (by omega), if_pos (by omega)]
    by_cases c2 : (s.extract i.toNat (i + (w.size : Int)).toNat).toList = w.toList
    · left
      rw [if_pos c2]
      exact ⟨⟨by omega, c2⟩, rfl⟩
    · right
      rw [if_neg c2]
      exact ⟨fun h => c2 h.eq, rfl⟩
abbrev wNull : ByteArray := ⟨#[110, 117, 108, 108]⟩
abbrev wFalse : ByteArray := ⟨#[102, 97, 108, 115, 101]⟩
abbrev wTrue : ByteArray := ⟨#[116, 114, 117, 101]⟩

/-! ### values -/
mutual
inductive JV (s : ByteArray) : Int → Int → Int → List Sp → List Pl → Prop
  | null {i : Int} (h : Word s i wNull) : JV s 0 i (i + 4) [] []
  | fals {i : Int} (h : Word s i wFalse) : JV s 1 i (i + 5) [] []
  | tru {i : Int} (h : Word s i wTrue) : JV s 2 i (i + 4) [] []
  | num {i j : Int} (h : Num s i j) (hd : bt s i = 45 ∨ (48 ≤ bt s i ∧ bt s i ≤ 57)) : JV s 3 i j [] []
  | str {i j : Int} (h : bt s i = 34) (t : StrT s (i + 1) j) : JV s 4 i j [] []
  | arr0 {i b : Int} (h : bt s i = 91) (h1 : Blk s (i + 1) b) (h2 : b < s.size) (h3 : bt s b = 93) : JV s 5 i (b + 1) [] []
  | arr {i b j : Int} {ks : List Pl} (h : bt s i = 91) (h1 : Blk s (i + 1) b) (h2 : JE s b j ks) : JV s 5 i j [] ks
  | obj0 {i b : Int} (h : bt s i = 123) (h1 : Blk s (i + 1) b) (h2 : b < s.size) (h3 : bt s b = 125) : JV s 6 i (b + 1) [] []
  | obj {i b j : Int} {ns : List Sp} {ks : List Pl} (h : bt s i = 123) (h1 : Blk s (i + 1) b) (h2 : JM s b j ns ks) : JV s 6 i j ns ks
inductive JE (s : ByteArray) : Int → Int → List Pl → Prop
  | one {i a b kd : Int} {ns : List Sp} {ks : List Pl} (hl : i < a ∧ i < s.size) (h : JV s kd i a ns ks) (h1 : Blk s a b) (h2 : b < s.size) (h3 : bt s b = 93) : JE s i (b + 1) [⟨kd, i, a, ns, ks⟩]
  | cons {i a b c j kd : Int} {ns : List Sp} {ks r : List Pl} (hl : i < a ∧ i < s.size) (h : JV s kd i a ns ks) (h1 : Blk s a b) (h2 : b < s.size) (h3 : bt s b = 44) (h4 : Blk s (b + 1) c) (h5 : JE s c j r) : JE s i j (⟨kd, i, a, ns, ks⟩ :: r)
inductive JM (s : ByteArray) : Int → Int → List Sp → List Pl → Prop
  | one {i a b c d e kd : Int} {ns : List Sp} {ks : List Pl} (h : i < s.size ∧ bt s i = 34) (t : StrT s (i + 1) a) (h1 : Blk s a b) (h2 : b < s.size) (h3 : bt s b = 58) (h4 : Blk s (b + 1) c) (hl : c < d ∧ c < s.size) (v : JV s kd c d ns ks) (h5 : Blk s d e) (h6 : e < s.size) (h7 : bt s e = 125) : JM s i (e + 1) [⟨i, a⟩] [⟨kd, c, d, ns, ks⟩]
  | cons {i a b c d e f j kd : Int} {ns ns2 : List Sp} {ks ks2 : List Pl} (h : i < s.size ∧ bt s i = 34) (t : StrT s (i + 1) a) (h1 : Blk s a b) (h2 : b < s.size) (h3 : bt s b = 58) (h4 : Blk s (b + 1) c) (hl : c < d ∧ c < s.size) (v : JV s kd c d ns ks) (h5 : Blk s d e) (h6 : e < s.size) (h7 : bt s e = 44) (h8 : Blk s (e + 1) f) (h9 : JM s f j ns2 ks2) : JM s i j (⟨i, a⟩ :: ns2) (⟨kd, c, d, ns, ks⟩ :: ks2)
end

def PV (s : ByteArray) (d : Nat) : Prop := ∀ i : Int, 0 ≤ i → i ≤ s.size → (s.size : Int) - i < d →
  ∃ kd b e ns ks ok j, Ev (fun k => v_.f k s i) (kd, b, e, ns, ks, ok, s, j) ∧ i ≤ j ∧ j ≤ s.size ∧ (ok = true → b = i ∧ e = j ∧ i < j ∧ i < s.size ∧ JV s kd i j ns ks)
def PE (s : ByteArray) (d : Nat) : Prop := ∀ (i : Int) (acc : List Pl), 0 ≤ i → i ≤ s.size → (s.size : Int) - i < d → (acc.length : Int) ≤ i →
  ∃ ks ok j, Ev (fun k => ele_.l0 k acc s i) (ks, ok, s, j) ∧ i ≤ j ∧ j ≤ s.size ∧ (ok = true → i < j ∧ ∃ r, ks = acc ++ r ∧ JE s i j r)
def PM (s : ByteArray) (d : Nat) : Prop := ∀ (i : Int) (an : List Sp) (acc : List Pl), 0 ≤ i → i ≤ s.size → (s.size : Int) - i < d → (acc.length : Int) ≤ i → (an.length : Int) ≤ i →
  ∃ ns ks ok j, Ev (fun k => mem_.l0 k an acc s i) (ns, ks, ok, s, j) ∧ i ≤ j ∧ j ≤ s.size ∧ (ok = true → i < j ∧ ∃ rn r, ns = an ++ rn ∧ ks = acc ++ r ∧ JM s i j rn r)

theorem hr_bl {s : ByteArray} {i c : Int} (h : hr s i = c) (hc : c ≠ 0) : i < s.size ∧ bt s i = c := by
  obtain ⟨h1, h2⟩ := hr_ne (s := s) (i := i) (by omega)
  exact ⟨h1, by omega⟩

theorem elems_f (s : ByteArray) (hs : (s.size : Int) ≤ 2147483647) (d : Nat) (he : PE s d) (i : Int) (h0 : 0 ≤ i) (h1 : i < s.size) (hd : (s.size : Int) - i ≤ d) :
    ∃ ks ok j, Ev (fun k => ele_.f k s i) (ks, ok, s, j) ∧ i < j ∧ j ≤ s.size ∧ (ok = true → (∃ b, Blk s (i + 1) b ∧ b < s.size ∧ bt s b = 93 ∧ j = b + 1 ∧ ks = []) ∨ (∃ b, Blk s (i + 1) b ∧ JE s b j ks)) := by
  obtain ⟨b, eb, hb⟩ := blanks_f_ev s (by omega) (i + 1) (by omega) (by omega)
  have hw : wrap64 (i + 1) = i + 1 := w64 (by omega) (by omega)
  have := hb.le; have := hb.hi
  by_cases c : hr s b = 93
  · obtain ⟨hl, hc⟩ := hr_bl c (by omega)
    refine ⟨[], true, b + 1, ?_, by omega, by omega, fun _ => .inl ⟨b, hb, hl, hc, rfl, rfl⟩⟩
    refine Ev.step (fun k => by rw [ele_.f]) ?_
    rw [hw]
    exact Ev.bind eb (Ev.bd (take_yes (s := s) (i := b) (c := 93) (by omega) (by omega) (by omega) c) (Ev.pos rfl (Ev.now _)))
  · obtain ⟨ks, ok, j, e, h2, h3, h4⟩ := he b [] (by omega) (by omega) (by omega) (by simp; omega)
    refine ⟨ks, ok, j, ?_, by omega, h3, fun hk => ?_⟩
    · refine Ev.step (fun k => by rw [ele_.f]) ?_
      rw [hw]
      exact Ev.bind eb (Ev.bd (take_no (s := s) (i := b) (c := 93) (by omega) (by omega) (by omega) c) (Ev.neg Bool.false_ne_true e))
    · obtain ⟨h5, r, rfl, h6⟩ := h4 hk
      exact .inr ⟨b, hb, by simpa using h6⟩
theorem mems_f (s : ByteArray) (hs : (s.size : Int) ≤ 2147483647) (d : Nat) (he : PM s d) (i : Int) (h0 : 0 ≤ i) (h1 : i < s.size) (hd : (s.size : Int) - i ≤ d) :
    ∃ ns ks ok j, Ev (fun k => mem_.f k s i) (ns, ks, ok, s, j) ∧ i < j ∧ j ≤ s.size ∧ (ok = true → (∃ b, Blk s (i + 1) b ∧ b < s.size ∧ bt s b = 125 ∧ j = b + 1 ∧ ns = [] ∧ ks = []) ∨ (∃ b, Blk s (i + 1) b ∧ JM s b j ns ks)) := by
  obtain ⟨b, eb, hb⟩ := blanks_f_ev s (by omega) (i + 1) (by omega) (by omega)
  have hw : wrap64 (i + 1) = i + 1 := w64 (by omega) (by omega)
  have := hb.le; have := hb.hi
  by_cases c : hr s b = 125
  · obtain ⟨hl, hc⟩ := hr_bl c (by omega)
    refine ⟨[], [], true, b + 1, ?_, by omega, by omega, fun _ => .inl ⟨b, hb, hl, hc, rfl, rfl, rfl⟩⟩
    refine Ev.step (fun k => by rw [mem_.f]) ?_
    rw [hw]
    exact Ev.bind eb (Ev.bd (take_yes (s := s) (i := b) (c := 125) (by omega) (by omega) (by omega) c) (Ev.pos rfl (Ev.now _)))
  · obtain ⟨ns, ks, ok, j, e, h2, h3, h4⟩ := he b [] [] (by omega) (by omega) (by omega) (by simp; omega) (by simp; omega)
    refine ⟨ns, ks, ok, j, ?_, by omega, h3, fun hk => ?_⟩
    · refine Ev.step (fun k => by rw [mem_.f]) ?_
      rw [hw]
      exact Ev.bind eb (Ev.bd (take_no (s := s) (i := b) (c := 125) (by omega) (by omega) (by omega) c) (Ev.neg Bool.false_ne_true e))
    · obtain ⟨h5, rn, r, rfl, rfl, h6⟩ := h4 hk
      exact .inr ⟨b, hb, by simpa using h6⟩
theorem val_j0 (s : ByteArray) (hs : (s.size : Int) ≤ 2147483647) (i : Int) (h0 : 0 ≤ i) (h1 : i ≤ s.size) (nb : Bool) (hnb : nb = true ↔ hr s i = 45 ∨ (48 ≤ hr s i ∧ hr s i ≤ 57)) :
    ∃ kd b e ns ks ok j, Ev (fun k => v_.j0 k true nb s i 0 i 0) (kd, b, e, ns, ks, ok, s, j) ∧ i ≤ j ∧ j ≤ s.size ∧ (ok = true → b = i ∧ e = j ∧ i < j ∧ i < s.size ∧ JV s kd i j ns ks) := by
  cases nb with
  | true =>
    have hh := hnb.1 rfl
    obtain ⟨hl, hb⟩ := hr_ne (s := s) (i := i) (by omega)
    obtain ⟨o, j, e, h2, h3, h4⟩ := num_ev s (by omega) i h0 h1
    refine ⟨3, i, j, [], [], o, j, ?_, h2, h3, fun ho => ⟨rfl, rfl, ?_, hl, .num (h4 ho) (by omega)⟩⟩
    · exact Ev.step (fun k => by rw [v_.j0]) (Ev.pos rfl (Ev.bind e (Ev.now _)))
    · obtain ⟨a, b, c, h5, h6, h7, h8⟩ := (h4 ho).out
      have : i ≤ a := by omega
      have : a < b := by rcases h6 with h6 | h6; omega; exact h6.2.lt
      have : b ≤ c := by rcases h7 with h7 | h7; omega; have := h7.2.lt; omega
      rcases h8 with h8 | ⟨_, h8 | h8⟩
      · omega
      · have := h8.2.2.lt; omega
      · have := h8.2.lt; omega
  | false =>
    rcases word_f s wNull (by omega) (by decide) i h0 h1 with ⟨hw, e1⟩ | ⟨hw, e1⟩
    · have := hw.hi
      refine ⟨0, i, i + 4, [], [], true, i + 4, ?_, by omega, this, fun _ => ⟨rfl, rfl, by omega, by have : ((wNull.size : Nat) : Int) = 4 := rfl; omega, .null hw⟩⟩
      exact Ev.step (fun k => by rw [v_.j0]) (Ev.neg Bool.false_ne_true (Ev.bd e1 (Ev.pos rfl (Ev.now _))))
    rcases word_f s wFalse (by omega) (by decide) i h0 h1 with ⟨hw2, e2⟩ | ⟨hw2, e2⟩
    · have := hw2.hi
      refine ⟨1, i, i + 5, [], [], true, i + 5, ?_, by omega, this, fun _ => ⟨rfl, rfl, by omega, by have : ((wFalse.size : Nat) : Int) = 5 := rfl; omega, .fals hw2⟩⟩
      exact Ev.step (fun k => by rw [v_.j0]) (Ev.neg Bool.false_ne_true (Ev.bd e1 (Ev.neg Bool.false_ne_true (Ev.bd e2 (Ev.pos rfl (Ev.now _))))))
    rcases word_f s wTrue (by omega) (by decide) i h0 h1 with ⟨hw3, e3⟩ | ⟨hw3, e3⟩
    · have := hw3.hi
      refine ⟨2, i, i + 4, [], [], true, i + 4, ?_, by omega, this, fun _ => ⟨rfl, rfl, by omega, by have : ((wTrue.size : Nat) : Int) = 4 := rfl; omega, .tru hw3⟩⟩
      exact Ev.step (fun k => by rw [v_.j0]) (Ev.neg Bool.false_ne_true (Ev.bd e1 (Ev.neg Bool.false_ne_true (Ev.bd e2 (Ev.neg Bool.false_ne_true (Ev.bd e3 (Ev.pos rfl (Ev.now _))))))))
    · refine ⟨0, i, i, [], [], false, i, ?_, by omega, h1, fun h => by cases h⟩
      refine Ev.step (fun k => by rw [v_.j0]) (Ev.neg Bool.false_ne_true (Ev.bd e1 (Ev.neg Bool.false_ne_true (Ev.bd e2 (Ev.neg Bool.false_ne_true (Ev.bd e3 ?_))))))
      exact Ev.neg Bool.false_ne_true (Ev.now _)
theorem pv_step (s : ByteArray) (hs : (s.size : Int) ≤ 2147483647) (d : Nat) (he : PE s d) (hm : PM s d) : PV s (d + 1) := by
  intro i h0 h1 hd
  have st := fun k => (show v_.f (k + 1) s i = _ by rw [v_.f])
  by_cases c1 : hr s i = 123
  · obtain ⟨hl, hb⟩ := hr_bl c1 (by omega)
    obtain ⟨ns, ks, ok, j, e, h2, h3, h4⟩ := mems_f s hs d hm i h0 hl (by omega)
    refine ⟨6, i, j, ns, ks, ok, j, Ev.step st (Ev.bd (here_f s i h0) (Ev.pos c1 (Ev.bind e (Ev.now _)))), by omega, h3, fun hk => ⟨rfl, rfl, h2, hl, ?_⟩⟩
    rcases h4 hk with ⟨b, h5, h6, h7, rfl, rfl, rfl⟩ | ⟨b, h5, h6⟩
    · exact .obj0 hb h5 h6 h7
    · exact .obj hb h5 h6
  by_cases c2 : hr s i = 91
  · obtain ⟨hl, hb⟩ := hr_bl c2 (by omega)
    obtain ⟨ks, ok, j, e, h2, h3, h4⟩ := elems_f s hs d he i h0 hl (by omega)
    refine ⟨5, i, j, [], ks, ok, j, Ev.step st (Ev.bd (here_f s i h0) (Ev.neg c1 (Ev.pos c2 (Ev.bind e (Ev.now _))))), by omega, h3, fun hk => ⟨rfl, rfl, h2, hl, ?_⟩⟩
    rcases h4 hk with ⟨b, h5, h6, h7, rfl, rfl⟩ | ⟨b, h5, h6⟩
    · exact .arr0 hb h5 h6 h7
    · exact .arr hb h5 h6
  by_cases c3 : hr s i = 34
  · obtain ⟨hl, hb⟩ := hr_bl c3 (by omega)
    obtain ⟨o, j, e, h2, h3, h4⟩ := quoted_ev s (by omega) i h0 hl
    exact ⟨4, i, j, [], [], o, j, Ev.step st (Ev.bd (here_f s i h0) (Ev.neg c1 (Ev.neg c2 (Ev.pos c3 (Ev.bind e (Ev.now _)))))), by omega, h3, fun hk => ⟨rfl, rfl, h2, hl, .str hb (h4 hk).2⟩⟩
  by_cases c4 : hr s i = 45
  · obtain ⟨kd, b, e, ns, ks, ok, j, ev, h⟩ := val_j0 s hs i h0 h1 true (by simp [c4])
    exact ⟨kd, b, e, ns, ks, ok, j, Ev.step st (Ev.bd (here_f s i h0) (Ev.neg c1 (Ev.neg c2 (Ev.neg c3 (Ev.pos c4 ev))))), h⟩
  by_cases c5 : 48 ≤ hr s i
  · obtain ⟨kd, b, e, ns, ks, ok, j, ev, h⟩ := val_j0 s hs i h0 h1 (decide (hr s i ≤ 57)) (by rw [decide_eq_true_iff]; omega)
    exact ⟨kd, b, e, ns, ks, ok, j, Ev.step st (Ev.bd (here_f s i h0) (Ev.neg c1 (Ev.neg c2 (Ev.neg c3 (Ev.neg c4 (Ev.pos c5 ev)))))), h⟩
  · obtain ⟨kd, b, e, ns, ks, ok, j, ev, h⟩ := val_j0 s hs i h0 h1 false (by simp; omega)
    exact ⟨kd, b, e, ns, ks, ok, j, Ev.step st (Ev.bd (here_f s i h0) (Ev.neg c1 (Ev.neg c2 (Ev.neg c3 (Ev.neg c4 (Ev.neg c5 ev)))))), h⟩
theorem pe_step (s : ByteArray) (hs : (s.size : Int) ≤ 2147483647) (d : Nat) (hv : PV s (d + 1)) (he : PE s d) : PE s (d + 1) := by
  intro i acc h0 h1 hd hacc
  have st := fun k => (show ele_.l0 (k + 1) acc s i = _ by rw [ele_.l0])
  obtain ⟨kd, b, e, ns, ks, ok, j, ev, h2, h3, h4⟩ := hv i h0 h1 (by omega)
  cases ok with
  | false => exact ⟨[], false, j, Ev.step st (Ev.bind ev (Ev.neg Bool.false_ne_true (Ev.now _))), h2, h3, fun h => by cases h⟩
  | true =>
    obtain ⟨rfl, rfl, h5, hl5, h6⟩ := h4 rfl
    obtain ⟨f, ef, hf⟩ := blanks_f_ev s (by omega) e (by omega) (by omega)
    have := hf.le; have := hf.hi
    by_cases c1 : hr s f = 93
    · obtain ⟨hl, hb⟩ := hr_bl c1 (by omega)
      exact ⟨_, true, f + 1, Ev.step st (Ev.bind ev (Ev.pos rfl (Ev.pos (by omega) (Ev.bd rfl (Ev.bind ef (Ev.bd (take_yes (s := s) (i := f) (c := 93) (by omega) (by omega) (by omega) c1) (Ev.pos rfl (Ev.now _)))))))), by omega, by omega, fun _ => ⟨by omega, _, rfl, .one ⟨h5, hl5⟩ h6 hf hl hb⟩⟩
    by_cases c2 : hr s f = 44
    · obtain ⟨hl, hb⟩ := hr_bl c2 (by omega)
      obtain ⟨g, eg, hg⟩ := blanks_f_ev s (by omega) (f + 1) (by omega) (by omega)
      have := hg.le; have := hg.hi
      obtain ⟨ks2, ok2, j2, e2, h7, h8, h9⟩ := he g (acc ++ [(⟨kd, b, e, ns, ks⟩ : Pl)]) (by omega) (by omega) (by omega) (by simp; omega)
      refine ⟨ks2, ok2, j2, Ev.step st (Ev.bind ev (Ev.pos rfl (Ev.pos (by omega) (Ev.bd rfl (Ev.bind ef (Ev.bd (take_no (s := s) (i := f) (c := 93) (by omega) (by omega) (by omega) c1) (Ev.neg Bool.false_ne_true (Ev.bd (take_yes (s := s) (i := f) (c := 44) (by omega) (by omega) (by omega) c2) (Ev.pos rfl (Ev.bind eg e2)))))))))), by omega, h8, fun hk => ?_⟩
      obtain ⟨h10, r, rfl, h11⟩ := h9 hk
      exact ⟨by omega, _, by simp, .cons ⟨h5, hl5⟩ h6 hf hl hb hg h11⟩
    · exact ⟨_, false, f, Ev.step st (Ev.bind ev (Ev.pos rfl (Ev.pos (by omega) (Ev.bd rfl (Ev.bind ef (Ev.bd (take_no (s := s) (i := f) (c := 93) (by omega) (by omega) (by omega) c1) (Ev.neg Bool.false_ne_true (Ev.bd (take_no (s := s) (i := f) (c := 44) (by omega) (by omega) (by omega) c2) (Ev.neg Bool.false_ne_true (Ev.now _)))))))))), by omega, by omega, fun h => by cases h⟩
theorem pm_step (s : ByteArray) (hs : (s.size : Int) ≤ 2147483647) (d : Nat) (hv : PV s d) (hm : PM s d) : PM s (d + 1) := by
  intro i an acc h0 h1 hd hacc han
  have st := fun k => (show mem_.l0 (k + 1) an acc s i = _ by rw [mem_.l0])
  have fall : ∀ j : Int, Ev (fun k => mem_.j1 k an acc i true s j) ([], [], false, s, j) := fun j =>
    Ev.step (fun k => by rw [mem_.j1]) (Ev.pos rfl (Ev.now _))
  by_cases c0 : hr s i = 34
  · obtain ⟨hl, hb⟩ := hr_bl c0 (by omega)
    obtain ⟨o, a, e, h2, h3, h4⟩ := quoted_ev s (by omega) i h0 hl
    cases o with
    | false => exact ⟨[], [], false, a, Ev.step st (Ev.bd (here_f s i h0) (Ev.pos c0 (Ev.bind e (fall a)))), by omega, h3, fun h => by cases h⟩
    | true =>
      obtain ⟨h5, ht⟩ := h4 rfl
      have st2 := fun k => (show mem_.j1 (k + 1) an acc i false s a = _ by rw [mem_.j1])
      suffices hh : ∃ ns ks ok j, Ev (fun k => mem_.j1 k an acc i false s a) (ns, ks, ok, s, j) ∧ i ≤ j ∧ j ≤ s.size ∧ (ok = true → i < j ∧ ∃ rn r, ns = an ++ rn ∧ ks = acc ++ r ∧ JM s i j rn r) by
        obtain ⟨ns, ks, ok, j, e2, hh⟩ := hh
        exact ⟨ns, ks, ok, j, Ev.step st (Ev.bd (here_f s i h0) (Ev.pos c0 (Ev.bind e e2))), hh⟩
      obtain ⟨b, eb, hbb⟩ := blanks_f_ev s (by omega) a (by omega) (by omega)
      have := hbb.le; have := hbb.hi
      by_cases c1 : hr s b = 58
      · obtain ⟨hlb, hb58⟩ := hr_bl c1 (by omega)
        obtain ⟨c, ec, hc⟩ := blanks_f_ev s (by omega) (b + 1) (by omega) (by omega)
        have := hc.le; have := hc.hi
        obtain ⟨kd, b', e', ns, ks, ok, j, ev, h6, h7, h8⟩ := hv c (by omega) (by omega) (by omega)
        cases ok with
        | false =>
          exact ⟨[], [], false, j, Ev.step st2 (Ev.neg Bool.false_ne_true (Ev.pos (by omega) (Ev.bd rfl (Ev.bind eb (Ev.bd (take_yes (s := s) (i := b) (c := 58) (by omega) (by omega) (by omega) c1) (Ev.pos rfl (Ev.bind ec (Ev.bind ev (Ev.neg Bool.false_ne_true (Ev.now _)))))))))), by omega, h7, fun h => by cases h⟩
        | true =>
          obtain ⟨rfl, rfl, h9, hl9, h10⟩ := h8 rfl
          obtain ⟨f, ef, hf⟩ := blanks_f_ev s (by omega) e' (by omega) (by omega)
          have := hf.le; have := hf.hi
          by_cases c2 : hr s f = 125
          · obtain ⟨hlf, hbf⟩ := hr_bl c2 (by omega)
            exact ⟨_, _, true, f + 1, Ev.step st2 (Ev.neg Bool.false_ne_true (Ev.pos (by omega) (Ev.bd rfl (Ev.bind eb (Ev.bd (take_yes (s := s) (i := b) (c := 58) (by omega) (by omega) (by omega) c1) (Ev.pos rfl (Ev.bind ec (Ev.bind ev (Ev.pos rfl (Ev.pos (by omega) (Ev.bd rfl (Ev.bind ef (Ev.bd (take_yes (s := s) (i := f) (c := 125) (by omega) (by omega) (by omega) c2) (Ev.pos rfl (Ev.now _))))))))))))))), by omega, by omega, fun _ => ⟨by omega, _, _, rfl, rfl, .one ⟨hl, hb⟩ ht hbb hlb hb58 hc ⟨h9, hl9⟩ h10 hf hlf hbf⟩⟩
          by_cases c3 : hr s f = 44
          · obtain ⟨hlf, hbf⟩ := hr_bl c3 (by omega)
            obtain ⟨g, eg, hg⟩ := blanks_f_ev s (by omega) (f + 1) (by omega) (by omega)
            have := hg.le; have := hg.hi
            obtain ⟨ns2, ks2, ok2, j2, e2, h11, h12, h13⟩ := hm g (an ++ [(⟨i, a⟩ : Sp)]) (acc ++ [(⟨kd, b', e', ns, ks⟩ : Pl)]) (by omega) (by omega) (by omega) (by simp; omega) (by simp; omega)
            refine ⟨ns2, ks2, ok2, j2, Ev.step st2 (Ev.neg Bool.false_ne_true (Ev.pos (by omega) (Ev.bd rfl (Ev.bind eb (Ev.bd (take_yes (s := s) (i := b) (c := 58) (by omega) (by omega) (by omega) c1) (Ev.pos rfl (Ev.bind ec (Ev.bind ev (Ev.pos rfl (Ev.pos (by omega) (Ev.bd rfl (Ev.bind ef (Ev.bd (take_no (s := s) (i := f) (c := 125) (by omega) (by omega) (by omega) c2) (Ev.neg Bool.false_ne_true (Ev.bd (take_yes (s := s) (i := f) (c := 44) (by omega) (by omega) (by omega) c3) (Ev.pos rfl (Ev.bind eg e2))))))))))))))))), by omega, h12, fun hk => ?_⟩
            obtain ⟨h14, rn, r, rfl, rfl, h15⟩ := h13 hk
            exact ⟨by omega, _, _, by simp, by simp, .cons ⟨hl, hb⟩ ht hbb hlb hb58 hc ⟨h9, hl9⟩ h10 hf hlf hbf hg h15⟩
          · exact ⟨_, _, false, f, Ev.step st2 (Ev.neg Bool.false_ne_true (Ev.pos (by omega) (Ev.bd rfl (Ev.bind eb (Ev.bd (take_yes (s := s) (i := b) (c := 58) (by omega) (by omega) (by omega) c1) (Ev.pos rfl (Ev.bind ec (Ev.bind ev (Ev.pos rfl (Ev.pos (by omega) (Ev.bd rfl (Ev.bind ef (Ev.bd (take_no (s := s) (i := f) (c := 125) (by omega) (by omega) (by omega) c2) (Ev.neg Bool.false_ne_true (Ev.bd (take_no (s := s) (i := f) (c := 44) (by omega) (by omega) (by omega) c3) (Ev.neg Bool.false_ne_true (Ev.now _))))))))))))))))), by omega, by omega, fun h => by cases h⟩
      · exact ⟨_, _, false, b, Ev.step st2 (Ev.neg Bool.false_ne_true (Ev.pos (by omega) (Ev.bd rfl (Ev.bind eb (Ev.bd (take_no (s := s) (i := b) (c := 58) (by omega) (by omega) (by omega) c1) (Ev.neg Bool.false_ne_true (Ev.now _))))))), by omega, by omega, fun h => by cases h⟩
  · exact ⟨[], [], false, i, Ev.step st (Ev.bd (here_f s i h0) (Ev.neg c0 (fall i))), by omega, h1, fun h => by cases h⟩
theorem reads (s : ByteArray) (hs : (s.size : Int) ≤ 2147483647) (d : Nat) : PV s d ∧ PE s d ∧ PM s d := by
  induction d with
  | zero => exact ⟨fun i h0 h1 hd => by omega, fun i acc h0 h1 hd => by omega, fun i an acc h0 h1 hd => by omega⟩
  | succ d ih =>
    have hv := pv_step s hs d ih.2.1 ih.2.2
    exact ⟨hv, pe_step s hs d hv ih.2.1, pm_step s hs d ih.1 ih.2.2⟩
theorem value_ev (s : ByteArray) (hs : (s.size : Int) ≤ 2147483647) (i : Int) (h0 : 0 ≤ i) (h1 : i ≤ s.size) :
    ∃ kd b e ns ks ok j, Ev (fun k => v_.f k s i) (kd, b, e, ns, ks, ok, s, j) ∧ i ≤ j ∧ j ≤ s.size ∧ (ok = true → b = i ∧ e = j ∧ i < j ∧ i < s.size ∧ JV s kd i j ns ks) :=
  (reads s hs (s.size + 1)).1 i h0 h1 (by omega)
/-- A JSON text: one value with blanks around it. -/
structure JT (s : ByteArray) (kd i j : Int) (ns : List Sp) (ks : List Pl) : Prop where
  front : Blk s 0 i
  lt : i < j
  hi : j ≤ s.size
  val : JV s kd i j ns ks
  back : Blk s j s.size
theorem places_ev (s : ByteArray) (hs : (s.size : Int) ≤ 2147483647) :
    ∃ kd b e ns ks ok, Ev (fun k => PP_.f k s) (kd, b, e, ns, ks, ok) ∧ (ok = true → JT s kd b e ns ks) := by
  obtain ⟨i, ei, hi⟩ := blanks_f_ev s (by omega) 0 (by omega) (by omega)
  have := hi.le; have := hi.hi
  obtain ⟨kd, b, e, ns, ks, ok, j, ev, h2, h3, h4⟩ := value_ev s hs i (by omega) (by omega)
  cases ok with
  | false =>
    refine ⟨_, _, _, _, _, false, Ev.bind ei (Ev.bind ev (Ev.neg Bool.false_ne_true (Ev.now _))), fun h => by cases h⟩
  | true =>
    obtain ⟨rfl, rfl, h5, _, h6⟩ := h4 rfl
    obtain ⟨f, ef, hf⟩ := blanks_f_ev s (by omega) e (by omega) (by omega)
    by_cases c : f = s.size
    · exact ⟨_, _, _, _, _, true, Ev.bind ei (Ev.bind ev (Ev.pos rfl (Ev.bind ef (Ev.pos c (Ev.now _))))), fun _ => ⟨hi, h5, h3, h6, c ▸ hf⟩⟩
    · exact ⟨_, _, _, _, _, false, Ev.bind ei (Ev.bind ev (Ev.pos rfl (Ev.bind ef (Ev.neg c (Ev.now _))))), fun h => by cases h⟩
end Go.Proofs.YtmneeighbkcadaaDoor.JFnJpLength
