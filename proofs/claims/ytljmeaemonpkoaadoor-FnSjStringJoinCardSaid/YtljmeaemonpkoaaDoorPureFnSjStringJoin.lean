/- Of two texts, the first with a line feed at its end, the second with a backslash at its begin, sjson writes one behind the other what it writes of each; conditions: none beside the statement's own. -/
import Derived.Test.YtljmeaemonpkoaaDoorUAFnSjStringJoin
namespace Go.Proofs.YtljmeaemonpkoaaDoor.Pure
open Go.RowKit Go.Proofs.YtljmeaemonpkoaaDoor.PFnSjStringJoin Go.Proofs.YtljmeaemonpkoaaDoor.UFnSjStringJoin Go.Proofs.YtljmeaemonpkoaaDoorW.PrintWords Go.Proofs.YtljmeaemonpkoaaDoorW.PrintLast Go.Proofs.YtljmeaemonpkoaaDoorW.PrintMore

set_option linter.unusedSimpArgs false
set_option linter.unusedVariables false
theorem ext_zero (s : ByteArray) : s.extract 0 0 = ByteArray.empty := by
  apply ByteArray.ext
  simp
theorem app_nil (s : ByteArray) : s ++ ByteArray.empty = s := ByteArray.append_empty
theorem ext_tail (s : ByteArray) (i W : Nat) (h : i + W ≤ s.size) : (s.extract i s.size).extract 0 W = s.extract i (i + W) := by
  rw [ByteArray.extract_extract, Nat.add_zero, Nat.min_eq_left h]
theorem ext_next (s : ByteArray) (i W : Nat) (h : i + W ≤ s.size) : (s.extract i s.size).extract W (s.extract i s.size).size = s.extract (i + W) s.size := by
  rw [ByteArray.extract_extract, ByteArray.size_extract]
  congr 1
  omega
theorem ext_to_end (u : ByteArray) (n m : Nat) (h : u.size ≤ m) : u.extract n m = u.extract n u.size := by
  apply ByteArray.ext
  simp only [ByteArray.data_extract]
  apply Array.ext'
  simp only [Array.toList_extract, List.extract_eq_take_drop]
  have hl : (u.data.toList.drop n).length = u.size - n := by rw [List.length_drop, Array.length_toList]; rfl
  rw [List.take_of_length_le (by rw [hl]; omega), List.take_of_length_le (by rw [hl]; exact Nat.le_refl _)]
theorem ext_app (u v : ByteArray) (n : Nat) (h : n ≤ u.size) : (u ++ v).extract n (u ++ v).size = u.extract n u.size ++ v := by
  rw [ByteArray.extract_append, ByteArray.size_append, show n - u.size = 0 by omega, show u.size + v.size - u.size = v.size by omega, ext_to_end u n (u.size + v.size) (by omega)]
  congr 1
  exact ByteArray.extract_zero_size

/-! ### one character -/
abbrev hexs : ByteArray := ⟨#[48, 49, 50, 51, 52, 53, 54, 55, 56, 57, 97, 98, 99, 100, 101, 102]⟩
/-- What is written of an ASCII character. -/
def esc (c : Int) : List Int :=
  if c = 34 ∨ c = 92 then [92, c] else if c = 8 then [92, 98] else if c = 12 then [92, 102] else if c = 10 then [92, 110] else if c = 13 then [92, 114] else if c = 9 then [92, 116]
  else if c < 32 ∨ c = 60 ∨ c = 62 ∨ c = 38 then [92, 117, 48, 48, bt hexs (c / 16), bt hexs (Go.bits .and .u8 c 15)] else [c]
/-- What is written of the character that begins a text, and its width. -/
def chU (u : ByteArray) : List Int × Nat :=
  if bt u 0 < 128 then (esc (bt u 0), 1) else
    ((if ((Lib.decodeGo u).1 : Int) = 65533 ∧ ((Lib.decodeGo u).2 : Int) = 1 then bytesOf (⟨#[92, 117, 102, 102, 102, 100]⟩ : ByteArray) else if ((Lib.decodeGo u).1 : Int) = 8232 ∨ ((Lib.decodeGo u).1 : Int) = 8233 then [92, 117, 50, 48, 50, bt hexs (Go.bits .and .i32 ((Lib.decodeGo u).1 : Int) 15)] else bytesOf (u.extract 0 (Lib.decodeGo u).2)), (Lib.decodeGo u).2)
theorem chU_width (u : ByteArray) (h : 0 < u.size) : 1 ≤ (chU u).2 ∧ (chU u).2 ≤ u.size := by
  unfold chU
  have := dec_width u h
  split
  · exact ⟨Nat.le_refl _, h⟩
  · exact ⟨this.1, this.2.1⟩
theorem chU_len (u : ByteArray) (h : 0 < u.size) : (chU u).1.length ≤ 6 := by
  unfold chU
  have := dec_width u h
  split
  · unfold esc
    repeat' split
    all_goals simp
  · split
    · rw [bytesOf_length]; decide
    · split
      · simp
      · rw [bytesOf_length, ByteArray.size_extract]; omega
theorem chU_app (u v : ByteArray) (h : 0 < u.size) (hl : bt u (u.size - 1) < 128) : chU (u ++ v) = chU u := by
  unfold chU
  have e : (u ++ v).extract 0 (Lib.decodeGo u).2 = u.extract 0 (Lib.decodeGo u).2 := by
    have := (dec_width u h).2.1
    rw [ByteArray.extract_append, show 0 - u.size = 0 by omega, show (Lib.decodeGo u).2 - u.size = 0 by omega, ext_zero, app_nil]
  rw [bt_l u v 0 (by omega) (by omega), dec_app u v h hl, e]
theorem and15 (c : Int) (h0 : 0 ≤ c) (h1 : c < 256) : 0 ≤ Go.bits .and .u8 c 15 ∧ Go.bits .and .u8 c 15 < 16 := by
  have h := u8_and15 c h0 h1
  rw [h]; omega
theorem and15a : 0 ≤ Go.bits .and .i32 8232 15 ∧ Go.bits .and .i32 8232 15 < 16 := by decide
theorem and15b : 0 ≤ Go.bits .and .i32 8233 15 ∧ Go.bits .and .i32 8233 15 < 16 := by decide

/-! ### the rounds -/
theorem j1_ev (x0 : List Int) (s : ByteArray) (i c : Int) (hc : 0 ≤ c ∧ c < 128) (r : List Int) (hx : (x0.length : Int) + 6 < 140737488355328) (e : Ev (fun k => sjson_zzMarshal.l0 k (x0 ++ esc c) s i) r) :
    Ev (fun k => sjson_zzMarshal.j1 k x0 s i c (c == 34 || c == 92)) r := by
  have ha := and15 c hc.1 (by omega)
  refine Ev.step (fun k => by rw [sjson_zzMarshal.j1]) ?_
  simp only [Option.bind_some, List.length_cons, List.length_nil]
  unfold esc at e
  by_cases h1 : c = 34 ∨ c = 92
  · rw [if_pos h1] at e
    refine Ev.pos (by rcases h1 with h | h <;> simp [h]) (Ev.pos (by omega) e)
  rw [if_neg h1] at e
  refine Ev.neg (by simp; omega) ?_
  by_cases h2 : c = 8
  · rw [if_pos h2] at e; exact Ev.pos h2 (Ev.pos (by omega) e)
  rw [if_neg h2] at e; refine Ev.neg h2 ?_
  by_cases h3 : c = 12
  · rw [if_pos h3] at e; exact Ev.pos h3 (Ev.pos (by omega) e)
  rw [if_neg h3] at e; refine Ev.neg h3 ?_
  by_cases h4 : c = 10
  · rw [if_pos h4] at e; exact Ev.pos h4 (Ev.pos (by omega) e)
  rw [if_neg h4] at e; refine Ev.neg h4 ?_
  by_cases h5 : c = 13
  · rw [if_pos h5] at e; exact Ev.pos h5 (Ev.pos (by omega) e)
  rw [if_neg h5] at e; refine Ev.neg h5 ?_
  by_cases h6 : c = 9
  · rw [if_pos h6] at e; exact Ev.pos h6 (Ev.pos (by omega) e)
  rw [if_neg h6] at e; refine Ev.neg h6 ?_
  by_cases h7 : c < 32
  · rw [if_pos (.inl h7)] at e; exact Ev.pos h7 (Ev.pos (by omega) (Ev.pos (by omega) (Ev.pos ha.1 (Ev.pos ha.2 (Ev.pos (by omega) e)))))
  refine Ev.neg h7 ?_
  by_cases h8 : c = 60
  · rw [if_pos (by omega)] at e; exact Ev.pos h8 (Ev.pos (by omega) (Ev.pos (by omega) (Ev.pos ha.1 (Ev.pos ha.2 (Ev.pos (by omega) e)))))
  refine Ev.neg h8 ?_
  by_cases h9 : c = 62
  · rw [if_pos (by omega)] at e; exact Ev.pos h9 (Ev.pos (by omega) (Ev.pos (by omega) (Ev.pos ha.1 (Ev.pos ha.2 (Ev.pos (by omega) e)))))
  refine Ev.neg h9 ?_
  by_cases h10 : c = 38
  · rw [if_pos (by omega)] at e; exact Ev.pos h10 (Ev.pos (by omega) (Ev.pos (by omega) (Ev.pos ha.1 (Ev.pos ha.2 (Ev.pos (by omega) e)))))
  rw [if_neg (by omega)] at e
  exact Ev.neg h10 (Ev.pos (by omega) e)
theorem j2_ev (x0 : List Int) (s : ByteArray) (hs : (s.size : Int) ≤ 100000) (i W : Nat) (R : Int) (hW : i + W ≤ s.size) (h4 : W ≤ 4) (b : Bool) (hb : b = true ↔ (R = 65533 ∧ (W : Int) = 1)) (r : List Int) (hx : (x0.length : Int) + 6 < 140737488355328)
    (e : Ev (fun k => sjson_zzMarshal.l0 k (x0 ++ (if R = 65533 ∧ (W : Int) = 1 then bytesOf (⟨#[92, 117, 102, 102, 102, 100]⟩ : ByteArray) else if R = 8232 ∨ R = 8233 then [92, 117, 50, 48, 50, bt hexs (Go.bits .and .i32 R 15)] else bytesOf (s.extract i (i + W)))) s ((i + W : Nat) : Int)) r) :
    Ev (fun k => sjson_zzMarshal.j2 k x0 s (i : Int) R (W : Int) b) r := by
  have e1 : wrap64 ((i : Int) + (W : Int)) = ((i + W : Nat) : Int) := by rw [w64 (by omega) (by omega)]; omega
  refine Ev.step (fun k => by rw [sjson_zzMarshal.j2]) ?_
  rw [e1]
  by_cases c1 : R = 65533 ∧ (W : Int) = 1
  · rw [if_pos c1] at e
    exact Ev.pos (hb.2 c1) (Ev.pos (by omega) e)
  rw [if_neg c1] at e
  refine Ev.neg (fun h => c1 (hb.1 h)) ?_
  simp only [Option.bind_some, List.length_cons, List.length_nil]
  by_cases c2 : R = 8232
  · rw [if_pos (.inl c2)] at e
    subst c2
    exact Ev.pos rfl (Ev.pos and15a.1 (Ev.pos and15a.2 (Ev.pos (by omega) e)))
  refine Ev.neg c2 ?_
  by_cases c3 : R = 8233
  · rw [if_pos (.inr c3)] at e
    subst c3
    exact Ev.pos rfl (Ev.pos and15b.1 (Ev.pos and15b.2 (Ev.pos (by omega) e)))
  rw [if_neg (by omega)] at e
  refine Ev.neg c3 (Ev.pos (by omega) (Ev.pos (by omega) (Ev.pos (by omega) ?_)))
  rw [Int.toNat_natCast, Int.toNat_natCast]
  have hz : (s.extract i (i + W)).size ≤ 4 := by rw [ByteArray.size_extract]; omega
  exact Ev.pos (by omega) e
/-- One round. -/
theorem l0_round (x0 : List Int) (s : ByteArray) (hs : (s.size : Int) ≤ 100000) (i : Nat) (hi : i < s.size) (r : List Int) (hx : (x0.length : Int) + 6 < 140737488355328)
    (e : Ev (fun k => sjson_zzMarshal.l0 k (x0 ++ (chU (s.extract i s.size)).1) s ((i + (chU (s.extract i s.size)).2 : Nat) : Int)) r) : Ev (fun k => sjson_zzMarshal.l0 k x0 s (i : Int)) r := by
  obtain ⟨u, hu⟩ : ∃ u, s.extract i s.size = u := ⟨_, rfl⟩
  have us : u.size = s.size - i := by rw [← hu, ByteArray.size_extract]; omega
  have b0 : bt u 0 = bt s i := by rw [← hu, bt_x s i s.size 0 (by omega) (by omega) (by omega)]; simp
  rw [hu] at e
  have br := bt_range s i
  refine Ev.step (fun k => by rw [sjson_zzMarshal.l0]) ?_
  refine Ev.pos (by omega) (Ev.pos (by omega) ?_)
  by_cases h1 : bt s i < 128
  · refine Ev.pos h1 ?_
    unfold chU at e
    rw [b0, if_pos h1] at e
    have e1 : wrap64 ((i : Int) + 1) = ((i + 1 : Nat) : Int) := by rw [w64 (by omega) (by omega)]; omega
    have j := j1_ev x0 s ((i + 1 : Nat) : Int) (bt s i) ⟨br.1, h1⟩ r hx e
    rw [e1]
    by_cases h2 : bt s i = 34
    · refine Ev.pos h2 ?_
      rw [show (bt s i == 34 || bt s i == 92) = true by rw [h2]; rfl] at j
      exact j
    · refine Ev.neg h2 ?_
      rw [show (bt s i == 34 || bt s i == 92) = (bt s i == 92) by simp [h2]] at j
      exact j
  refine Ev.neg h1 (Ev.pos (by omega) ?_)
  unfold chU at e
  rw [b0, if_neg h1] at e
  rw [Int.toNat_natCast, hu]
  obtain ⟨R, hR⟩ : ∃ R, ((Lib.decodeGo u).1 : Int) = R := ⟨_, rfl⟩
  obtain ⟨W, hW⟩ : ∃ W, (Lib.decodeGo u).2 = W := ⟨_, rfl⟩
  have wd := dec_width u (by omega)
  rw [hW] at wd
  refine Ev.bd (a := (R, (W : Int))) (by unfold utf8_DecodeRuneInString.f; rw [hR, hW]) ?_
  rw [hR, hW] at e
  rw [← hu, ext_tail s i W (by omega)] at e
  have hj := fun b hb => j2_ev x0 s hs i W R (by omega) wd.2.2 b hb r hx e
  by_cases c : R = 65533
  · exact Ev.pos c (hj _ (by simp [c]))
  · exact Ev.neg c (hj _ (by simp [c]))

/-! ### what is written of a text -/
inductive Em : ByteArray → List Int → Prop
  | nil {u : ByteArray} (h : u.size = 0) : Em u []
  | cons {u : ByteArray} {o : List Int} (h : 0 < u.size) (e : Em (u.extract (chU u).2 u.size) o) : Em u ((chU u).1 ++ o)
theorem em_is (d : Nat) : ∀ u : ByteArray, u.size ≤ d → ∃ o, Em u o ∧ o.length ≤ 6 * u.size := by
  induction d with
  | zero => intro u h; exact ⟨[], .nil (by omega), Nat.zero_le _⟩
  | succ d ih =>
    intro u h
    by_cases h0 : u.size = 0
    · exact ⟨[], .nil h0, Nat.zero_le _⟩
    have hw := chU_width u (by omega)
    have hz : (u.extract (chU u).2 u.size).size = u.size - (chU u).2 := by rw [ByteArray.size_extract]; omega
    obtain ⟨o, e, l⟩ := ih (u.extract (chU u).2 u.size) (by omega)
    refine ⟨_, .cons (by omega) e, ?_⟩
    have := chU_len u (by omega)
    rw [List.length_append]
    omega
theorem em_app {u v : ByteArray} {o p : List Int} (e : Em u o) (f : Em v p) : (u.size = 0 ∨ bt u (u.size - 1) < 128) → Em (u ++ v) (o ++ p) := by
  induction e with
  | @nil u h =>
    intro _
    have : u ++ v = v := by
      have hu : u = ByteArray.empty := ByteArray.size_eq_zero_iff.1 h
      rw [hu]; exact ByteArray.empty_append
    rw [this]; exact f
  | @cons u o h e ih =>
    intro hl
    have hl2 : bt u (u.size - 1) < 128 := by rcases hl with hl | hl; omega; exact hl
    have hw := chU_width u h
    have ha := chU_app u v h hl2
    have hz : (u.extract (chU u).2 u.size).size = u.size - (chU u).2 := by rw [ByteArray.size_extract]; omega
    have hx : (u ++ v).extract (chU (u ++ v)).2 (u ++ v).size = u.extract (chU u).2 u.size ++ v := by
      rw [ha]; exact ext_app u v _ hw.2
    have := ih (by
      by_cases h0 : u.size - (chU u).2 = 0
      · exact .inl (by omega)
      · right
        rw [hz, bt_x u _ _ _ (by omega) (by omega) (by omega)]
        rwa [show (((chU u).2 : Nat) : Int) + (((u.size - (chU u).2 : Nat) : Int) - 1) = u.size - 1 by omega])
    rw [← hx] at this
    have r := Em.cons (by rw [ByteArray.size_append]; omega) this
    rw [ha, ← List.append_assoc] at r
    exact r
theorem run_ev (s : ByteArray) (hs : (s.size : Int) ≤ 100000) {u : ByteArray} {o : List Int} (e : Em u o) : ∀ (i : Nat) (x0 : List Int), i ≤ s.size → s.extract i s.size = u → (x0.length : Int) + 6 * (s.size - i) + 6 < 140737488355328 →
    Ev (fun k => sjson_zzMarshal.l0 k x0 s (i : Int)) (x0 ++ o ++ [34]) := by
  induction e with
  | @nil u h =>
    intro i x0 hi hu hx
    have : s.size - i = 0 := by rw [← hu, ByteArray.size_extract] at h; omega
    refine Ev.step (fun k => by rw [sjson_zzMarshal.l0]) (Ev.neg (by omega) (Ev.pos (by omega) ?_))
    rw [List.append_nil]
    exact Ev.now _
  | @cons u o h e ih =>
    intro i x0 hi hu hx
    have us : u.size = s.size - i := by rw [← hu, ByteArray.size_extract]; omega
    have hw := chU_width u h
    have hl := chU_len u h
    refine l0_round x0 s hs i (by omega) _ (by omega) ?_
    rw [hu]
    have hn : s.extract (i + (chU u).2) s.size = u.extract (chU u).2 u.size := by rw [← ext_next s i (chU u).2 (by omega), hu]
    have := ih (i + (chU u).2) (x0 ++ (chU u).1) (by omega) hn (by rw [List.length_append]; omega)
    rw [List.append_assoc x0] at this
    exact this

/-! ### the texts -/
theorem must_ev (s : ByteArray) (hs : (s.size : Int) ≤ 100000) (p : Int) (h0 : 0 ≤ p) (hp : p < s.size) (hb : bt s p < 32 ∨ bt s p = 92) (d : Nat) : ∀ i : Int, 0 ≤ i → i ≤ p → p - i = d → Ev (fun k => sjson_mustMarshalString.l0 k s i) true := by
  induction d with
  | zero =>
    intro i h1 h2 h3
    obtain rfl : i = p := by omega
    refine Ev.step (fun k => by rw [sjson_mustMarshalString.l0]) ?_
    refine Ev.pos hp (Ev.pos h0 ?_)
    by_cases c1 : bt s i < 32
    · exact Ev.pos c1 (Ev.now _)
    · exact Ev.neg c1 (Ev.neg (by omega) (Ev.neg (by omega) (Ev.pos (by omega) (Ev.now _))))
  | succ d ih =>
    intro i h1 h2 h3
    refine Ev.step (fun k => by rw [sjson_mustMarshalString.l0]) ?_
    refine Ev.pos (by omega) (Ev.pos h1 ?_)
    by_cases c1 : bt s i < 32
    · exact Ev.pos c1 (Ev.now _)
    refine Ev.neg c1 ?_
    by_cases c2 : bt s i > 127
    · exact Ev.pos c2 (Ev.now _)
    refine Ev.neg c2 ?_
    by_cases c3 : bt s i = 34
    · exact Ev.pos c3 (Ev.now _)
    refine Ev.neg c3 ?_
    by_cases c4 : bt s i = 92
    · exact Ev.pos c4 (Ev.now _)
    refine Ev.neg c4 ?_
    rw [w64 (by omega) (by omega)]
    exact ih (i + 1) (by omega) (by omega) (by omega)
theorem text_ev (s : ByteArray) (hs : (s.size : Int) ≤ 100000) (p : Int) (h0 : 0 ≤ p) (hp : p < s.size) (hb : bt s p < 32 ∨ bt s p = 92) {o : List Int} (e : Em s o) : Ev (fun k => impl_SjString.f k s) (strOfNums ([34] ++ o ++ [34])) := by
  have m : Ev (fun k => sjson_mustMarshalString.f k s) true := must_ev s hs p h0 hp hb p.toNat 0 (by omega) (by omega) (by omega)
  have hx : s.extract 0 s.size = s := ByteArray.extract_zero_size
  have r := run_ev s hs e 0 [34] (by omega) hx (by simp; omega)
  have z : Ev (fun k => sjson_zzMarshal.f k [] s) ([34] ++ o ++ [34]) := by
    unfold sjson_zzMarshal.f
    exact Ev.pos (by decide) r
  have a : Ev (fun k => sjson_appendStringify.f k [] s) ([34] ++ o ++ [34]) := by
    unfold sjson_appendStringify.f
    exact Ev.bind m (Ev.pos rfl (Ev.bind z (Ev.now _)))
  unfold impl_SjString.f sjson_DoorString.f
  exact Ev.bind (Ev.bind a (Ev.now _)) (Ev.now _)

/-! ### the reference's look at UTF-8 ends always -/
theorem char_l0 (s : ByteArray) (hs : (s.size : Int) ≤ 100000) (i x8 x9 : Int) (h0 : 0 ≤ i) (h8 : 0 ≤ x8 ∧ x8 ≤ 3) (hl : i + x8 < s.size) (d : Nat) : ∀ j x7 : Int, 1 ≤ j → j ≤ x8 + 1 → x8 + 1 - j = d → ∃ c w b, Ev (fun k => spec_Character.l0 k s i x7 x8 x9 j) (c, w, b) ∧ 1 ≤ w ∧ w ≤ 4 := by
  have fl : ∀ f : Nat → Option (Int × Int × Bool), (∀ k, f k = some (65533, 1, false)) → Ev f (65533, 1, false) := fun f h => Ev.congr h (Ev.now _)
  induction d with
  | zero =>
    intro j x7 h1 h2 h3
    have st := fun k => (show spec_Character.l0 (k + 1) s i x7 x8 x9 j = _ by rw [spec_Character.l0])
    have e8 : wrap64 (x8 + 1) = x8 + 1 := w64 (by omega) (by omega)
    by_cases c1 : x7 < x9
    · exact ⟨_, _, _, Ev.step st (Ev.neg (by omega) (Ev.pos c1 (Ev.now _))), by omega, by omega⟩
    by_cases c2 : x7 > 1114111
    · exact ⟨_, _, _, Ev.step st (Ev.neg (by omega) (Ev.neg c1 (Ev.pos c2 (Ev.now _)))), by omega, by omega⟩
    have hh : ∃ b, spec_high.f x7 = some b := by unfold spec_high.f; split <;> exact ⟨_, rfl⟩
    have hl : ∃ b, spec_low.f x7 = some b := by unfold spec_low.f; split <;> exact ⟨_, rfl⟩
    obtain ⟨b1, hb1⟩ := hh
    obtain ⟨b2, hb2⟩ := hl
    cases b1 with
    | true => exact ⟨_, _, _, Ev.step st (Ev.neg (by omega) (Ev.neg c1 (Ev.neg c2 (Ev.bd hb1 (Ev.pos rfl (Ev.now _)))))), by omega, by omega⟩
    | false =>
      cases b2 with
      | true => exact ⟨_, _, _, Ev.step st (Ev.neg (by omega) (Ev.neg c1 (Ev.neg c2 (Ev.bd hb1 (Ev.neg Bool.false_ne_true (Ev.bd hb2 (Ev.pos rfl (Ev.now _)))))))), by omega, by omega⟩
      | false => exact ⟨_, _, _, Ev.step st (Ev.neg (by omega) (Ev.neg c1 (Ev.neg c2 (Ev.bd hb1 (Ev.neg Bool.false_ne_true (Ev.bd hb2 (Ev.neg Bool.false_ne_true (Ev.now _)))))))), by rw [e8]; omega, by rw [e8]; omega⟩
  | succ d ih =>
    intro j x7 h1 h2 h3
    have st := fun k => (show spec_Character.l0 (k + 1) s i x7 x8 x9 j = _ by rw [spec_Character.l0])
    have ei : wrap64 (i + j) = i + j := w64 (by omega) (by omega)
    have ej : wrap64 (j + 1) = j + 1 := w64 (by omega) (by omega)
    rw [ei, ej] at st
    by_cases c1 : wrap64 (bt s (i + j)) < 128
    · exact ⟨_, _, _, Ev.step st (Ev.pos (by omega) (Ev.pos (by omega) (Ev.pos (by omega) (Ev.pos c1 (Ev.now _))))), by omega, by omega⟩
    by_cases c2 : wrap64 (bt s (i + j)) > 191
    · exact ⟨_, _, _, Ev.step st (Ev.pos (by omega) (Ev.pos (by omega) (Ev.pos (by omega) (Ev.neg c1 (Ev.pos c2 (Ev.now _)))))), by omega, by omega⟩
    obtain ⟨c, w, b, e, hw⟩ := ih (j + 1) (wrap64 ((wrap64 ((wrap64 (x7 * 64)) + (wrap64 (bt s (i + j))))) - 128)) (by omega) (by omega) (by omega)
    exact ⟨c, w, b, Ev.step st (Ev.pos (by omega) (Ev.pos (by omega) (Ev.pos (by omega) (Ev.neg c1 (Ev.neg c2 e))))), hw⟩
theorem char_j2 (s : ByteArray) (hs : (s.size : Int) ≤ 100000) (i x7 x8 x9 : Int) (h0 : 0 ≤ i) (hi : i < s.size) (h8 : 0 ≤ x8 ∧ x8 ≤ 3) : ∃ c w b, Ev (fun k => spec_Character.j2 k s i x7 x8 x9) (c, w, b) ∧ 1 ≤ w ∧ w ≤ 4 := by
  have st := fun k => (show spec_Character.j2 (k + 1) s i x7 x8 x9 = _ by rw [spec_Character.j2])
  have ew : wrap64 ((s.size : Int) - i) = s.size - i := w64 (by omega) (by omega)
  rw [ew] at st
  by_cases c : (s.size : Int) - i ≤ x8
  · exact ⟨_, _, _, Ev.step st (Ev.pos c (Ev.now _)), by omega, by omega⟩
  obtain ⟨a, w, b, e, hw⟩ := char_l0 s hs i x8 x9 h0 h8 (by omega) x8.toNat 1 x7 (by omega) (by omega) (by omega)
  exact ⟨a, w, b, Ev.step st (Ev.neg c e), hw⟩
theorem char_ev (s : ByteArray) (hs : (s.size : Int) ≤ 100000) (i : Int) (h0 : 0 ≤ i) (hi : i < s.size) : ∃ c w b, Ev (fun k => spec_Character.f k s i) (c, w, b) ∧ 1 ≤ w ∧ w ≤ 4 := by
  unfold spec_Character.f
  have br := bt_range s i
  have eb : wrap64 (bt s i) = bt s i := w64 (by omega) (by omega)
  rw [eb]
  have j1 : ∀ b : Bool, ∃ c w b', Ev (fun k => spec_Character.j1 k s i (bt s i) b) (c, w, b') ∧ 1 ≤ w ∧ w ≤ 4 := by
    intro b
    have st := fun k => (show spec_Character.j1 (k + 1) s i (bt s i) b = _ by rw [spec_Character.j1])
    cases b with
    | true =>
      obtain ⟨a, w, b, e, hw⟩ := char_j2 s hs i (wrap64 (bt s i - 224)) 2 2048 h0 hi (by omega)
      exact ⟨a, w, b, Ev.step st (Ev.pos rfl e), hw⟩
    | false =>
      by_cases c1 : 240 ≤ bt s i
      · by_cases c2 : bt s i ≤ 244
        · obtain ⟨a, w, b, e, hw⟩ := char_j2 s hs i (wrap64 (bt s i - 240)) 3 65536 h0 hi (by omega)
          exact ⟨a, w, b, Ev.step st (Ev.neg Bool.false_ne_true (Ev.pos c1 (Ev.pos c2 e))), hw⟩
        · exact ⟨_, _, _, Ev.step st (Ev.neg Bool.false_ne_true (Ev.pos c1 (Ev.neg c2 (Ev.now _)))), by omega, by omega⟩
      · exact ⟨_, _, _, Ev.step st (Ev.neg Bool.false_ne_true (Ev.neg c1 (Ev.now _))), by omega, by omega⟩
  have j0 : ∀ b : Bool, ∃ c w b', Ev (fun k => spec_Character.j0 k s i (bt s i) b) (c, w, b') ∧ 1 ≤ w ∧ w ≤ 4 := by
    intro b
    have st := fun k => (show spec_Character.j0 (k + 1) s i (bt s i) b = _ by rw [spec_Character.j0])
    cases b with
    | true =>
      obtain ⟨a, w, b, e, hw⟩ := char_j2 s hs i (wrap64 (bt s i - 192)) 1 128 h0 hi (by omega)
      exact ⟨a, w, b, Ev.step st (Ev.pos rfl e), hw⟩
    | false =>
      by_cases c1 : 224 ≤ bt s i
      · obtain ⟨a, w, b, e, hw⟩ := j1 (decide (bt s i ≤ 239))
        exact ⟨a, w, b, Ev.step st (Ev.neg Bool.false_ne_true (Ev.pos c1 e)), hw⟩
      · obtain ⟨a, w, b, e, hw⟩ := j1 false
        exact ⟨a, w, b, Ev.step st (Ev.neg Bool.false_ne_true (Ev.neg c1 e)), hw⟩
  by_cases c1 : bt s i < 128
  · exact ⟨_, _, _, Ev.pos h0 (Ev.pos hi (Ev.pos c1 (Ev.now _))), by omega, by omega⟩
  by_cases c2 : 194 ≤ bt s i
  · obtain ⟨a, w, b, e, hw⟩ := j0 (decide (bt s i ≤ 223))
    exact ⟨a, w, b, Ev.pos h0 (Ev.pos hi (Ev.neg c1 (Ev.pos c2 e))), hw⟩
  · obtain ⟨a, w, b, e, hw⟩ := j0 false
    exact ⟨a, w, b, Ev.pos h0 (Ev.pos hi (Ev.neg c1 (Ev.neg c2 e))), hw⟩
theorem utf8_l0 (s : ByteArray) (hs : (s.size : Int) ≤ 100000) (d : Nat) : ∀ i : Int, 0 ≤ i → s.size - i ≤ d → i ≤ s.size + 4 → ∃ b, Ev (fun k => spec_UTF8.l0 k s i) b := by
  induction d with
  | zero => intro i h0 hd _; exact ⟨_, Ev.step (fun k => by rw [spec_UTF8.l0]) (Ev.neg (by omega) (Ev.now _))⟩
  | succ d ih =>
    intro i h0 hd h4
    have st := fun k => (show spec_UTF8.l0 (k + 1) s i = _ by rw [spec_UTF8.l0])
    by_cases hi : i < s.size
    · obtain ⟨c, w, b, e, hw⟩ := char_ev s hs i h0 hi
      cases b with
      | false => exact ⟨_, Ev.step st (Ev.pos hi (Ev.bind e (Ev.neg Bool.false_ne_true (Ev.now _))))⟩
      | true =>
        obtain ⟨b', e'⟩ := ih (i + w) (by omega) (by omega) (by omega)
        refine ⟨b', Ev.step st (Ev.pos hi (Ev.bind e (Ev.pos rfl ?_)))⟩
        have ew : wrap64 (i + w) = i + w := w64 (by omega) (by omega)
        show Ev (fun k => spec_UTF8.l0 k s (wrap64 (i + w))) b'
        rw [ew]; exact e'
    · exact ⟨_, Ev.step st (Ev.neg hi (Ev.now _))⟩
theorem utf8_ev (s : ByteArray) (hs : (s.size : Int) ≤ 100000) : ∃ b, Ev (fun k => spec_UTF8.f k s) b := utf8_l0 s hs s.size 0 (by omega) (by omega) (by omega)

/-! ### the law -/
theorem strApp (x y : List Int) : strOfNums (x ++ y) = strOfNums x ++ strOfNums y := by
  apply ByteArray.ext
  simp [strOfNums]
theorem law_j1 (a b : ByteArray) (hs : (a.size : Int) + b.size ≤ 4096) : Ev (fun k => laws_FnSjStringJoin.j1 k a b false) true := by
  have l10 : (⟨#[10]⟩ : ByteArray).size = 1 := rfl
  have l92 : (⟨#[92]⟩ : ByteArray).size = 1 := rfl
  have za : (a ++ (⟨#[10]⟩ : ByteArray)).size = a.size + 1 := by rw [ByteArray.size_append, l10]
  have zb : ((⟨#[92]⟩ : ByteArray) ++ b).size = 1 + b.size := by rw [ByteArray.size_append, l92]
  have ba : bt (a ++ (⟨#[10]⟩ : ByteArray)) a.size = 10 := by
    have := bt_r a (⟨#[10]⟩ : ByteArray) 0 (by omega) (by decide)
    rw [Int.add_zero] at this
    rw [this]; rfl
  have bb : bt ((⟨#[92]⟩ : ByteArray) ++ b) 0 = 92 := by
    rw [bt_l _ _ _ (by omega) (by rw [l92]; decide)]; rfl
  obtain ⟨A, hA⟩ : ∃ A, a ++ (⟨#[10]⟩ : ByteArray) = A := ⟨_, rfl⟩
  obtain ⟨B, hB⟩ : ∃ B, (⟨#[92]⟩ : ByteArray) ++ b = B := ⟨_, rfl⟩
  rw [hA] at za ba
  rw [hB] at zb bb
  obtain ⟨o, eo, lo⟩ := em_is A.size A (Nat.le_refl _)
  obtain ⟨p, ep, lp⟩ := em_is B.size B (Nat.le_refl _)
  have eop := em_app eo ep (.inr (by rw [za, show ((a.size + 1 : Nat) : Int) - 1 = a.size by omega, ba]; decide))
  have zz : (A ++ B).size = a.size + b.size + 2 := by rw [ByteArray.size_append, za, zb]; omega
  have t1 := text_ev A (by omega) a.size (by omega) (by omega) (.inl (by rw [ba]; decide)) eo
  have t2 := text_ev B (by omega) 0 (by omega) (by omega) (.inr bb) ep
  have t3 := text_ev (A ++ B) (by omega) a.size (by omega) (by omega) (.inl (by rw [bt_l _ _ _ (by omega) (by omega), ba]; decide)) eop
  have s1 : (strOfNums ([34] ++ o ++ [34])).size = o.length + 2 := by rw [strOfNums_size]; simp
  have s2 : (strOfNums ([34] ++ p ++ [34])).size = p.length + 2 := by rw [strOfNums_size]; simp
  refine Ev.step (fun k => by rw [laws_FnSjStringJoin.j1]) ?_
  rw [hA, hB]
  refine Ev.neg Bool.false_ne_true (Ev.pos (by omega) (Ev.pos (by omega) (Ev.bind t1 (Ev.bind t2 (Ev.pos (by rw [s1]; omega) (Ev.pos (by rw [s2]; omega) (Ev.pos (by omega) (Ev.bind t3 ?_))))))))
  have hw : wrap64 (((strOfNums ([34] ++ o ++ [34])).size : Int) - 1) = ((o.length + 1 : Nat) : Int) := by rw [s1, w64 (by omega) (by omega)]; omega
  have x1 : (strOfNums ([34] ++ o ++ [34])).extract 0 (o.length + 1) = strOfNums ([34] ++ o) := by
    rw [strApp ([34] ++ o) [34]]
    exact ByteArray.extract_append_eq_left (by rw [strOfNums_size]; simp)
  have x2 : (strOfNums ([34] ++ p ++ [34])).extract 1 (strOfNums ([34] ++ p ++ [34])).size = strOfNums (p ++ [34]) := by
    rw [List.append_assoc, strApp [34] (p ++ [34])]
    exact ByteArray.extract_append_eq_right rfl (by rw [ByteArray.size_append])
  rw [hw, Int.toNat_natCast, x1, x2]
  have e1 : (strOfNums ([34] ++ o)).size = o.length + 1 := by rw [strOfNums_size]; simp
  have e2 : (strOfNums (p ++ [34])).size = p.length + 1 := by rw [strOfNums_size]; simp
  refine Ev.pos (by omega) (Ev.pos (by rw [s1]; omega) (Ev.pos (by rw [s2]; omega) (Ev.pos (by omega) ?_)))
  refine Ev.eq ?_ (Ev.now _)
  rw [← strApp]
  simp
theorem FnSjStringJoin : laws_FnSjStringJoin.Pure := by
  intro a b _ _
  refine Ev.rounds (r := true) (g := fun k => laws_FnSjStringJoin.f k a b) ?_
  unfold laws_FnSjStringJoin.f
  have yes0 : Ev (fun k => laws_FnSjStringJoin.j0 k a b true) true := Ev.step (fun k => by rw [laws_FnSjStringJoin.j0]) (Ev.pos rfl (Ev.now _))
  have yes1 : Ev (fun k => laws_FnSjStringJoin.j1 k a b true) true := Ev.step (fun k => by rw [laws_FnSjStringJoin.j1]) (Ev.pos rfl (Ev.now _))
  by_cases c1 : (a.size : Int) > 2147483647
  · exact Ev.pos c1 yes0
  refine Ev.neg c1 ?_
  by_cases c2 : (b.size : Int) > 2147483647
  · rw [decide_eq_true c2]; exact yes0
  rw [decide_eq_false c2]
  refine Ev.step (fun k => by rw [laws_FnSjStringJoin.j0]) ?_
  rw [w64 (by omega) (by omega)]
  refine Ev.neg Bool.false_ne_true ?_
  by_cases c3 : (a.size : Int) + b.size > 4096
  · exact Ev.pos c3 yes1
  refine Ev.neg c3 ?_
  obtain ⟨u, eu⟩ := utf8_ev a (by omega)
  refine Ev.bind eu ?_
  cases u with
  | false => exact Ev.neg Bool.false_ne_true yes1
  | true =>
    refine Ev.pos rfl ?_
    obtain ⟨v, ev⟩ := utf8_ev b (by omega)
    refine Ev.bind ev ?_
    cases v with
    | false => exact yes1
    | true => exact law_j1 a b (by omega)
end Go.Proofs.YtljmeaemonpkoaaDoor.Pure
