/- Of a query '#(name op "value")' with anything behind it gjson's reader of queries gives the name, the operator ("=" for "=="), the value with its quotation marks, what is behind, and the place behind the parenthesis; conditions: none beside the statement's own. -/
import Derived.Test.YtnmbpleneddkhaaPFnGjQueryPartsx
namespace Go.Proofs.Ytnmbpleneddkhaa.Pure
open Go.RowKit Go.Proofs.Ytnmbpleneddkhaa.PFnGjQueryParts Go.Proofs.YtnmbpleneddkhaaW.PrintWords Go.Proofs.YtnmbpleneddkhaaW.PrintLast Go.Proofs.YtnmbpleneddkhaaW.PrintMore

theorem w64 {x : Int} (h0 : -9223372036854775808 ≤ x) (h1 : x ≤ 9223372036854775807) : wrap64 x = x := by
  unfold wrap64; omega
theorem Ev.pos {α : Type} {c : Prop} [Decidable c] {f g : Nat → Option α} {r : α} (h : c) (e : Ev f r) : Ev (fun k => if c then f k else g k) r :=
  Ev.congr (fun _ => if_pos h) e
theorem Ev.neg {α : Type} {c : Prop} [Decidable c] {f g : Nat → Option α} {r : α} (h : ¬ c) (e : Ev g r) : Ev (fun k => if c then f k else g k) r :=
  Ev.congr (fun _ => if_neg h) e
theorem Ev.bd {α β : Type} {g : Option α} {f : Nat → α → Option β} {a : α} {r : β} (h : g = some a) (k : Ev (fun n => f n a) r) : Ev (fun n => g.bind (f n)) r :=
  Ev.congr (fun n => by rw [h]; rfl) k
theorem Ev.eq {α : Type} {f : Nat → Option α} {a b : α} (h : a = b) (e : Ev f a) : Ev f b := h ▸ e

/-! ### bytes of pieces -/
theorem bt_l (x y : ByteArray) (q : Int) (h0 : 0 ≤ q) (h : q < x.size) : bt (x ++ y) q = bt x q := by
  unfold bt
  have h1 : q.toNat < x.size := by omega
  have h2 : q.toNat < (x ++ y).size := by rw [ByteArray.size_append]; omega
  rw [dif_pos h1, dif_pos h2, ByteArray.getElem_append_left h1]
theorem bt_r (x y : ByteArray) (q : Int) (h0 : 0 ≤ q) (h : q < y.size) : bt (x ++ y) (x.size + q) = bt y q := by
  unfold bt
  have h1 : q.toNat < y.size := by omega
  have h2 : ((x.size : Int) + q).toNat < (x ++ y).size := by rw [ByteArray.size_append]; omega
  rw [dif_pos h1, dif_pos h2, ByteArray.getElem_append_right (by omega)]
  congr 3
  omega
theorem ext_l (x y : ByteArray) : (x ++ y).extract 0 x.size = x := ByteArray.extract_append_eq_left rfl
theorem ext_r (x y : ByteArray) : (x ++ y).extract x.size (x ++ y).size = y := ByteArray.extract_append_eq_right rfl (by rw [ByteArray.size_append])
theorem ext_m (x y z : ByteArray) : (x ++ y ++ z).extract x.size (x.size + y.size) = y := by
  have h : (x ++ y ++ z).extract x.size (x.size + y.size) = ((x ++ y ++ z).extract 0 (x ++ y).size).extract x.size (x ++ y).size := by
    rw [ByteArray.extract_extract, ByteArray.size_append]
    congr 1 <;> omega
  rw [h, ext_l, ext_r]

/-! ### trim where nothing is to be taken away -/
theorem trim_id (s : ByteArray) (hs : (s.size : Int) ≤ 100000) (h : 0 < (s.size : Int)) (h0 : 32 < bt s 0) (h1 : 32 < bt s (s.size - 1)) : Ev (fun k => gjson_trim.f k s) s := by
  unfold gjson_trim.f
  have hw : wrap64 ((s.size : Int) - 1) = s.size - 1 := w64 (by omega) (by omega)
  refine Ev.step (fun k => by rw [gjson_trim.l]) ?_
  refine Ev.pos h (Ev.neg (by omega) ?_)
  refine Ev.step (fun k => by rw [gjson_trim.r]) ?_
  rw [hw]
  exact Ev.pos h (Ev.pos (by omega) (Ev.pos (by omega) (Ev.neg (by omega) (Ev.now _))))

/-! ### words and operators -/
def WordCh (c : Int) : Prop := (97 ≤ c ∧ c ≤ 122) ∨ (65 ≤ c ∧ c ≤ 90) ∨ (48 ≤ c ∧ c ≤ 57) ∨ c = 95
instance (c : Int) : Decidable (WordCh c) := by unfold WordCh; infer_instance
theorem word_ev (s : ByteArray) (hs : (s.size : Int) ≤ 2147483647) (d : Nat) : ∀ i : Int, 0 ≤ i → i ≤ s.size → s.size - i ≤ d → ∃ b, Ev (fun k => laws_gjWord.l0 k s i) b ∧ (b = true → s.toList ≠ [] ∧ ∀ q, i ≤ q → q < s.size → WordCh (bt s q)) := by
  have fin : ∀ i : Int, s.size ≤ i → ∃ b, Ev (fun k => laws_gjWord.l0 k s i) b ∧ (b = true → s.toList ≠ [] ∧ ∀ q, i ≤ q → q < s.size → WordCh (bt s q)) := fun i h =>
    ⟨_, Ev.step (fun k => by rw [laws_gjWord.l0]) (Ev.neg (by omega) (Ev.now _)), fun hb => ⟨by simpa using hb, fun q h1 h2 => by omega⟩⟩
  induction d with
  | zero => intro i h0 h1 hd; exact fin i (by omega)
  | succ d ih =>
    intro i h0 h1 hd
    by_cases hi : i < s.size
    · obtain ⟨b, e, hb⟩ := ih (i + 1) (by omega) (by omega) (by omega)
      have hw : wrap64 (i + 1) = i + 1 := w64 (by omega) (by omega)
      have st := fun k => (show laws_gjWord.l0 (k + 1) s i = _ by rw [laws_gjWord.l0])
      by_cases hc : WordCh (bt s i)
      · refine ⟨b, ?_, fun h => ⟨(hb h).1, fun q h1 h2 => ?_⟩⟩
        · refine Ev.step st (Ev.pos hi (Ev.pos h0 ?_))
          rw [hw]
          unfold WordCh at hc
          by_cases c1 : 97 ≤ bt s i
          · by_cases c2 : bt s i ≤ 122
            · exact Ev.pos c1 (Ev.pos c2 e)
            · omega
          · refine Ev.neg c1 ?_
            by_cases c3 : 65 ≤ bt s i
            · by_cases c4 : bt s i ≤ 90
              · exact Ev.pos c3 (Ev.pos c4 e)
              · refine Ev.pos c3 (Ev.neg c4 (Ev.pos (by omega) (Ev.neg (by omega) (Ev.pos (by omega) e))))
            · refine Ev.neg c3 ?_
              exact Ev.pos (by omega) (Ev.pos (by omega) e)
        · by_cases hq : q = i
          · rw [hq]; exact hc
          · exact (hb h).2 q (by omega) h2
      · refine ⟨false, ?_, fun h => by cases h⟩
        unfold WordCh at hc
        refine Ev.step st (Ev.pos hi (Ev.pos h0 ?_))
        have nx : Ev (fun k => if 48 ≤ bt s i then (if bt s i ≤ 57 then laws_gjWord.l0 k s (wrap64 (i + 1)) else (if bt s i = 95 then laws_gjWord.l0 k s (wrap64 (i + 1)) else some false)) else (if bt s i = 95 then laws_gjWord.l0 k s (wrap64 (i + 1)) else some false)) false := by
          by_cases c5 : 48 ≤ bt s i
          · exact Ev.pos c5 (Ev.neg (by omega) (Ev.neg (by omega) (Ev.now _)))
          · exact Ev.neg c5 (Ev.neg (by omega) (Ev.now _))
        have nx2 : Ev (fun k => if 65 ≤ bt s i then (if bt s i ≤ 90 then laws_gjWord.l0 k s (wrap64 (i + 1)) else (if 48 ≤ bt s i then (if bt s i ≤ 57 then laws_gjWord.l0 k s (wrap64 (i + 1)) else (if bt s i = 95 then laws_gjWord.l0 k s (wrap64 (i + 1)) else some false)) else (if bt s i = 95 then laws_gjWord.l0 k s (wrap64 (i + 1)) else some false))) else (if 48 ≤ bt s i then (if bt s i ≤ 57 then laws_gjWord.l0 k s (wrap64 (i + 1)) else (if bt s i = 95 then laws_gjWord.l0 k s (wrap64 (i + 1)) else some false)) else (if bt s i = 95 then laws_gjWord.l0 k s (wrap64 (i + 1)) else some false))) false := by
          by_cases c3 : 65 ≤ bt s i
          · exact Ev.pos c3 (Ev.neg (by omega) nx)
          · exact Ev.neg c3 nx
        by_cases c1 : 97 ≤ bt s i
        · exact Ev.pos c1 (Ev.neg (by omega) nx2)
        · exact Ev.neg c1 nx2
    · exact fin i (by omega)
/-- An operator as the law writes it, and what the reader makes of it. -/
inductive IsOp : ByteArray → ByteArray → Prop
  | eq : IsOp ⟨#[61, 61]⟩ ⟨#[61]⟩
  | ne : IsOp ⟨#[33, 61]⟩ ⟨#[33, 61]⟩
  | lt : IsOp ⟨#[60]⟩ ⟨#[60]⟩
  | ge : IsOp ⟨#[62, 61]⟩ ⟨#[62, 61]⟩
  | gt : IsOp ⟨#[62]⟩ ⟨#[62]⟩
  | le : IsOp ⟨#[60, 61]⟩ ⟨#[60, 61]⟩
theorem tmod6 (a : Int) : -6 < Int.tmod a 6 ∧ Int.tmod a 6 < 6 := by
  by_cases h : 0 ≤ a
  · rw [Int.tmod_eq_emod_of_nonneg h]; omega
  · have h2 : Int.tmod a 6 = - ((-a) % 6) := by
      rw [← Int.tmod_eq_emod_of_nonneg (show 0 ≤ -a by omega), Int.neg_tmod, Int.neg_neg]
    rw [h2]; omega
theorem op_f (a : Int) : ∃ s o, laws_gjOp.f a = some s ∧ IsOp s o := by
  unfold laws_gjOp.f
  have h := tmod6 a
  rw [w64 (by omega) (by omega), Int.tmod_eq_emod_of_nonneg (by omega)]
  obtain ⟨m, hm⟩ : ∃ m, (Int.tmod a 6 + 6) % 6 = m := ⟨_, rfl⟩
  rw [hm]
  have this : 0 ≤ m ∧ m < 6 := by omega
  simp only [Option.bind_some]
  rw [if_pos this.1, if_pos (by simpa using this.2)]
  have hm2 : m = 0 ∨ m = 1 ∨ m = 2 ∨ m = 3 ∨ m = 4 ∨ m = 5 := by omega
  clear hm
  rcases hm2 with rfl | rfl | rfl | rfl | rfl | rfl
  · exact ⟨_, _, rfl, .eq⟩
  · exact ⟨_, _, rfl, .ne⟩
  · exact ⟨_, _, rfl, .lt⟩
  · exact ⟨_, _, rfl, .ge⟩
  · exact ⟨_, _, rfl, .gt⟩
  · exact ⟨_, _, rfl, .le⟩

/-! ### the reader's rounds -/
abbrev eb : ByteArray := ⟨#[]⟩
abbrev R7 := ByteArray × ByteArray × ByteArray × ByteArray × Int × Bool × Bool
def OpCh (c : Int) : Prop := c = 33 ∨ c = 61 ∨ c = 60 ∨ c = 62 ∨ c = 37
section
variable {t : ByteArray} {r : R7} {x7 : Bool} (hs : (t.size : Int) ≤ 100000)
include hs
theorem j3_plain {i x9 : Int} (h0 : 0 ≤ i) (hi : i < t.size) (hc : bt t i ≠ 34 ∧ bt t i ≠ 91 ∧ bt t i ≠ 40 ∧ bt t i ≠ 93 ∧ bt t i ≠ 41 ∧ bt t i ≠ 92) (e : Ev (fun k => gjson_parseQuery.l0 k t eb eb (i + 1) x7 x9 1) r) :
    Ev (fun k => gjson_parseQuery.j3 k t eb eb i x7 x9 1) r := by
  have hw : wrap64 (i + 1) = i + 1 := w64 (by omega) (by omega)
  have h40 : (bt t i == 40) = false := by simp; omega
  have h41 : (bt t i == 41) = false := by simp; omega
  refine Ev.step (fun k => by rw [gjson_parseQuery.j3]) ?_
  refine Ev.pos h0 (Ev.pos hi (Ev.neg (by omega) (Ev.neg (by omega) ?_)))
  rw [h40]
  refine Ev.step (fun k => by rw [gjson_parseQuery.j4]) ?_
  refine Ev.neg Bool.false_ne_true (Ev.pos h0 (Ev.pos hi (Ev.neg (by omega) ?_)))
  rw [h41]
  refine Ev.step (fun k => by rw [gjson_parseQuery.j5]) ?_
  refine Ev.neg Bool.false_ne_true (Ev.pos h0 (Ev.pos hi (Ev.neg (by omega) ?_)))
  rw [hw]; exact e
theorem l0_plain {i x9 : Int} (h0 : 0 ≤ i) (hi : i < t.size) (hp : x9 ≠ 0 ∨ ¬ OpCh (bt t i)) (hc : bt t i ≠ 34 ∧ bt t i ≠ 91 ∧ bt t i ≠ 40 ∧ bt t i ≠ 93 ∧ bt t i ≠ 41 ∧ bt t i ≠ 92) (e : Ev (fun k => gjson_parseQuery.l0 k t eb eb (i + 1) x7 x9 1) r) :
    Ev (fun k => gjson_parseQuery.l0 k t eb eb i x7 x9 1) r := by
  refine Ev.step (fun k => by rw [gjson_parseQuery.l0]) ?_
  refine Ev.pos hi (Ev.pos rfl ?_)
  have e3 := j3_plain (x7 := x7) (x9 := x9) hs h0 hi hc e
  by_cases hx : x9 = 0
  · have hn : ¬ OpCh (bt t i) := by rcases hp with hp | hp; exact absurd hx hp; exact hp
    unfold OpCh at hn
    have : (x9 == 0) = true := by simp [hx]
    rw [this]
    refine Ev.step (fun k => by rw [gjson_parseQuery.j2]) ?_
    exact Ev.pos rfl (Ev.pos h0 (Ev.pos hi (Ev.neg (by omega) (Ev.neg (by omega) (Ev.neg (by omega) (Ev.neg (by omega) (Ev.neg (by omega) e3)))))))
  · have : (x9 == 0) = false := by simp [hx]
    rw [this]
    refine Ev.step (fun k => by rw [gjson_parseQuery.j2]) ?_
    exact Ev.neg Bool.false_ne_true e3
theorem l0_op {i : Int} (h0 : 0 ≤ i) (hi : i < t.size) (hc : OpCh (bt t i)) (e : Ev (fun k => gjson_parseQuery.l0 k t eb eb (i + 1) x7 i 1) r) :
    Ev (fun k => gjson_parseQuery.l0 k t eb eb i x7 0 1) r := by
  have hw : wrap64 (i + 1) = i + 1 := w64 (by omega) (by omega)
  refine Ev.step (fun k => by rw [gjson_parseQuery.l0]) ?_
  refine Ev.pos hi (Ev.pos rfl ?_)
  refine Ev.step (fun k => by rw [gjson_parseQuery.j2]) ?_
  refine Ev.pos rfl (Ev.pos h0 (Ev.pos hi ?_))
  rw [hw]
  unfold OpCh at hc
  by_cases c1 : bt t i = 33
  · exact Ev.pos c1 e
  by_cases c2 : bt t i = 61
  · exact Ev.neg c1 (Ev.pos c2 e)
  by_cases c3 : bt t i = 60
  · exact Ev.neg c1 (Ev.neg c2 (Ev.pos c3 e))
  by_cases c4 : bt t i = 62
  · exact Ev.neg c1 (Ev.neg c2 (Ev.neg c3 (Ev.pos c4 e)))
  · exact Ev.neg c1 (Ev.neg c2 (Ev.neg c3 (Ev.neg c4 (Ev.pos (by omega) e))))
theorem l0_j3 {i x9 : Int} (hi : i < t.size) (hx : x9 ≠ 0) (e : Ev (fun k => gjson_parseQuery.j3 k t eb eb i x7 x9 1) r) : Ev (fun k => gjson_parseQuery.l0 k t eb eb i x7 x9 1) r := by
  have _hs := hs
  refine Ev.step (fun k => by rw [gjson_parseQuery.l0]) ?_
  refine Ev.pos hi (Ev.pos rfl ?_)
  have : (x9 == 0) = false := by simp [hx]
  rw [this]
  refine Ev.step (fun k => by rw [gjson_parseQuery.j2]) ?_
  exact Ev.neg Bool.false_ne_true e
theorem l0_quote {i x9 : Int} (h0 : 0 ≤ i) (hi : i < t.size) (hx : x9 ≠ 0) (hc : bt t i = 34) (e : Ev (fun k => gjson_parseQuery.l1 k t eb eb (i + 1) x7 x9 1) r) :
    Ev (fun k => gjson_parseQuery.l0 k t eb eb i x7 x9 1) r := by
  have hw : wrap64 (i + 1) = i + 1 := w64 (by omega) (by omega)
  have h40 : (bt t i == 40) = false := by simp; omega
  have h41 : (bt t i == 41) = false := by simp; omega
  refine l0_j3 hs hi hx ?_
  refine Ev.step (fun k => by rw [gjson_parseQuery.j3]) ?_
  refine Ev.pos h0 (Ev.pos hi (Ev.neg (by omega) (Ev.neg (by omega) ?_)))
  rw [h40]
  refine Ev.step (fun k => by rw [gjson_parseQuery.j4]) ?_
  refine Ev.neg Bool.false_ne_true (Ev.pos h0 (Ev.pos hi (Ev.neg (by omega) ?_)))
  rw [h41]
  refine Ev.step (fun k => by rw [gjson_parseQuery.j5]) ?_
  refine Ev.neg Bool.false_ne_true (Ev.pos h0 (Ev.pos hi (Ev.pos hc ?_)))
  rw [hw]; exact e
theorem l0_close {i x9 : Int} (h0 : 0 ≤ i) (hi : i < t.size) (hx : x9 ≠ 0) (hc : bt t i = 41) (e : Ev (fun k => gjson_parseQuery.j7 k t eb eb i x7 x9 0) r) :
    Ev (fun k => gjson_parseQuery.l0 k t eb eb i x7 x9 1) r := by
  have _hs := hs
  have h40 : (bt t i == 40) = false := by simp; omega
  have h41 : (bt t i == 41) = true := by simp; omega
  have hz : wrap64 (1 - 1) = 0 := by unfold wrap64; omega
  refine l0_j3 hs hi hx ?_
  refine Ev.step (fun k => by rw [gjson_parseQuery.j3]) ?_
  refine Ev.pos h0 (Ev.pos hi (Ev.neg (by omega) (Ev.neg (by omega) ?_)))
  rw [h40]
  refine Ev.step (fun k => by rw [gjson_parseQuery.j4]) ?_
  refine Ev.neg Bool.false_ne_true (Ev.pos h0 (Ev.pos hi (Ev.neg (by omega) ?_)))
  rw [h41]
  refine Ev.step (fun k => by rw [gjson_parseQuery.j5]) ?_
  refine Ev.pos rfl (Ev.pos hz ?_)
  rw [hz]; exact e
theorem l1_run {x9 e' : Int} (he : e' < t.size) (hq : bt t e' = 34) (e : Ev (fun k => gjson_parseQuery.l0 k t eb eb (e' + 1) x7 x9 1) r) (d : Nat) : ∀ i : Int, 0 ≤ i → i ≤ e' → e' - i = d → (∀ q, i ≤ q → q < e' → bt t q ≠ 34 ∧ bt t q ≠ 92) →
    Ev (fun k => gjson_parseQuery.l1 k t eb eb i x7 x9 1) r := by
  induction d with
  | zero =>
    intro i h0 h1 hd _
    obtain rfl : i = e' := by omega
    refine Ev.step (fun k => by rw [gjson_parseQuery.l1]) ?_
    refine Ev.pos he (Ev.pos h0 (Ev.neg (by omega) (Ev.pos hq ?_)))
    rw [w64 (by omega) (by omega)]; exact e
  | succ d ih =>
    intro i h0 h1 hd h
    have c := h i (by omega) (by omega)
    refine Ev.step (fun k => by rw [gjson_parseQuery.l1]) ?_
    refine Ev.pos (by omega) (Ev.pos h0 (Ev.neg c.2 (Ev.neg c.1 ?_)))
    rw [w64 (by omega) (by omega)]
    exact ih (i + 1) (by omega) (by omega) (by omega) (fun q h2 h3 => h q (by omega) h3)
theorem l0_name {e' : Int} (he : e' ≤ t.size) (e : Ev (fun k => gjson_parseQuery.l0 k t eb eb e' x7 0 1) r) (d : Nat) : ∀ i : Int, 0 ≤ i → i ≤ e' → e' - i = d → (∀ q, i ≤ q → q < e' → WordCh (bt t q)) →
    Ev (fun k => gjson_parseQuery.l0 k t eb eb i x7 0 1) r := by
  induction d with
  | zero =>
    intro i h0 h1 hd _
    obtain rfl : i = e' := by omega
    exact e
  | succ d ih =>
    intro i h0 h1 hd h
    have c := h i (by omega) (by omega)
    unfold WordCh at c
    refine l0_plain hs h0 (by omega) (.inr ?_) ?_ (ih (i + 1) (by omega) (by omega) (by omega) (fun q h2 h3 => h q (by omega) h3))
    · unfold OpCh; omega
    · omega
end

/-! ### the operator is split off -/
theorem q_bt0 (v : ByteArray) : bt (((⟨#[34]⟩ : ByteArray) ++ v) ++ ⟨#[34]⟩) 0 = 34 := by
  rw [bt_l _ _ _ (by omega) (by rw [ByteArray.size_append]; show (0 : Int) < ((1 + v.size : Nat) : Int); omega), bt_l _ _ _ (by omega) (by decide)]
  rfl
theorem q_size (v : ByteArray) : (((⟨#[34]⟩ : ByteArray) ++ v) ++ ⟨#[34]⟩).size = v.size + 2 := by
  rw [ByteArray.size_append, ByteArray.size_append]; show 1 + v.size + 1 = _; omega
theorem q_last (v : ByteArray) : bt (((⟨#[34]⟩ : ByteArray) ++ v) ++ ⟨#[34]⟩) ((((⟨#[34]⟩ : ByteArray) ++ v) ++ ⟨#[34]⟩).size - 1) = 34 := by
  have h : (((((⟨#[34]⟩ : ByteArray) ++ v) ++ (⟨#[34]⟩ : ByteArray)).size : Nat) : Int) - 1 = (((⟨#[34]⟩ : ByteArray) ++ v).size : Int) + 0 := by
    rw [q_size, ByteArray.size_append]; show ((v.size + 2 : Nat) : Int) - 1 = ((1 + v.size : Nat) : Int) + 0; omega
  rw [h, bt_r _ _ _ (by omega) (by decide)]
  rfl
theorem trim_q (v : ByteArray) (hv : (v.size : Int) ≤ 5000) : Ev (fun k => gjson_trim.f k (((⟨#[34]⟩ : ByteArray) ++ v) ++ ⟨#[34]⟩)) (((⟨#[34]⟩ : ByteArray) ++ v) ++ ⟨#[34]⟩) :=
  trim_id _ (by rw [q_size]; omega) (by rw [q_size]; omega) (by rw [q_bt0]; omega) (by rw [q_last]; omega)
/-- What the reader does with the part from the operator on. -/
theorem split_op (sign op v rest name : ByteArray) (x6 : Int) (h6 : 0 ≤ x6 ∧ x6 ≤ 100000) (hv : (v.size : Int) ≤ 5000) (ho : IsOp sign op) :
    let q := ((⟨#[34]⟩ : ByteArray) ++ v) ++ ⟨#[34]⟩
    let x := sign ++ q
    0 < (x.size : Int) ∧ (x.size : Int) ≠ 1 ∧ 1 < (x.size : Int) ∧ bt x 0 > 32 ∧
    Ev (fun k => if bt x 0 = 33 then (if 1 < (x.size : Int) then gjson_parseQuery.j8 k name x rest x6 false 0 (bt x 1 == 61) else none) else gjson_parseQuery.j8 k name x rest x6 false 0 false) (name, op, q, rest, x6 + 1, false, true) := by
  intro q x
  have hq0 : bt q 0 = 34 := q_bt0 v
  have tq := trim_q v hv
  have qs : q.size = v.size + 2 := q_size v
  have hw : wrap64 (x6 + 1) = x6 + 1 := w64 (by omega) (by omega)
  have two : ∀ a b : UInt8, sign = ⟨#[a, b]⟩ → x.size = v.size + 4 ∧ bt x 0 = a.toNat ∧ bt x 1 = b.toNat ∧ x.extract 0 2 = sign ∧ x.extract 2 x.size = q := by
    intro a b h
    have hs2 : sign.size = 2 := by rw [h]; rfl
    refine ⟨by rw [ByteArray.size_append, hs2, qs]; omega, ?_, ?_, ?_, ?_⟩
    · rw [bt_l _ _ _ (by omega) (by omega), h]; rfl
    · rw [bt_l _ _ _ (by omega) (by omega), h]; rfl
    · rw [← hs2]; exact ext_l sign q
    · rw [← hs2]; exact ext_r sign q
  have one : ∀ a : UInt8, sign = ⟨#[a]⟩ → x.size = v.size + 3 ∧ bt x 0 = a.toNat ∧ bt x 1 = 34 ∧ x.extract 0 1 = sign ∧ x.extract 1 x.size = q := by
    intro a h
    have hs1 : sign.size = 1 := by rw [h]; rfl
    refine ⟨by rw [ByteArray.size_append, hs1, qs]; omega, ?_, ?_, ?_, ?_⟩
    · rw [bt_l _ _ _ (by omega) (by omega), h]; rfl
    · rw [show (1 : Int) = (sign.size : Int) + 0 by omega, bt_r _ _ _ (by omega) (by omega)]; exact hq0
    · rw [← hs1]; exact ext_l sign q
    · rw [← hs1]; exact ext_r sign q
  have j8f : ∀ {r : R7} {f : Nat → Option R7}, 0 < (x.size : Int) → bt x 0 ≠ 33 → Ev (fun k => gjson_parseQuery.j9 k name x rest x6 false 0 false) r → Ev (fun k => gjson_parseQuery.j8 k name x rest x6 false 0 false) r := fun h h2 e =>
    Ev.step (fun k => by rw [gjson_parseQuery.j8]) (Ev.neg Bool.false_ne_true (Ev.pos h (Ev.neg h2 e)))
  have j9f : ∀ {r : R7} {b : Bool}, 0 < (x.size : Int) → 1 < (x.size : Int) → bt x 0 = 60 → (bt x 1 == 61) = b → Ev (fun k => gjson_parseQuery.j10 k name x rest x6 false 0 b) r → Ev (fun k => gjson_parseQuery.j9 k name x rest x6 false 0 false) r := fun h h1 h2 h3 e =>
    Ev.step (fun k => by rw [gjson_parseQuery.j9]) (Ev.neg Bool.false_ne_true (Ev.pos h (Ev.pos h2 (Ev.pos h1 (by rw [h3]; exact e)))))
  have j9n : ∀ {r : R7}, 0 < (x.size : Int) → bt x 0 ≠ 60 → Ev (fun k => gjson_parseQuery.j10 k name x rest x6 false 0 false) r → Ev (fun k => gjson_parseQuery.j9 k name x rest x6 false 0 false) r := fun h h2 e =>
    Ev.step (fun k => by rw [gjson_parseQuery.j9]) (Ev.neg Bool.false_ne_true (Ev.pos h (Ev.neg h2 e)))
  have j10n : ∀ {r : R7}, 0 < (x.size : Int) → bt x 0 ≠ 62 → Ev (fun k => gjson_parseQuery.j11 k name x rest x6 false 0 false) r → Ev (fun k => gjson_parseQuery.j10 k name x rest x6 false 0 false) r := fun h h2 e =>
    Ev.step (fun k => by rw [gjson_parseQuery.j10]) (Ev.neg Bool.false_ne_true (Ev.pos h (Ev.neg h2 e)))
  have j10f : ∀ {r : R7} {b : Bool}, 0 < (x.size : Int) → 1 < (x.size : Int) → bt x 0 = 62 → (bt x 1 == 61) = b → Ev (fun k => gjson_parseQuery.j11 k name x rest x6 false 0 b) r → Ev (fun k => gjson_parseQuery.j10 k name x rest x6 false 0 false) r := fun h h1 h2 h3 e =>
    Ev.step (fun k => by rw [gjson_parseQuery.j10]) (Ev.neg Bool.false_ne_true (Ev.pos h (Ev.pos h2 (Ev.pos h1 (by rw [h3]; exact e)))))
  have j11n : ∀ {r : R7}, 0 < (x.size : Int) → bt x 0 ≠ 61 → Ev (fun k => gjson_parseQuery.j12 k name x rest x6 false 0 false) r → Ev (fun k => gjson_parseQuery.j11 k name x rest x6 false 0 false) r := fun h h2 e =>
    Ev.step (fun k => by rw [gjson_parseQuery.j11]) (Ev.neg Bool.false_ne_true (Ev.pos h (Ev.neg h2 e)))
  have take2 : ∀ {a b : UInt8}, sign = ⟨#[a, b]⟩ → Ev (fun k => if (0 : Int) ≤ 2 then (if (2 : Int) ≤ (x.size : Int) then ((gjson_trim.f k (x.extract 2 x.size)).bind fun y => (some (name, x.extract 0 2, y, rest, wrap64 (x6 + 1), false, true))) else (none : Option R7)) else (none : Option R7)) (name, sign, q, rest, x6 + 1, false, true) := by
    intro a b h
    obtain ⟨h1, _, _, h4, h5⟩ := two a b h
    rw [h4, h5, hw]
    exact Ev.pos (by omega) (Ev.pos (by omega) (Ev.bind tq (Ev.now _)))
  have take1 : ∀ {a : UInt8}, sign = ⟨#[a]⟩ → Ev (fun k => if (0 : Int) ≤ 1 then (if (1 : Int) ≤ (x.size : Int) then ((gjson_trim.f k (x.extract 1 x.size)).bind fun y => (some (name, x.extract 0 1, y, rest, wrap64 (x6 + 1), false, true))) else (none : Option R7)) else (none : Option R7)) (name, sign, q, rest, x6 + 1, false, true) := by
    intro a h
    obtain ⟨h1, _, _, h4, h5⟩ := one a h
    rw [h4, h5, hw]
    exact Ev.pos (by omega) (Ev.pos (by omega) (Ev.bind tq (Ev.now _)))
  cases ho with
  | ne =>
    obtain ⟨h1, h2, h3, h4, h5⟩ := two 33 61 rfl
    have h2' : bt x 0 = 33 := h2
    have h3' : (bt x 1 == 61) = true := by rw [h3]; rfl
    refine ⟨by omega, by omega, by omega, by omega, Ev.pos h2' (Ev.pos (by omega) ?_)⟩
    rw [h3']
    refine Ev.step (fun k => by rw [gjson_parseQuery.j8]) ?_
    exact Ev.pos rfl (take2 rfl)
  | le =>
    obtain ⟨h1, h2, h3, h4, h5⟩ := two 60 61 rfl
    have h2' : bt x 0 = 60 := h2
    have h3' : (bt x 1 == 61) = true := by rw [h3]; rfl
    refine ⟨by omega, by omega, by omega, by omega, Ev.neg (by omega) (j8f (f := fun _ => none) (by omega) (by omega) (j9f (by omega) (by omega) h2' h3' ?_))⟩
    refine Ev.step (fun k => by rw [gjson_parseQuery.j10]) ?_
    exact Ev.pos rfl (take2 rfl)
  | ge =>
    obtain ⟨h1, h2, h3, h4, h5⟩ := two 62 61 rfl
    have h2' : bt x 0 = 62 := h2
    have h3' : (bt x 1 == 61) = true := by rw [h3]; rfl
    refine ⟨by omega, by omega, by omega, by omega, Ev.neg (by omega) (j8f (f := fun _ => none) (by omega) (by omega) (j9n (by omega) (by omega) (j10f (by omega) (by omega) h2' h3' ?_)))⟩
    refine Ev.step (fun k => by rw [gjson_parseQuery.j11]) ?_
    exact Ev.pos rfl (take2 rfl)
  | lt =>
    obtain ⟨h1, h2, h3, h4, h5⟩ := one 60 rfl
    have h2' : bt x 0 = 60 := h2
    have h3' : (bt x 1 == 61) = false := by rw [h3]; rfl
    refine ⟨by omega, by omega, by omega, by omega, Ev.neg (by omega) (j8f (f := fun _ => none) (by omega) (by omega) (j9f (by omega) (by omega) h2' h3' (j10n (by omega) (by omega) (j11n (by omega) (by omega) ?_))))⟩
    refine Ev.step (fun k => by rw [gjson_parseQuery.j12]) ?_
    exact Ev.neg Bool.false_ne_true (Ev.pos (by omega) (Ev.pos h2' (take1 rfl)))
  | gt =>
    obtain ⟨h1, h2, h3, h4, h5⟩ := one 62 rfl
    have h2' : bt x 0 = 62 := h2
    have h3' : (bt x 1 == 61) = false := by rw [h3]; rfl
    refine ⟨by omega, by omega, by omega, by omega, Ev.neg (by omega) (j8f (f := fun _ => none) (by omega) (by omega) (j9n (by omega) (by omega) (j10f (by omega) (by omega) h2' h3' (j11n (by omega) (by omega) ?_))))⟩
    refine Ev.step (fun k => by rw [gjson_parseQuery.j12]) ?_
    exact Ev.neg Bool.false_ne_true (Ev.pos (by omega) (Ev.neg (by omega) (Ev.pos h2' (take1 rfl))))
  | eq =>
    obtain ⟨h1, h2, h3, h4, h5⟩ := two 61 61 rfl
    have h2' : bt x 0 = 61 := h2
    have h3' : (bt x 1 == 61) = true := by rw [h3]; rfl
    have hx : x = (⟨#[61]⟩ : ByteArray) ++ ((⟨#[61]⟩ : ByteArray) ++ q) := by
      rw [← ByteArray.append_assoc]; rfl
    have hy : x.extract 1 x.size = (⟨#[61]⟩ : ByteArray) ++ q := by rw [hx]; exact ext_r (⟨#[61]⟩ : ByteArray) _
    refine ⟨by omega, by omega, by omega, by omega, Ev.neg (by omega) (j8f (f := fun _ => none) (by omega) (by omega) (j9n (by omega) (by omega) (j10n (by omega) (by omega) ?_)))⟩
    refine Ev.step (fun k => by rw [gjson_parseQuery.j11]) ?_
    refine Ev.neg Bool.false_ne_true (Ev.pos (by omega) (Ev.pos h2' (Ev.pos (by omega) ?_)))
    rw [h3']
    refine Ev.step (fun k => by rw [gjson_parseQuery.j12]) ?_
    refine Ev.pos rfl (Ev.pos (by omega) (Ev.pos (by omega) ?_))
    rw [hy, hw]
    have e1 : ((⟨#[61]⟩ : ByteArray) ++ q).extract 0 1 = ⟨#[61]⟩ := ext_l (⟨#[61]⟩ : ByteArray) q
    have e2 : ((⟨#[61]⟩ : ByteArray) ++ q).extract 1 ((⟨#[61]⟩ : ByteArray) ++ q).size = q := ext_r (⟨#[61]⟩ : ByteArray) q
    rw [e1, e2]
    exact Ev.pos (by rw [ByteArray.size_append]; show (1 : Int) ≤ ((1 + q.size : Nat) : Int); omega) (Ev.bind tq (Ev.now _))

/-! ### the whole query -/
theorem op_size {sign op : ByteArray} (h : IsOp sign op) : sign.size = 1 ∨ (sign.size = 2 ∧ bt sign 1 = 61) := by
  cases h
  · exact .inr ⟨rfl, rfl⟩
  · exact .inr ⟨rfl, rfl⟩
  · exact .inl rfl
  · exact .inr ⟨rfl, rfl⟩
  · exact .inl rfl
  · exact .inr ⟨rfl, rfl⟩
theorem op_first {sign op : ByteArray} (h : IsOp sign op) : OpCh (bt sign 0) := by
  unfold OpCh
  cases h
  · exact .inr (.inl rfl)
  · exact .inl rfl
  · exact .inr (.inr (.inl rfl))
  · exact .inr (.inr (.inr (.inl rfl)))
  · exact .inr (.inr (.inr (.inl rfl)))
  · exact .inr (.inr (.inl rfl))
/-- The bytes of a query: a name, an operator, a text in quotation marks, and something behind the parenthesis. -/
structure Qy (t name sign q more : ByteArray) (n s v m : Nat) : Prop where
  zn : name.size = n
  zs : sign.size = s
  zq : q.size = v + 2
  zm : more.size = m
  zt : t.size = 2 + n + s + v + 3 + m
  t0 : bt t 0 = 35
  t1 : bt t 1 = 40
  tn : ∀ p : Int, 2 ≤ p → p < 2 + n → WordCh (bt t p)
  ts : ∀ p : Int, 0 ≤ p → p < s → bt t (2 + n + p) = bt sign p
  tq : ∀ p : Int, 0 ≤ p → p < v + 2 → bt t (2 + n + s + p) = bt q p
  tc : bt t (2 + n + s + v + 2) = 41
  x1 : t.extract 2 (2 + n) = name
  x2 : t.extract (2 + n) (2 + n + s + v + 2) = sign ++ q
  x3 : t.extract (2 + n + s + v + 3) t.size = more
set_option maxHeartbeats 4000000 in
theorem qy_is (name sign q more : ByteArray) (v : Nat) (qsz : q.size = v + 2) (hname : ∀ p : Int, 0 ≤ p → p < name.size → WordCh (bt name p)) :
    Qy (((((⟨#[35, 40]⟩ : ByteArray) ++ name) ++ sign) ++ q) ++ (⟨#[41]⟩ : ByteArray) ++ more) name sign q more name.size sign.size v more.size := by
  obtain ⟨a0, ha0⟩ : ∃ a, (⟨#[35, 40]⟩ : ByteArray) = a := ⟨_, rfl⟩
  have s0 : a0.size = 2 := by rw [← ha0]; rfl
  obtain ⟨cl, hcl⟩ : ∃ a, (⟨#[41]⟩ : ByteArray) = a := ⟨_, rfl⟩
  have scl : cl.size = 1 := by rw [← hcl]; rfl
  have z1 : (a0 ++ name).size = 2 + name.size := by rw [ByteArray.size_append, s0]
  have z2 : (a0 ++ name ++ sign).size = 2 + name.size + sign.size := by rw [ByteArray.size_append, z1]
  have z3 : (a0 ++ name ++ sign ++ q).size = 2 + name.size + sign.size + v + 2 := by rw [ByteArray.size_append, z2, qsz]; omega
  have z4 : (a0 ++ name ++ sign ++ q ++ cl).size = 2 + name.size + sign.size + v + 3 := by rw [ByteArray.size_append, z3, scl]
  rw [ha0, hcl]
  obtain ⟨t, ht⟩ : ∃ t, a0 ++ name ++ sign ++ q ++ cl ++ more = t := ⟨_, rfl⟩
  have zt : t.size = 2 + name.size + sign.size + v + 3 + more.size := by rw [← ht, ByteArray.size_append, z4]
  -- bytes
  have b4 : ∀ p : Int, 0 ≤ p → p < (a0 ++ name ++ sign ++ q ++ cl).size → bt t p = bt (a0 ++ name ++ sign ++ q ++ cl) p := fun p h1 h2 => by rw [← ht, bt_l _ _ _ h1 h2]
  have b3 : ∀ p : Int, 0 ≤ p → p < (a0 ++ name ++ sign ++ q).size → bt t p = bt (a0 ++ name ++ sign ++ q) p := fun p h1 h2 => by rw [b4 p h1 (by omega), bt_l _ _ _ h1 h2]
  have b2 : ∀ p : Int, 0 ≤ p → p < (a0 ++ name ++ sign).size → bt t p = bt (a0 ++ name ++ sign) p := fun p h1 h2 => by rw [b3 p h1 (by omega), bt_l _ _ _ h1 h2]
  have b1 : ∀ p : Int, 0 ≤ p → p < (a0 ++ name).size → bt t p = bt (a0 ++ name) p := fun p h1 h2 => by rw [b2 p h1 (by omega), bt_l _ _ _ h1 h2]
  have t0 : bt t 0 = 35 := by rw [b1 0 (by omega) (by omega), bt_l _ _ _ (by omega) (by omega), ← ha0]; rfl
  have t1 : bt t 1 = 40 := by rw [b1 1 (by omega) (by omega), bt_l _ _ _ (by omega) (by omega), ← ha0]; rfl
  have tn : ∀ p : Int, 2 ≤ p → p < 2 + name.size → WordCh (bt t p) := by
    intro p h1 h2
    rw [b1 p (by omega) (by omega)]
    have := bt_r a0 name (p - 2) (by omega) (by omega)
    rw [s0, show ((2 : Nat) : Int) + (p - 2) = p by omega] at this
    rw [this]
    exact hname _ (by omega) (by omega)
  have ts : ∀ p : Int, 0 ≤ p → p < sign.size → bt t (2 + name.size + p) = bt sign p := by
    intro p h1 h2
    rw [b2 _ (by omega) (by omega)]
    have := bt_r (a0 ++ name) sign p h1 h2
    rwa [z1, show ((2 + name.size : Nat) : Int) + p = 2 + name.size + p by omega] at this
  have tq : ∀ p : Int, 0 ≤ p → p < q.size → bt t (2 + name.size + sign.size + p) = bt q p := by
    intro p h1 h2
    rw [b3 _ (by omega) (by omega)]
    have := bt_r (a0 ++ name ++ sign) q p h1 h2
    rwa [z2, show ((2 + name.size + sign.size : Nat) : Int) + p = 2 + name.size + sign.size + p by omega] at this
  have tc : bt t (2 + name.size + sign.size + v + 2) = 41 := by
    rw [b4 _ (by omega) (by omega)]
    have := bt_r (a0 ++ name ++ sign ++ q) cl 0 (by omega) (by omega)
    rw [z3, show ((2 + name.size + sign.size + v + 2 : Nat) : Int) + 0 = 2 + name.size + sign.size + v + 2 by omega] at this
    rw [this, ← hcl]; rfl
  -- pieces
  have x1 : t.extract 2 (2 + name.size) = name := by
    have h : t = a0 ++ name ++ (sign ++ (q ++ (cl ++ more))) := by rw [← ht]; simp only [ByteArray.append_assoc]
    have := ext_m a0 name (sign ++ (q ++ (cl ++ more)))
    rwa [← h, s0] at this
  have x2 : t.extract (2 + name.size) (2 + name.size + sign.size + v + 2) = sign ++ q := by
    have h : t = (a0 ++ name) ++ (sign ++ q) ++ (cl ++ more) := by rw [← ht]; simp only [ByteArray.append_assoc]
    have := ext_m (a0 ++ name) (sign ++ q) (cl ++ more)
    rwa [← h, z1, ByteArray.size_append, qsz, show 2 + name.size + (sign.size + (v + 2)) = 2 + name.size + sign.size + v + 2 by omega] at this
  have x3 : t.extract (2 + name.size + sign.size + v + 3) t.size = more := by
    have := ext_r (a0 ++ name ++ sign ++ q ++ cl) more
    rwa [ht, z4] at this
  rw [ht]
  exact ⟨rfl, rfl, qsz, rfl, zt, t0, t1, tn, ts, (fun p h1 h2 => tq p h1 (by omega)), tc, x1, x2, x3⟩
section
variable {t name sign op q more : ByteArray} {n s v m : Nat}
theorem e7_ev (Q : Qy t name sign q more n s v m) (hb : n + s + v + m ≤ 50000) (hn : 0 < n) (ho : Ev (fun k => if bt (sign ++ q) 0 = 33 then (if 1 < ((sign ++ q).size : Int) then gjson_parseQuery.j8 k name (sign ++ q) more ((2 + n + s + v + 2 : Nat) : Int) false 0 (bt (sign ++ q) 1 == 61) else none) else gjson_parseQuery.j8 k name (sign ++ q) more ((2 + n + s + v + 2 : Nat) : Int) false 0 false) (name, op, q, more, ((2 + n + s + v + 2 : Nat) : Int) + 1, false, true))
    (h0 : 0 < ((sign ++ q).size : Int)) (h1 : ((sign ++ q).size : Int) ≠ 1) (tr1 : Ev (fun k => gjson_trim.f k name) name) (tr2 : Ev (fun k => gjson_trim.f k (sign ++ q)) (sign ++ q)) :
    Ev (fun k => gjson_parseQuery.j7 k t eb eb ((2 + n + s + v + 2 : Nat) : Int) false ((2 + n : Nat) : Int) 0) (name, op, q, more, ((2 + n + s + v + 3 : Nat) : Int), false, true) := by
  have hw : wrap64 (((2 + n + s + v + 2 : Nat) : Int) + 1) = ((2 + n + s + v + 3 : Nat) : Int) := by rw [w64 (by omega) (by omega)]; omega
  have zt := Q.zt
  refine Ev.step (fun k => by rw [gjson_parseQuery.j7]) ?_
  rw [hw, Int.toNat_natCast, Int.toNat_natCast, Int.toNat_natCast, Q.x1, Q.x2, Q.x3]
  refine Ev.neg (by omega) (Ev.pos (by omega) (Ev.pos (by omega) (Ev.pos (by omega) ?_)))
  refine Ev.bind tr1 ?_
  refine Ev.pos (by omega) (Ev.pos (by omega) (Ev.pos (by omega) ?_))
  refine Ev.bind tr2 ?_
  refine Ev.pos (by omega) (Ev.pos (by omega) (Ev.neg h1 (Ev.pos h0 ?_)))
  have e : ((2 + n + s + v + 2 : Nat) : Int) + 1 = ((2 + n + s + v + 3 : Nat) : Int) := by omega
  rw [e] at ho
  exact ho
theorem en_ev (Q : Qy t name sign q more n s v m) (hb : n + s + v + m ≤ 50000) (hn : 0 < n) (gs : s = 1 ∨ (s = 2 ∧ bt sign 1 = 61)) (go : OpCh (bt sign 0)) (q0 : bt q 0 = 34) (ql : bt q (v + 1) = 34) (qm : ∀ p : Int, 1 ≤ p → p < 1 + v → bt q p ≠ 34 ∧ bt q p ≠ 92) {r : R7}
    (e7 : Ev (fun k => gjson_parseQuery.j7 k t eb eb ((2 + n + s + v + 2 : Nat) : Int) false ((2 + n : Nat) : Int) 0) r) : Ev (fun k => gjson_parseQuery.l0 k t eb eb 2 false 0 1) r := by
  have zt := Q.zt
  have hs : (t.size : Int) ≤ 100000 := by omega
  have ec := l0_close (x7 := false) (x9 := ((2 + n : Nat) : Int)) hs (i := ((2 + n + s + v + 2 : Nat) : Int)) (by omega) (by omega) (by omega) (by rw [← Q.tc]; congr 1) e7
  have el1 := l1_run (x7 := false) (x9 := ((2 + n : Nat) : Int)) hs (e' := ((2 + n + s + v + 1 : Nat) : Int)) (by omega) (by
      have := Q.tq (v + 1) (by omega) (by omega)
      rw [ql] at this
      rw [← this]; congr 1) (by rw [show ((2 + n + s + v + 1 : Nat) : Int) + 1 = ((2 + n + s + v + 2 : Nat) : Int) by omega]; exact ec) v ((2 + n + s + 1 : Nat) : Int) (by omega) (by omega) (by omega) (by
      intro p h1 h2
      have h3 := Q.tq (p - (2 + n + s)) (by omega) (by omega)
      rw [show p = 2 + n + s + (p - (2 + n + s)) by omega, h3]
      exact qm _ (by omega) (by omega))
  have eq1 := l0_quote (x7 := false) (x9 := ((2 + n : Nat) : Int)) hs (i := ((2 + n + s : Nat) : Int)) (by omega) (by omega) (by omega) (by
      have := Q.tq 0 (by omega) (by omega)
      rw [q0] at this
      rw [← this]; congr 1) (by rw [show ((2 + n + s : Nat) : Int) + 1 = ((2 + n + s + 1 : Nat) : Int) by omega]; exact el1)
  have es : Ev (fun k => gjson_parseQuery.l0 k t eb eb (((2 + n : Nat) : Int) + 1) false ((2 + n : Nat) : Int) 1) r := by
    rcases gs with g | ⟨g, gb⟩
    · rw [show ((2 + n : Nat) : Int) + 1 = ((2 + n + s : Nat) : Int) by omega]
      exact eq1
    · have hb : bt t (((2 + n : Nat) : Int) + 1) = 61 := by
        have := Q.ts 1 (by omega) (by omega)
        rw [gb] at this
        rw [← this]; congr 1
      refine l0_plain hs (by omega) (by omega) (.inl (by omega)) (by omega) ?_
      rw [show ((2 + n : Nat) : Int) + 1 + 1 = ((2 + n + s : Nat) : Int) by omega]
      exact eq1
  have eo := l0_op (x7 := false) hs (i := ((2 + n : Nat) : Int)) (by omega) (by omega) (by
      have := Q.ts 0 (by omega) (by omega)
      have h2 : bt t ((2 + n : Nat) : Int) = bt sign 0 := by rw [← this]; congr 1
      rw [h2]; exact go) es
  exact l0_name (x7 := false) hs (e' := ((2 + n : Nat) : Int)) (by omega) eo n 2 (by omega) (by omega) (by omega) (fun p h1 h2 => Q.tn p h1 (by omega))
end
theorem parse_ev (name sign op val more : ByteArray) (ho : IsOp sign op) (hsz : (name.size : Int) + val.size + more.size ≤ 4096) (hn : 0 < name.size) (hname : ∀ q : Int, 0 ≤ q → q < name.size → WordCh (bt name q)) (hval : ∀ q : Int, 0 ≤ q → q < val.size → bt val q ≠ 34 ∧ bt val q ≠ 92) :
    Ev (fun k => gjson_parseQuery.f k ((((((⟨#[35, 40]⟩ : ByteArray) ++ name) ++ sign) ++ (((⟨#[34]⟩ : ByteArray) ++ val) ++ (⟨#[34]⟩ : ByteArray))) ++ (⟨#[41]⟩ : ByteArray)) ++ more))
      (name, op, ((⟨#[34]⟩ : ByteArray) ++ val) ++ (⟨#[34]⟩ : ByteArray), more, ((((((⟨#[35, 40]⟩ : ByteArray) ++ name) ++ sign) ++ (((⟨#[34]⟩ : ByteArray) ++ val) ++ (⟨#[34]⟩ : ByteArray))) ++ (⟨#[41]⟩ : ByteArray)).size : Int), false, true) := by
  obtain ⟨q, hq⟩ : ∃ q, ((⟨#[34]⟩ : ByteArray) ++ val) ++ (⟨#[34]⟩ : ByteArray) = q := ⟨_, rfl⟩
  have qsz : q.size = val.size + 2 := by rw [← hq]; exact q_size val
  have q0 : bt q 0 = 34 := by rw [← hq]; exact q_bt0 val
  have ql : bt q (val.size + 1) = 34 := by
    have := q_last val
    rw [hq, qsz] at this
    rwa [show ((val.size + 2 : Nat) : Int) - 1 = val.size + 1 by omega] at this
  have qm : ∀ p : Int, 1 ≤ p → p < 1 + val.size → bt q p = bt val (p - 1) := by
    intro p h1 h2
    rw [← hq, bt_l _ _ _ (by omega) (by rw [ByteArray.size_append]; show p < ((1 + val.size : Nat) : Int); omega)]
    have := bt_r (⟨#[34]⟩ : ByteArray) val (p - 1) (by omega) (by omega)
    rwa [show (((⟨#[34]⟩ : ByteArray).size : Nat) : Int) + (p - 1) = p by show (1 : Int) + (p - 1) = p; omega] at this
  have gs := op_size ho
  have gf := op_first ho
  have Q := qy_is name sign q more val.size qsz hname
  have so := split_op sign op val more name ((2 + name.size + sign.size + val.size + 2 : Nat) : Int) (by omega) (by omega) ho
  simp only [hq] at so
  obtain ⟨so0, so1, so2, so3, so4⟩ := so
  rw [hq]
  have z4 : (((((⟨#[35, 40]⟩ : ByteArray) ++ name) ++ sign) ++ q) ++ (⟨#[41]⟩ : ByteArray)).size = 2 + name.size + sign.size + val.size + 3 := by
    rw [ByteArray.size_append, ByteArray.size_append, ByteArray.size_append, ByteArray.size_append, qsz]
    show 2 + name.size + sign.size + (val.size + 2) + 1 = _
    omega
  rw [z4]
  obtain ⟨t, ht⟩ : ∃ t, (((((⟨#[35, 40]⟩ : ByteArray) ++ name) ++ sign) ++ q) ++ (⟨#[41]⟩ : ByteArray) ++ more) = t := ⟨_, rfl⟩
  rw [ht] at Q ⊢
  have hss : sign.size ≤ 2 := by rcases gs with h | h <;> omega
  have tr1 : Ev (fun k => gjson_trim.f k name) name := trim_id name (by omega) (by omega) (by have := hname 0 (by omega) (by omega); unfold WordCh at this; omega) (by have := hname (name.size - 1) (by omega) (by omega); unfold WordCh at this; omega)
  have xs : (sign ++ q).size = sign.size + (val.size + 2) := by rw [ByteArray.size_append, qsz]
  have tr2 : Ev (fun k => gjson_trim.f k (sign ++ q)) (sign ++ q) := by
    refine trim_id _ (by omega) so0 so3 ?_
    have h1 : ((sign ++ q).size : Int) - 1 = sign.size + (val.size + 1) := by omega
    rw [h1, bt_r _ _ _ (by omega) (by omega), ql]
    omega
  have e7 := e7_ev Q (by omega) hn so4 so0 so1 tr1 tr2
  have en := en_ev Q (by omega) hn gs gf q0 ql (fun p h1 h2 => by rw [qm p h1 h2]; exact hval _ (by omega) (by omega)) e7
  have zt := Q.zt
  unfold gjson_parseQuery.f
  refine Ev.neg (by omega) (Ev.pos (by omega) (Ev.pos Q.t0 (Ev.pos (by omega) (Ev.pos Q.t1 ?_))))
  refine Ev.step (fun k => by rw [gjson_parseQuery.j0]) ?_
  exact Ev.neg Bool.false_ne_true en
set_option maxHeartbeats 4000000 in
theorem law_j2 (name val more : ByteArray) (o : Int) (hsz : (name.size : Int) + val.size + more.size ≤ 4096) (hn : 0 < name.size) (hname : ∀ q : Int, 0 ≤ q → q < name.size → WordCh (bt name q)) (hval : ∀ q : Int, 0 ≤ q → q < val.size → bt val q ≠ 34 ∧ bt val q ≠ 92) :
    Ev (fun k => laws_FnGjQueryParts.j2 k name val more o false) true := by
  obtain ⟨s, op, hf, ho⟩ := op_f o
  have hs : s.size ≤ 2 := by rcases op_size ho with h | h; omega; omega
  have l34 : (⟨#[34]⟩ : ByteArray).size = 1 := rfl
  have l41 : (⟨#[41]⟩ : ByteArray).size = 1 := rfl
  have l35 : (⟨#[35, 40]⟩ : ByteArray).size = 2 := rfl
  have e : Ev (fun k => impl_GjQuery.f k ((((((⟨#[35, 40]⟩ : ByteArray) ++ name) ++ s) ++ (((⟨#[34]⟩ : ByteArray) ++ val) ++ (⟨#[34]⟩ : ByteArray))) ++ (⟨#[41]⟩ : ByteArray)) ++ more)) (name, op, ((⟨#[34]⟩ : ByteArray) ++ val) ++ (⟨#[34]⟩ : ByteArray), more, ((((((⟨#[35, 40]⟩ : ByteArray) ++ name) ++ s) ++ (((⟨#[34]⟩ : ByteArray) ++ val) ++ (⟨#[34]⟩ : ByteArray))) ++ (⟨#[41]⟩ : ByteArray)).size : Int), false, true) := by
    unfold impl_GjQuery.f gjson_DoorQuery.f
    exact Ev.bind (Ev.bind (parse_ev name s op val more ho hsz hn hname hval) (Ev.now _)) (Ev.now _)
  refine Ev.step (fun k => by rw [laws_FnGjQueryParts.j2]) ?_
  refine Ev.neg Bool.false_ne_true (Ev.bd hf ?_)
  refine Ev.pos (by omega) (Ev.pos (by simp only [ByteArray.size_append, l34]; omega) (Ev.pos (by omega) (Ev.pos (by simp only [ByteArray.size_append, l35]; omega) (Ev.pos (by simp only [ByteArray.size_append, l35, l34]; omega) (Ev.pos (by simp only [ByteArray.size_append, l35, l34]; omega) (Ev.pos (by simp only [ByteArray.size_append, l35, l34, l41]; omega) (Ev.bind e ?_)))))))
  have same : s.toList ≠ ([61, 61] : List UInt8) → op = s := by
    intro h
    cases ho with
    | eq => exact absurd (by rw [ByteArray.toList_eq]) h
    | ne => rfl
    | lt => rfl
    | ge => rfl
    | gt => rfl
    | le => rfl
  by_cases c : s.toList = ([61, 61] : List UInt8)
  · have h1 : op.toList = ([61] : List UInt8) := by
      rw [ByteArray.toList_eq] at c
      cases ho with
      | eq => rw [ByteArray.toList_eq]
      | ne => exact absurd c (by decide)
      | lt => exact absurd c (by decide)
      | ge => exact absurd c (by decide)
      | gt => exact absurd c (by decide)
      | le => exact absurd c (by decide)
    exact Ev.pos c (Ev.pos rfl (Ev.pos rfl (Ev.pos h1 (Ev.pos rfl (Ev.pos rfl (Ev.pos rfl (Ev.now _)))))))
  · exact Ev.neg c (Ev.pos rfl (Ev.pos rfl (Ev.pos (by rw [same c]) (Ev.pos rfl (Ev.pos rfl (Ev.pos rfl (Ev.now _)))))))
theorem law_l0 (name val more : ByteArray) (o : Int) (h1 : (name.size : Int) ≤ 2147483647) (h2 : (val.size : Int) ≤ 2147483647) (h3 : (more.size : Int) ≤ 2147483647) (d : Nat) : ∀ i : Int, 0 ≤ i → i ≤ val.size → val.size - i ≤ d → (∀ q : Int, 0 ≤ q → q < i → bt val q ≠ 34 ∧ bt val q ≠ 92) →
    Ev (fun k => laws_FnGjQueryParts.l0 k name val more o i) true := by
  have yes : Ev (fun k => laws_FnGjQueryParts.j2 k name val more o true) true := Ev.step (fun k => by rw [laws_FnGjQueryParts.j2]) (Ev.pos rfl (Ev.now _))
  have fin : ∀ i : Int, val.size ≤ i → (∀ q : Int, 0 ≤ q → q < val.size → bt val q ≠ 34 ∧ bt val q ≠ 92) → Ev (fun k => laws_FnGjQueryParts.l0 k name val more o i) true := by
    intro i hi hv
    obtain ⟨b, e, hb⟩ := word_ev name h1 name.size 0 (by omega) (by omega) (by omega)
    have ef : Ev (fun k => laws_gjWord.f k name) b := e
    refine Ev.step (fun k => by rw [laws_FnGjQueryParts.l0]) ?_
    refine Ev.neg (by omega) (Ev.bind ef ?_)
    cases b with
    | false => exact Ev.neg Bool.false_ne_true yes
    | true =>
      refine Ev.pos rfl ?_
      rw [w64 (x := (name.size : Int) + val.size) (by omega) (by omega), w64 (by omega) (by omega)]
      by_cases c : (name.size : Int) + val.size + more.size > 4096
      · rw [decide_eq_true c]; exact yes
      · rw [decide_eq_false c]
        have hb2 := hb rfl
        refine law_j2 name val more o (by omega) ?_ hb2.2 hv
        have := hb2.1
        rw [ByteArray.toList_eq] at this
        by_cases hz : name.size = 0
        · exfalso
          apply this
          apply List.eq_nil_of_length_eq_zero
          simpa using hz
        · omega
  induction d with
  | zero => intro i h4 h5 hd hq; exact fin i (by omega) (fun q a b => hq q a (by omega))
  | succ d ih =>
    intro i h4 h5 hd hq
    by_cases hi : i < val.size
    · refine Ev.step (fun k => by rw [laws_FnGjQueryParts.l0]) ?_
      refine Ev.pos hi (Ev.pos h4 ?_)
      by_cases c1 : bt val i = 34
      · exact Ev.pos c1 (Ev.now _)
      by_cases c2 : bt val i = 92
      · exact Ev.neg c1 (Ev.pos c2 (Ev.now _))
      refine Ev.neg c1 (Ev.neg c2 ?_)
      rw [w64 (by omega) (by omega)]
      refine ih (i + 1) (by omega) (by omega) (by omega) (fun q a b => ?_)
      by_cases e : q = i
      · rw [e]; exact ⟨c1, c2⟩
      · exact hq q a (by omega)
    · exact fin i (by omega) (fun q a b => hq q a (by omega))
theorem FnGjQueryParts : laws_FnGjQueryParts.Pure := by
  intro name val more o _ _ _ _
  refine Ev.rounds (r := true) (g := fun k => laws_FnGjQueryParts.f k name val more o) ?_
  unfold laws_FnGjQueryParts.f
  have fall : Ev (fun k => laws_FnGjQueryParts.j0 k name val more o true) true := Ev.step (fun k => by rw [laws_FnGjQueryParts.j0]) (Ev.pos rfl (Ev.now _))
  by_cases c1 : (name.size : Int) > 2147483647
  · exact Ev.pos c1 fall
  by_cases c2 : (val.size : Int) > 2147483647
  · exact Ev.neg c1 (Ev.pos c2 fall)
  refine Ev.neg c1 (Ev.neg c2 ?_)
  by_cases c3 : (more.size : Int) > 2147483647
  · rw [decide_eq_true c3]; exact fall
  rw [decide_eq_false c3]
  refine Ev.step (fun k => by rw [laws_FnGjQueryParts.j0]) ?_
  refine Ev.neg Bool.false_ne_true ?_
  exact law_l0 name val more o (by omega) (by omega) (by omega) val.size 0 (by omega) (by omega) (by omega) (fun q a b => by omega)
end Go.Proofs.Ytnmbpleneddkhaa.Pure
