/- The grammar of JSON texts by places: blanks, strings, numbers, words. -/
import Derived.Test.YtdhiihegfdmokaaDoorPFnFjCheckObjectx
namespace Go.Proofs.YtdhiihegfdmokaaDoor.JFnFjCheckObject
open Go.RowKit Go.Proofs.YtdhiihegfdmokaaDoor.PFnFjCheckObject Go.Proofs.YtdhiihegfdmokaaDoorW.PrintWords Go.Proofs.YtdhiihegfdmokaaDoorW.PrintLast Go.Proofs.YtdhiihegfdmokaaDoorW.PrintMore

theorem w64 {x : Int} (h0 : -9223372036854775808 ≤ x) (h1 : x ≤ 9223372036854775807) : wrap64 x = x := by
  unfold wrap64; omega
theorem Ev.pos {α : Type} {c : Prop} [Decidable c] {f g : Nat → Option α} {r : α} (h : c) (e : Ev f r) : Ev (fun k => if c then f k else g k) r :=
  Ev.congr (fun _ => if_pos h) e
theorem Ev.neg {α : Type} {c : Prop} [Decidable c] {f g : Nat → Option α} {r : α} (h : ¬ c) (e : Ev g r) : Ev (fun k => if c then f k else g k) r :=
  Ev.congr (fun _ => if_neg h) e
theorem Ev.bd {α β : Type} {g : Option α} {f : Nat → α → Option β} {a : α} {r : β} (h : g = some a) (k : Ev (fun n => f n a) r) : Ev (fun n => g.bind (f n)) r :=
  Ev.congr (fun n => by rw [h]; rfl) k
theorem Ev.eq {α : Type} {f : Nat → Option α} {a b : α} (h : a = b) (e : Ev f a) : Ev f b := h ▸ e

def IsBl (c : Int) : Prop := c = 32 ∨ c = 9 ∨ c = 10 ∨ c = 13
instance (c : Int) : Decidable (IsBl c) := by unfold IsBl; infer_instance
structure Blk (s : ByteArray) (i j : Int) : Prop where
  le : i ≤ j
  hi : j ≤ s.size
  all : ∀ q, i ≤ q → q < j → IsBl (bt s q)
  stop : j = s.size ∨ ¬ IsBl (bt s j)
def hr (s : ByteArray) (i : Int) : Int := if i < (s.size : Int) then bt s i else 0
theorem hr_lt {s : ByteArray} {i : Int} (h : i < (s.size : Int)) : hr s i = bt s i := if_pos h
theorem hr_ge {s : ByteArray} {i : Int} (h : (s.size : Int) ≤ i) : hr s i = 0 := if_neg (by omega)
theorem hr_ne {s : ByteArray} {i : Int} (h : hr s i ≠ 0) : i < (s.size : Int) ∧ hr s i = bt s i := by
  by_cases hh : i < (s.size : Int)
  · exact ⟨hh, hr_lt hh⟩
  · exact absurd (hr_ge (by omega)) h
def IsHex (c : Int) : Prop := (48 ≤ c ∧ c ≤ 57) ∨ (97 ≤ c ∧ c ≤ 102) ∨ (65 ≤ c ∧ c ≤ 70)
instance (c : Int) : Decidable (IsHex c) := by unfold IsHex; infer_instance
def IsEsc (c : Int) : Prop := c = 34 ∨ c = 92 ∨ c = 47 ∨ c = 98 ∨ c = 102 ∨ c = 110 ∨ c = 114 ∨ c = 116
instance (c : Int) : Decidable (IsEsc c) := by unfold IsEsc; infer_instance
/-- From inside a string to behind its closing quotation mark. -/
inductive StrT (s : ByteArray) : Int → Int → Prop
  | done {i : Int} (h : i < s.size) (c : bt s i = 34) : StrT s i (i + 1)
  | char {i j : Int} (h : i < s.size) (c1 : bt s i ≠ 34) (c2 : bt s i ≠ 92) (c3 : 32 ≤ bt s i) (t : StrT s (i + 1) j) : StrT s i j
  | esc {i j : Int} (h : i + 1 < s.size) (c : bt s i = 92) (c2 : IsEsc (bt s (i + 1))) (t : StrT s (i + 2) j) : StrT s i j
  | uni {i j : Int} (h : i + 5 < s.size) (c : bt s i = 92) (c2 : bt s (i + 1) = 117) (c3 : ∀ q, i + 2 ≤ q → q < i + 6 → IsHex (bt s q)) (t : StrT s (i + 6) j) : StrT s i j
structure Digs (s : ByteArray) (a b : Int) : Prop where
  lt : a < b
  hi : b ≤ s.size
  all : ∀ q, a ≤ q → q < b → 48 ≤ bt s q ∧ bt s q ≤ 57
  stop : b = s.size ∨ ¬ (48 ≤ bt s b ∧ bt s b ≤ 57)
/-- The parts of a number: behind the sign, behind the whole part, behind the fraction, behind the power. -/
structure Num (s : ByteArray) (i j : Int) : Prop where
  out : ∃ a b c : Int, ((a = i ∧ hr s i ≠ 45) ∨ (bt s i = 45 ∧ a = i + 1)) ∧ ((a < s.size ∧ bt s a = 48 ∧ b = a + 1) ∨ (hr s a ≠ 48 ∧ Digs s a b)) ∧ ((c = b ∧ hr s b ≠ 46) ∨ (bt s b = 46 ∧ Digs s (b + 1) c)) ∧
    ((j = c ∧ hr s c ≠ 101 ∧ hr s c ≠ 69) ∨ ((bt s c = 101 ∨ bt s c = 69) ∧ ((hr s (c + 1) ≠ 43 ∧ hr s (c + 1) ≠ 45 ∧ Digs s (c + 1) j) ∨ ((bt s (c + 1) = 43 ∨ bt s (c + 1) = 45) ∧ Digs s (c + 2) j))))
theorem bt_getD (s : ByteArray) (i : Int) : bt s i = ((s.data.toList.getD i.toNat 0).toNat : Int) := by
  unfold bt
  by_cases h : i.toNat < s.size
  · rw [dif_pos h, List.getD_eq_getElem?_getD, List.getElem?_eq_getElem (by simpa using h)]
    rfl
  · rw [dif_neg h, List.getD_eq_getElem?_getD, List.getElem?_eq_none (by simpa using h)]
    rfl
theorem tl_get {s : ByteArray} {a b : Nat} {w : ByteArray} (h : (s.extract a b).toList = w.toList) (q : Nat) (hq : q < w.size) : s.data.toList.getD (a + q) 0 = w.data.toList.getD q 0 := by
  rw [Lib.extract_toList, ByteArray.toList_eq] at h
  have h2 : (List.take (b - a) (List.drop a s.data.toList)).getD q 0 = w.data.toList.getD q 0 := congrArg (fun l : List UInt8 => l.getD q 0) h
  rw [← h2]
  have hl := congrArg List.length h
  simp only [List.length_take, List.length_drop, Array.length_toList, ByteArray.size_data] at hl
  simp only [List.getD_eq_getElem?_getD]
  rw [List.getElem?_take_of_lt (by omega), List.getElem?_drop]
structure Word (s : ByteArray) (i : Int) (w : ByteArray) : Prop where
  hi : i + w.size ≤ s.size
  eq : (s.extract i.toNat (i + (w.size : Int)).toNat).toList = w.toList
theorem Word.at_ {s w : ByteArray} {i : Int} (h : Word s i w) (h0 : 0 ≤ i) (q : Nat) (hq : q < w.size) : bt s (i + q) = bt w q := by
  rw [bt_getD, bt_getD, show (i + (q : Int)).toNat = i.toNat + q by omega, tl_get h.eq q hq]
  rfl
abbrev wNull : ByteArray := ⟨#[110, 117, 108, 108]⟩
abbrev wFalse : ByteArray := ⟨#[102, 97, 108, 115, 101]⟩
abbrev wTrue : ByteArray := ⟨#[116, 114, 117, 101]⟩

theorem hr_bl {s : ByteArray} {i c : Int} (h : hr s i = c) (hc : c ≠ 0) : i < s.size ∧ bt s i = c := by
  obtain ⟨h1, h2⟩ := hr_ne (s := s) (i := i) (by omega)
  exact ⟨h1, by omega⟩

end Go.Proofs.YtdhiihegfdmokaaDoor.JFnFjCheckObject
