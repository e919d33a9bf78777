/- Characters and their bytes in UTF-8: written, read from either end; no condition beside those that each theorem states. -/
import Derived.Test.YtljmeaemonpkoaaDoorUAFnMtNoCaseSmall
import Derived.Lib.SpaceU
namespace Go.Proofs.YtljmeaemonpkoaaDoor.UFnMtNoCaseSmall
open Go.RowKit Go.Proofs.YtljmeaemonpkoaaDoor.PFnMtNoCaseSmall Go.Proofs.YtljmeaemonpkoaaDoorW.PrintWords Go.Proofs.YtljmeaemonpkoaaDoorW.PrintLast Go.Proofs.YtljmeaemonpkoaaDoorW.PrintMore
set_option linter.unusedSimpArgs false
set_option linter.unusedVariables false

/-! ### bytes out of numbers -/
def By (xs : List Int) : Prop := ∀ x ∈ xs, 0 ≤ x ∧ x < 256
theorem By.app {a b : List Int} (h : By a) (k : By b) : By (a ++ b) := fun x hx => by
  rcases List.mem_append.1 hx with h1 | h1
  · exact h x h1
  · exact k x h1
theorem strApp (x y : List Int) : strOfNums (x ++ y) = strOfNums x ++ strOfNums y := by
  apply ByteArray.ext
  simp [strOfNums]
theorem bt_nums (xs : List Int) (h : By xs) (i : Nat) (hi : i < xs.length) : bt (strOfNums xs) i = xs[i] := by
  unfold bt
  have h1 : (i : Int).toNat < (strOfNums xs).size := by rw [strOfNums_size]; simpa using hi
  rw [dif_pos h1]
  have hx := h xs[i] (List.getElem_mem hi)
  have e : (strOfNums xs)[(i : Int).toNat]'h1 = UInt8.ofNat (xs[i]).toNat := by
    have e2 : (strOfNums xs)[(i : Int).toNat]'h1 = ((xs.map fun n => UInt8.ofNat n.toNat).toArray)[(i : Int).toNat]'(by simpa using hi) := rfl
    rw [e2]
    simp
  rw [e]
  have : (UInt8.ofNat (xs[i]).toNat).toNat = (xs[i]).toNat := by
    rw [UInt8.toNat_ofNat']
    omega
  rw [this]
  omega
theorem bt_num {xs : List Int} (h : By xs) {i : Nat} {z : Int} (hz : xs[i]? = some z) : bt (strOfNums xs) i = z := by
  obtain ⟨hi, e⟩ := List.getElem?_eq_some_iff.1 hz
  rw [bt_nums xs h i hi, e]

/-! ### characters -/
def Vd (c : Int) : Prop := 0 ≤ c ∧ c ≤ 1114111 ∧ ¬ (55296 ≤ c ∧ c ≤ 57343)
def en (c : Int) : List Int :=
  if c < 128 then [c] else if c < 2048 then [192 + c / 64, 128 + c % 64] else if c < 65536 then [224 + c / 4096, 128 + c / 64 % 64, 128 + c % 64]
  else [240 + c / 262144, 128 + c / 4096 % 64, 128 + c / 64 % 64, 128 + c % 64]
def bs (cs : List Int) : ByteArray := strOfNums (cs.flatMap en)
theorem en_by {c : Int} (h : Vd c) : By (en c) := by
  unfold Vd at h
  unfold By en
  intro x
  split
  · simp; omega
  · split
    · simp; omega
    · split
      · simp; omega
      · simp; omega
theorem en_len (c : Int) : 1 ≤ (en c).length ∧ (en c).length ≤ 4 := by
  unfold en
  repeat' split
  all_goals simp
theorem en_ascii {c : Int} (h : c < 128) : en c = [c] := if_pos h
theorem bs_by {cs : List Int} (h : ∀ c ∈ cs, Vd c) : By (cs.flatMap en) := by
  intro x hx
  obtain ⟨c, hc, hx⟩ := List.mem_flatMap.1 hx
  exact en_by (h c hc) x hx
theorem bs_nil : bs [] = ByteArray.empty := rfl
theorem bs_cons (c : Int) (cs : List Int) : bs (c :: cs) = strOfNums (en c) ++ bs cs := by
  unfold bs
  rw [List.flatMap_cons, strApp]
theorem bs_app (a b : List Int) : bs (a ++ b) = bs a ++ bs b := by
  unfold bs
  rw [List.flatMap_append, strApp]
theorem bs_one (c : Int) : bs [c] = strOfNums (en c) := by
  unfold bs; simp
theorem bs_size_cons (c : Int) (cs : List Int) : (bs (c :: cs)).size = (en c).length + (bs cs).size := by
  rw [bs_cons, ByteArray.size_append, strOfNums_size]
theorem bs_size_app (a b : List Int) : (bs (a ++ b)).size = (bs a).size + (bs b).size := by
  rw [bs_app, ByteArray.size_append]
theorem bs_size_one (c : Int) : (bs [c]).size = (en c).length := by rw [bs_one, strOfNums_size]
theorem bs_size_nil : (bs []).size = 0 := rfl
theorem bs_pos {cs : List Int} : 0 < (bs cs).size ↔ cs ≠ [] := by
  cases cs with
  | nil => simp [bs_size_nil]
  | cons c r => have := (en_len c).1; rw [bs_size_cons]; simp; omega
theorem bs_len (cs : List Int) : cs.length ≤ (bs cs).size := by
  induction cs with
  | nil => exact Nat.zero_le _
  | cons c r ih => have := (en_len c).1; rw [bs_size_cons, List.length_cons]; omega
theorem bs_left (a b : List Int) : (bs (a ++ b)).extract 0 (bs a).size = bs a := by
  rw [bs_app]; exact ByteArray.extract_append_eq_left rfl
theorem bs_right (a b : List Int) : (bs (a ++ b)).extract (bs a).size (bs (a ++ b)).size = bs b := by
  rw [bs_app]; exact ByteArray.extract_append_eq_right rfl (by rw [ByteArray.size_append])
theorem bs_tail (c : Int) (cs : List Int) : (bs (c :: cs)).extract (en c).length (bs (c :: cs)).size = bs cs := by
  have := bs_right [c] cs
  rw [bs_size_one] at this
  exact this
/-- A byte of the character that begins a text. -/
theorem bs_head {c : Int} (h : Vd c) (cs : List Int) {i : Nat} {z : Int} (hz : (en c)[i]? = some z) : bt (bs (c :: cs)) i = z := by
  obtain ⟨hi, _⟩ := List.getElem?_eq_some_iff.1 hz
  rw [bs_cons, bt_l _ _ _ (by omega) (by rw [strOfNums_size]; omega)]
  exact bt_num (en_by h) hz
theorem bs_last {c : Int} (h : Vd c) (cs : List Int) {i : Nat} {z : Int} (hz : (en c)[i]? = some z) : bt (bs (cs ++ [c])) ((bs cs).size + i) = z := by
  obtain ⟨hi, _⟩ := List.getElem?_eq_some_iff.1 hz
  rw [bs_app, bt_r _ _ _ (by omega) (by rw [bs_size_one]; omega), bs_one]
  exact bt_num (en_by h) hz
theorem head_ascii {c : Int} (h : Vd c) (cs : List Int) (ha : c < 128) : bt (bs (c :: cs)) 0 = c :=
  bs_head h cs (i := 0) (by rw [en_ascii ha]; rfl)
theorem head_high {c : Int} (h : Vd c) (cs : List Int) (ha : ¬ c < 128) : 128 ≤ bt (bs (c :: cs)) 0 := by
  unfold Vd at h
  have hen : ∃ z, (en c)[0]? = some z ∧ 128 ≤ z := by
    unfold en
    rw [if_neg ha]
    split
    · exact ⟨_, rfl, by omega⟩
    · split
      · exact ⟨_, rfl, by omega⟩
      · exact ⟨_, rfl, by omega⟩
  obtain ⟨z, hz, h2⟩ := hen
  have := bs_head (by unfold Vd; exact h) cs (i := 0) hz
  have e : bt (bs (c :: cs)) 0 = z := this
  omega
/-- The last byte of a text is an ASCII character just if that is its last character. -/
theorem last_byte {c : Int} (h : Vd c) (cs : List Int) : (c < 128 → bt (bs (cs ++ [c])) ((bs (cs ++ [c])).size - 1) = c) ∧ (¬ c < 128 → 128 ≤ bt (bs (cs ++ [c])) ((bs (cs ++ [c])).size - 1)) := by
  have hz : (bs (cs ++ [c])).size = (bs cs).size + (en c).length := by rw [bs_size_app, bs_size_one]
  have hv := h
  unfold Vd at hv
  constructor
  · intro ha
    have := bs_last h cs (i := 0) (z := c) (by rw [en_ascii ha]; rfl)
    have e1 : (((bs cs).size + (en c).length : Nat) : Int) - 1 = (bs cs).size + ((0 : Nat) : Int) := by rw [en_ascii ha]; simp
    rw [hz, e1]
    exact this
  · intro ha
    have hen : ∃ i z, (en c)[i]? = some z ∧ i + 1 = (en c).length ∧ 128 ≤ z := by
      unfold en
      rw [if_neg ha]
      split
      · exact ⟨1, _, rfl, rfl, by omega⟩
      · split
        · exact ⟨2, _, rfl, rfl, by omega⟩
        · exact ⟨3, _, rfl, rfl, by omega⟩
    obtain ⟨i, z, h1, h2, h3⟩ := hen
    have := bs_last h cs h1
    rw [hz, show (((bs cs).size + (en c).length : Nat) : Int) - 1 = (bs cs).size + i by omega, this]
    exact h3
/-- THE DECODER reads what was written. -/
theorem dec_bs {c : Int} (h : Vd c) (cs : List Int) : Lib.decodeGo (bs (c :: cs)) = (c.toNat, (en c).length) := by
  have hz := bs_size_cons c cs
  have hl := en_len c
  rw [dec_eq _ (by omega)]
  have hv := h
  unfold Vd at hv
  by_cases h1 : c < 128
  · have b0 := bs_head h cs (i := 0) (z := c) (by rw [en_ascii h1]; rfl)
    have b0' : bt (bs (c :: cs)) 0 = c := b0
    rw [b0', en_ascii h1]
    unfold Lib.decodeN
    rw [if_pos (by omega)]
    rfl
  by_cases h2 : c < 2048
  · have e : en c = [192 + c / 64, 128 + c % 64] := by unfold en; rw [if_neg h1, if_pos h2]
    have b0 : bt (bs (c :: cs)) 0 = 192 + c / 64 := bs_head h cs (i := 0) (by rw [e]; rfl)
    have b1 : bt (bs (c :: cs)) 1 = 128 + c % 64 := bs_head h cs (i := 1) (by rw [e]; rfl)
    rw [e] at hz ⊢
    simp only [List.length_cons, List.length_nil] at hz ⊢
    rw [b0, b1]
    unfold Lib.decodeN
    rw [if_neg (by omega), if_pos (by omega), if_pos (by omega)]
    congr 1
    omega
  by_cases h3 : c < 65536
  · have e : en c = [224 + c / 4096, 128 + c / 64 % 64, 128 + c % 64] := by unfold en; rw [if_neg h1, if_neg h2, if_pos h3]
    have b0 : bt (bs (c :: cs)) 0 = 224 + c / 4096 := bs_head h cs (i := 0) (by rw [e]; rfl)
    have b1 : bt (bs (c :: cs)) 1 = 128 + c / 64 % 64 := bs_head h cs (i := 1) (by rw [e]; rfl)
    have b2 : bt (bs (c :: cs)) 2 = 128 + c % 64 := bs_head h cs (i := 2) (by rw [e]; rfl)
    rw [e] at hz ⊢
    simp only [List.length_cons, List.length_nil] at hz ⊢
    rw [b0, b1, b2]
    unfold Lib.decodeN
    rw [if_neg (by omega), if_neg (by omega), if_pos (by omega), if_pos (by omega)]
    congr 1
    omega
  · have e : en c = [240 + c / 262144, 128 + c / 4096 % 64, 128 + c / 64 % 64, 128 + c % 64] := by unfold en; rw [if_neg h1, if_neg h2, if_neg h3]
    have b0 : bt (bs (c :: cs)) 0 = 240 + c / 262144 := bs_head h cs (i := 0) (by rw [e]; rfl)
    have b1 : bt (bs (c :: cs)) 1 = 128 + c / 4096 % 64 := bs_head h cs (i := 1) (by rw [e]; rfl)
    have b2 : bt (bs (c :: cs)) 2 = 128 + c / 64 % 64 := bs_head h cs (i := 2) (by rw [e]; rfl)
    have b3 : bt (bs (c :: cs)) 3 = 128 + c % 64 := bs_head h cs (i := 3) (by rw [e]; rfl)
    rw [e] at hz ⊢
    simp only [List.length_cons, List.length_nil] at hz ⊢
    rw [b0, b1, b2, b3]
    unfold Lib.decodeN
    rw [if_neg (by omega), if_neg (by omega), if_neg (by omega), if_pos (by omega), if_pos (by omega)]
    congr 1
    omega
/-- THE DECODER FROM THE END reads what was written. -/
theorem decL_bs {c : Int} (h : Vd c) (cs : List Int) : Lib.decodeLastL (bs (cs ++ [c])).data.toList = (c.toNat, (en c).length) := by
  obtain ⟨l, hl⟩ : ∃ l, (bs (cs ++ [c])).data.toList = l := ⟨_, rfl⟩
  obtain ⟨p, hp⟩ : ∃ p, (bs cs).data.toList = p := ⟨_, rfl⟩
  obtain ⟨E, hE⟩ : ∃ E, (bs [c]).data.toList = E := ⟨_, rfl⟩
  have el : l = p ++ E := by rw [← hl, ← hp, ← hE, bs_app, ByteArray.toList_data_append]
  have lE : E.length = (en c).length := by rw [← hE, data_length, bs_size_one]
  have dE : Lib.decodeL E = (c.toNat, (en c).length) := by
    have d := dec_bs h []
    unfold Lib.decodeGo at d
    rw [if_neg (by rw [bs_size_one]; have := (en_len c).1; omega)] at d
    unfold Lib.decodeL
    rw [← hE]
    exact d
  have hg : ∀ i, i < (en c).length → ((l.getD (l.length - ((en c).length - i)) 0).toNat : Int) = (en c).getD i 0 := by
    intro i hi
    have e1 : l.length - ((en c).length - i) = p.length + i := by rw [el, List.length_append, lE]; omega
    have e2 : E.getD i 0 = l.getD (p.length + i) 0 := by
      rw [el, List.getD_eq_getElem?_getD, List.getD_eq_getElem?_getD, List.getElem?_append_right (by omega)]
      congr 2
      omega
    rw [e1, ← e2]
    have hb := bt_nums (en c) (en_by h) i hi
    rw [← rd_bytesOf, bytesOf, ← bs_one, hE] at hb
    unfold rd at hb
    rw [List.getD_eq_getElem?_getD, List.getElem?_map] at hb
    rw [List.getD_eq_getElem?_getD, List.getD_eq_getElem?_getD, List.getElem?_eq_getElem hi]
    have hi2 : i < E.length := by omega
    rw [show ((i : Int)).toNat = i by omega, List.getElem?_eq_getElem hi2] at hb
    rw [List.getElem?_eq_getElem hi2]
    exact hb
  have ll : l.length = p.length + (en c).length := by rw [el, List.length_append, lE]
  have dr : l.drop p.length = E := by rw [el, List.drop_left]
  have lne : l ≠ [] := by
    intro e
    rw [e] at ll
    have := (en_len c).1
    simp only [List.length_nil] at ll
    omega
  rw [hl]
  have hv := h
  unfold Vd at hv
  unfold Lib.decodeLastL
  rw [if_neg lne]
  by_cases h1 : c < 128
  · have g := hg 0 (by rw [en_ascii h1]; simp)
    rw [en_ascii h1] at g ⊢
    simp only [List.length_cons, List.length_nil] at g ⊢
    have g' : ((l.getD (l.length - 1) 0).toNat : Int) = c := g
    rw [if_pos (by omega)]
    congr 1
    omega
  have rs : ∀ b : UInt8, Lib.runeStartB b = (b.toNat / 64 != 2) := fun _ => rfl
  by_cases h2 : c < 2048
  · have e : en c = [192 + c / 64, 128 + c % 64] := by unfold en; rw [if_neg h1, if_pos h2]
    have g0 := hg 0 (by rw [e]; simp)
    have g1 := hg 1 (by rw [e]; simp)
    rw [e] at g0 g1 ll dE ⊢
    simp only [List.length_cons, List.length_nil] at g0 g1 ll dE ⊢
    have g0' : ((l.getD (l.length - 2) 0).toNat : Int) = 192 + c / 64 := g0
    have g1' : ((l.getD (l.length - 1) 0).toNat : Int) = 128 + c % 64 := g1
    have ls : Lib.lastStart l = p.length := by
      unfold Lib.lastStart
      have r2 : (l.getD (l.length - 2) 0).toNat / 64 = 3 := by omega
      simp only [rs, r2]
      rw [if_neg (by omega), if_pos (by decide)]
      omega
    rw [if_neg (by omega)]
    simp only [ls, dr, dE]
    rw [if_pos (by omega)]
  by_cases h3 : c < 65536
  · have e : en c = [224 + c / 4096, 128 + c / 64 % 64, 128 + c % 64] := by unfold en; rw [if_neg h1, if_neg h2, if_pos h3]
    have g0 := hg 0 (by rw [e]; simp)
    have g1 := hg 1 (by rw [e]; simp)
    have g2 := hg 2 (by rw [e]; simp)
    rw [e] at g0 g1 g2 ll dE ⊢
    simp only [List.length_cons, List.length_nil] at g0 g1 g2 ll dE ⊢
    have g0' : ((l.getD (l.length - 3) 0).toNat : Int) = 224 + c / 4096 := g0
    have g1' : ((l.getD (l.length - 2) 0).toNat : Int) = 128 + c / 64 % 64 := g1
    have g2' : ((l.getD (l.length - 1) 0).toNat : Int) = 128 + c % 64 := g2
    have ls : Lib.lastStart l = p.length := by
      unfold Lib.lastStart
      have r2 : (l.getD (l.length - 2) 0).toNat / 64 = 2 := by omega
      have r3 : (l.getD (l.length - 3) 0).toNat / 64 = 3 := by omega
      simp only [rs, r2, r3]
      rw [if_neg (by omega), if_neg (by decide), if_neg (by omega), if_pos (by decide)]
      omega
    rw [if_neg (by omega)]
    simp only [ls, dr, dE]
    rw [if_pos (by omega)]
  · have e : en c = [240 + c / 262144, 128 + c / 4096 % 64, 128 + c / 64 % 64, 128 + c % 64] := by unfold en; rw [if_neg h1, if_neg h2, if_neg h3]
    have g0 := hg 0 (by rw [e]; simp)
    have g1 := hg 1 (by rw [e]; simp)
    have g2 := hg 2 (by rw [e]; simp)
    have g3 := hg 3 (by rw [e]; simp)
    rw [e] at g0 g1 g2 g3 ll dE ⊢
    simp only [List.length_cons, List.length_nil] at g0 g1 g2 g3 ll dE ⊢
    have g0' : ((l.getD (l.length - 4) 0).toNat : Int) = 240 + c / 262144 := g0
    have g1' : ((l.getD (l.length - 3) 0).toNat : Int) = 128 + c / 4096 % 64 := g1
    have g2' : ((l.getD (l.length - 2) 0).toNat : Int) = 128 + c / 64 % 64 := g2
    have g3' : ((l.getD (l.length - 1) 0).toNat : Int) = 128 + c % 64 := g3
    have ls : Lib.lastStart l = p.length := by
      unfold Lib.lastStart
      have r2 : (l.getD (l.length - 2) 0).toNat / 64 = 2 := by omega
      have r3 : (l.getD (l.length - 3) 0).toNat / 64 = 2 := by omega
      have r4 : (l.getD (l.length - 4) 0).toNat / 64 = 3 := by omega
      simp only [rs, r2, r3, r4]
      rw [if_neg (by omega), if_neg (by decide), if_neg (by omega), if_neg (by decide), if_neg (by omega), if_pos (by decide)]
      omega
    rw [if_neg (by omega)]
    simp only [ls, dr, dE]
    rw [if_pos (by omega)]
end Go.Proofs.YtljmeaemonpkoaaDoor.UFnMtNoCaseSmall
