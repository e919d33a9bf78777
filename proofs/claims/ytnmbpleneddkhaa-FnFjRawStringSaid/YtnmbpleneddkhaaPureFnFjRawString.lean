/- A string's inside goes up to the first quotation mark ahead of which no odd number of backslashes stands; conditions: none beside the statement's own. -/
import Derived.Test.YtnmbpleneddkhaaPFnFjRawStringx
namespace Go.Proofs.Ytnmbpleneddkhaa.Pure
open Go.RowKit Go.Proofs.Ytnmbpleneddkhaa.PFnFjRawString Go.Proofs.YtnmbpleneddkhaaW.PrintWords Go.Proofs.YtnmbpleneddkhaaW.PrintLast Go.Proofs.YtnmbpleneddkhaaW.PrintMore
set_option linter.unusedSimpArgs false
set_option linter.unusedVariables false
theorem w64 {x : Int} (h0 : -9223372036854775808 ≤ x) (h1 : x ≤ 9223372036854775807) : wrap64 x = x := by
  unfold wrap64; omega
theorem Ev.pos {α : Type} {c : Prop} [Decidable c] {f g : Nat → Option α} {r : α} (h : c) (e : Ev f r) : Ev (fun k => if c then f k else g k) r :=
  Ev.congr (fun _ => if_pos h) e
theorem Ev.neg {α : Type} {c : Prop} [Decidable c] {f g : Nat → Option α} {r : α} (h : ¬ c) (e : Ev g r) : Ev (fun k => if c then f k else g k) r :=
  Ev.congr (fun _ => if_neg h) e
theorem Ev.bd {α β : Type} {g : Option α} {f : Nat → α → Option β} {a : α} {r : β} (h : g = some a) (k : Ev (fun n => f n a) r) : Ev (fun n => g.bind (f n)) r :=
  Ev.congr (fun n => by rw [h]; rfl) k
theorem Ev.eq {α : Type} {f : Nat → Option α} {a b : α} (h : a = b) (e : Ev f a) : Ev f b := h ▸ e
theorem bt_x (s : ByteArray) (a b : Nat) (q : Int) (h0 : 0 ≤ q) (h : a + q < b) (hb : b ≤ s.size) : bt (s.extract a b) q = bt s (a + q) := by
  unfold bt
  have h1 : q.toNat < (s.extract a b).size := by rw [ByteArray.size_extract]; omega
  have h2 : ((a : Int) + q).toNat < s.size := by omega
  rw [dif_pos h1, dif_pos h2, ByteArray.getElem_extract]
  congr 3
  omega
theorem ext_next (s : ByteArray) (i W : Nat) (h : i + W ≤ s.size) : (s.extract i s.size).extract W (s.extract i s.size).size = s.extract (i + W) s.size := by
  rw [ByteArray.extract_extract, ByteArray.size_extract]
  congr 1
  omega
/-! ### the first quotation mark -/
theorem ix_list (l : List UInt8) : (Lib.indexByte l 34 = -1 ∧ ∀ x ∈ l, x ≠ 34) ∨ ∃ n : Nat, n < l.length ∧ Lib.indexByte l 34 = (n : Int) ∧ l[n]? = some 34 ∧ ∀ m : Nat, m < n → ∀ x, l[m]? = some x → x ≠ 34 := by
  induction l with
  | nil => exact .inl ⟨rfl, fun x hx => by cases hx⟩
  | cons b l ih =>
    unfold Lib.indexByte
    by_cases hb : b = 34
    · subst hb
      exact .inr ⟨0, by simp, by simp, rfl, fun m hm => by omega⟩
    · have hb' : (b == 34) = false := by simpa using hb
      rw [hb']
      rcases ih with ⟨h1, h2⟩ | ⟨n, h1, h2, h3, h4⟩
      · left
        rw [h1]
        refine ⟨rfl, fun x hx => ?_⟩
        rcases List.mem_cons.1 hx with rfl | hx
        · exact hb
        · exact h2 x hx
      · right
        refine ⟨n + 1, by simp; omega, ?_, by simpa using h3, fun m hm x hx => ?_⟩
        · rw [h2]
          have : ((n : Int) == -1) = false := by simp
          rw [this]
          simp
        · cases m with
          | zero => simp at hx; rw [← hx]; exact hb
          | succ m => exact h4 m (by omega) x (by simpa using hx)
theorem bt_list (u : ByteArray) (q : Nat) (x : UInt8) (h : u.data.toList[q]? = some x) : bt u q = x.toNat := by
  obtain ⟨hq, e⟩ := List.getElem?_eq_some_iff.1 h
  unfold bt
  have h1 : (q : Int).toNat < u.size := by simpa using hq
  rw [dif_pos h1, ← e]
  rfl
theorem ix_bt (u : ByteArray) : (Lib.indexByte u.data.toList 34 = -1 ∧ ∀ q : Nat, q < u.size → bt u q ≠ 34) ∨ ∃ n : Nat, n < u.size ∧ Lib.indexByte u.data.toList 34 = (n : Int) ∧ bt u n = 34 ∧ ∀ m : Nat, m < n → bt u m ≠ 34 := by
  have hl : u.data.toList.length = u.size := by rw [Array.length_toList]; rfl
  have get : ∀ q : Nat, q < u.size → ∃ x, u.data.toList[q]? = some x := fun q hq => ⟨_, List.getElem?_eq_getElem (by rw [hl]; exact hq)⟩
  have ne : ∀ x : UInt8, x ≠ 34 → (x.toNat : Int) ≠ 34 := fun x hx h => hx (UInt8.toNat_inj.1 (by show x.toNat = 34; omega))
  rcases ix_list u.data.toList with ⟨h1, h2⟩ | ⟨n, h1, h2, h3, h4⟩
  · refine .inl ⟨h1, fun q hq => ?_⟩
    obtain ⟨x, hx⟩ := get q hq
    rw [bt_list u q x hx]
    exact ne x (h2 x (List.mem_of_getElem? hx))
  · refine .inr ⟨n, by omega, h2, ?_, fun m hm => ?_⟩
    · rw [bt_list u n 34 h3]; rfl
    · obtain ⟨x, hx⟩ := get m (by omega)
      rw [bt_list u m x hx]
      exact ne x (h4 m hm x hx)
/-! ### backslashes ahead of a place -/
/-- c backslashes stand right ahead of place p, reckoned from off on. -/
structure Tr (s : ByteArray) (off p c : Nat) : Prop where
  le : off + c ≤ p
  all : ∀ q : Nat, p - c ≤ q → q < p → bt s q = 92
  stop : off + c = p ∨ bt s ((p - c - 1 : Nat) : Int) ≠ 92
theorem close_run (s : ByteArray) (hs : s.size ≤ 100000) (off p : Nat) (hp : p ≤ s.size) (d : Nat) : ∀ (i c : Nat), p - i = d → i ≤ p → Tr s off i c → (∀ q : Nat, i ≤ q → q < p → bt s q ≠ 34) →
    ∃ c', Tr s off p c' ∧ ∀ {r : Int}, Ev (fun k => spec_Closing.l0 k s (c' : Int) (p : Int)) r → Ev (fun k => spec_Closing.l0 k s (c : Int) (i : Int)) r := by
  induction d with
  | zero =>
    intro i c hd hi ht _
    obtain rfl : i = p := by omega
    exact ⟨c, ht, fun e => e⟩
  | succ d ih =>
    intro i c hd hi ht hq
    have hn := hq i (Nat.le_refl _) (by omega)
    have ew : wrap64 ((i : Int) + 1) = ((i + 1 : Nat) : Int) := by rw [w64 (by omega) (by omega)]; omega
    have hle := ht.le
    have go : ∀ (c2 : Nat) {r : Int}, (bt s i = 92 → c2 = c + 1) → (¬ bt s i = 92 → c2 = 0) → Ev (fun k => spec_Closing.l0 k s (c2 : Int) ((i + 1 : Nat) : Int)) r → Ev (fun k => spec_Closing.l0 k s (c : Int) (i : Int)) r := by
      intro c2 r h1 h2 e
      refine Ev.step (fun k => by rw [spec_Closing.l0]) ?_
      refine Ev.pos (by omega) (Ev.pos (by omega) (Ev.neg hn ?_))
      refine Ev.step (fun k => by rw [spec_Closing.j1]) ?_
      rw [ew, w64 (x := (c : Int) + 1) (by omega) (by omega)]
      refine Ev.neg Bool.false_ne_true (Ev.pos (by omega) (Ev.pos (by omega) ?_))
      by_cases hb : bt s i = 92
      · rw [h1 hb] at e
        refine Ev.pos hb ?_
        rw [show (c : Int) + 1 = ((c + 1 : Nat) : Int) by omega]
        exact e
      · rw [h2 hb] at e
        exact Ev.neg hb e
    by_cases hb : bt s i = 92
    · obtain ⟨c', h1, h2⟩ := ih (i + 1) (c + 1) (by omega) (by omega) ⟨by omega, fun q h1 h2 => by
        by_cases e : q = i
        · rw [e]; exact hb
        · exact ht.all q (by omega) (by omega), by
        rcases ht.stop with h | h
        · left; omega
        · right; rw [show i + 1 - (c + 1) - 1 = i - c - 1 by omega]; exact h⟩ (fun q h1 h2 => hq q (by omega) h2)
      exact ⟨c', h1, fun e => go (c + 1) (fun _ => rfl) (fun h => absurd hb h) (h2 e)⟩
    · obtain ⟨c', h1, h2⟩ := ih (i + 1) 0 (by omega) (by omega) ⟨by omega, fun q h1 h2 => by omega, .inr (by rw [show i + 1 - 0 - 1 = i by omega]; exact hb)⟩ (fun q h1 h2 => hq q (by omega) h2)
      exact ⟨c', h1, fun e => go 0 (fun h => absurd h hb) (fun _ => rfl) (h2 e)⟩
abbrev R3 := ByteArray × ByteArray × Option Int
/-- The answer that stands to a place. -/
def Fin (s : ByteArray) (kc : Int) (r : R3) : Prop := (kc = -1 ∧ r.2.2 = some 0) ∨ ∃ n : Nat, n < s.size ∧ kc = n ∧ r = (s.extract 0 n, s.extract (n + 1) s.size, none)
/-- What the code's loop over marks answers from place o on. -/
def Nxt (s : ByteArray) (o : Nat) (r : R3) : Prop := (Lib.indexByte (s.extract o s.size).data.toList 34 = -1 ∧ r = (s, ⟨#[]⟩, some 0)) ∨ ∃ n : Nat, o + n < s.size ∧ Lib.indexByte (s.extract o s.size).data.toList 34 = n ∧
  (((n = 0 ∨ bt (s.extract o s.size) ((n : Int) - 1) ≠ 92) ∧ r = (s.extract 0 (o + n), s.extract (o + n + 1) s.size, none)) ∨
   (0 < n ∧ bt (s.extract o s.size) ((n : Int) - 1) = 92 ∧ Ev (fun k => fastjson_parseRawString.l0 k (s.extract o s.size) (n : Int) s) r))
theorem back (u s : ByteArray) (n c : Nat) (hu : u.size ≤ 100000) (hn : n < u.size) (hc1 : 1 ≤ c) (hc2 : c ≤ n) (all : ∀ q : Nat, n - c ≤ q → q < n → bt u q = 92) (stop : c = n ∨ bt u ((n - c - 1 : Nat) : Int) ≠ 92) {r : R3}
    (e : Ev (fun k => fastjson_parseRawString.j3 k u (n : Int) s ((n - c : Nat) : Int)) r) : Ev (fun k => fastjson_parseRawString.l0 k u (n : Int) s) r := by
  have go : ∀ (d : Nat) (i : Nat), i - (n - c) = d → n - c ≤ i → i < n → Ev (fun k => fastjson_parseRawString.l1 k u (n : Int) s (i : Int)) r := by
    intro d
    induction d with
    | zero =>
      intro i hd h1 h2
      obtain rfl : i = n - c := by omega
      refine Ev.step (fun k => by rw [fastjson_parseRawString.l1]) ?_
      by_cases hz : (((n - c : Nat) : Int)) > 0
      · refine Ev.pos hz ?_
        have ew : wrap64 (((n - c : Nat) : Int) - 1) = ((n - c - 1 : Nat) : Int) := by rw [w64 (by omega) (by omega)]; omega
        rw [ew]
        exact Ev.pos (by omega) (Ev.pos (by omega) (Ev.neg (stop.resolve_left (by omega)) e))
      · exact Ev.neg hz e
    | succ d ihd =>
      intro i hd h1 h2
      refine Ev.step (fun k => by rw [fastjson_parseRawString.l1]) ?_
      have ew : wrap64 ((i : Int) - 1) = ((i - 1 : Nat) : Int) := by rw [w64 (by omega) (by omega)]; omega
      rw [ew]
      exact Ev.pos (by omega) (Ev.pos (by omega) (Ev.pos (by omega) (Ev.pos (all _ (by omega) (by omega)) (ihd (i - 1) (by omega) (by omega) (by omega)))))
  refine Ev.step (fun k => by rw [fastjson_parseRawString.l0]) ?_
  have ew : wrap64 ((n : Int) - 1) = ((n - 1 : Nat) : Int) := by rw [w64 (by omega) (by omega)]; omega
  rw [ew]
  exact go (n - 1 - (n - c)) (n - 1) rfl (by omega) (by omega)
theorem cnt (n c : Nat) (hn : n ≤ 100000) (hc : c ≤ n) : Int.tmod (IntKind.u64.wrap (wrap64 ((n : Int) - ((n - c : Nat) : Int)))) 2 = ((c % 2 : Nat) : Int) := by
  have eu : IntKind.u64.wrap (wrap64 ((n : Int) - ((n - c : Nat) : Int))) = (c : Int) := by
    rw [w64 (by omega) (by omega), IntKind.wrap_u64]
    omega
  rw [eu, Int.tmod_eq_emod_of_nonneg (by omega)]
  omega
theorem wp (a b n o : Nat) (ha : a ≤ 100000) (hb : b + o = a) (hn : n ≤ b) : wrap64 (wrap64 ((a : Int) - (b : Int)) + (n : Int)) = ((o + n : Nat) : Int) := by
  rw [w64 (x := (a : Int) - (b : Int)) (by omega) (by omega), w64 (by omega) (by omega)]; omega
theorem w1 (n : Nat) (h : n ≤ 100000) : wrap64 ((n : Int) + 1) = ((n + 1 : Nat) : Int) := by
  rw [w64 (by omega) (by omega)]; omega
theorem even (u s : ByteArray) (n c off : Nat) (hs : s.size ≤ 100000) (us : u.size + off = s.size) (hn : n < u.size) (hc : c ≤ n) (he : c % 2 = 0) (ext2 : u.extract (n + 1) u.size = s.extract (off + n + 1) s.size) :
    Ev (fun k => fastjson_parseRawString.j3 k u (n : Int) s ((n - c : Nat) : Int)) (s.extract 0 (off + n), s.extract (off + n + 1) s.size, none) := by
  refine Ev.step (fun k => by rw [fastjson_parseRawString.j3]) ?_
  rw [cnt n c (by omega) hc, he, w1 n (by omega), wp s.size u.size n off hs us (by omega)]
  refine Ev.pos rfl (Ev.pos (by omega) (Ev.pos (by omega) (Ev.pos (by omega) (Ev.pos (by omega) (Ev.eq ?_ (Ev.now _))))))
  rw [Int.toNat_natCast, Int.toNat_natCast, ext2]
theorem odd (u s : ByteArray) (n c off : Nat) (r : R3) (hs : s.size ≤ 100000) (us : u.size + off = s.size) (hn : n < u.size) (hc : c ≤ n) (ho : c % 2 = 1) (ext2 : u.extract (n + 1) u.size = s.extract (off + n + 1) s.size) (hr : Nxt s (off + n + 1) r) :
    Ev (fun k => fastjson_parseRawString.j3 k u (n : Int) s ((n - c : Nat) : Int)) r := by
  refine Ev.step (fun k => by rw [fastjson_parseRawString.j3]) ?_
  rw [cnt n c (by omega) hc, ho, w1 n (by omega), Int.toNat_natCast, ext2]
  unfold Nxt at hr
  obtain ⟨o, ho'⟩ : ∃ o, off + n + 1 = o := ⟨_, rfl⟩
  rw [ho'] at hr
  rw [ho']
  have ex : ∀ m : Nat, o + m ≤ s.size → (s.extract o s.size).extract m (s.extract o s.size).size = s.extract (o + m) s.size := fun m hm => ext_next s o m hm
  have vs : (s.extract o s.size).size + o = s.size := by rw [ByteArray.size_extract]; omega
  generalize s.extract o s.size = v at hr ex vs ⊢
  refine Ev.neg (by decide) (Ev.pos (by omega) (Ev.pos (by omega) ?_))
  rcases hr with ⟨h5, rfl⟩ | ⟨m, hm, h5, h6⟩
  · refine Ev.bd (a := -1) (by unfold strings_IndexByte.f; exact congrArg some h5) ?_
    exact Ev.pos (by decide) (Ev.bd rfl (Ev.now _))
  · refine Ev.bd (a := (m : Int)) (by unfold strings_IndexByte.f; exact congrArg some h5) ?_
    have ext3 : v.extract (m + 1) v.size = s.extract (o + m + 1) s.size := ex (m + 1) (by omega)
    rw [wp s.size v.size m o hs vs (by omega), w1 m (by omega), w64 (x := (m : Int) - 1) (by omega) (by omega)]
    refine Ev.neg (by omega) ?_
    rcases h6 with ⟨h7, rfl⟩ | ⟨h7, h8, h9⟩
    · have fin : Ev (fun _ => some (s.extract 0 (((o + m : Nat) : Int)).toNat, v.extract (((m + 1 : Nat) : Int)).toNat v.size, (none : Option Int))) (s.extract 0 (o + m), s.extract (o + m + 1) s.size, none) := Ev.eq (by
        rw [Int.toNat_natCast, Int.toNat_natCast, ext3]) (Ev.now _)
      by_cases hm0 : (m : Int) = 0
      · exact Ev.pos hm0 (Ev.pos (by omega) (Ev.pos (by omega) (Ev.pos (by omega) (Ev.pos (by omega) fin))))
      · exact Ev.neg hm0 (Ev.pos (by omega) (Ev.pos (by omega) (Ev.neg (h7.resolve_left (by omega)) (Ev.pos (by omega) (Ev.pos (by omega) (Ev.pos (by omega) (Ev.pos (by omega) fin)))))))
    · exact Ev.neg (by omega) (Ev.pos (by omega) (Ev.pos (by omega) (Ev.pos h8 h9)))
/-- The statement's own loop at a mark. -/
theorem at_mark (s : ByteArray) (hs : s.size ≤ 100000) (c p : Nat) (hc : c ≤ p) (hp : p < s.size) (q34 : bt s (p : Int) = 34) : (c % 2 = 0 → Ev (fun k => spec_Closing.l0 k s (c : Int) (p : Int)) (p : Int)) ∧
    (c % 2 = 1 → ∀ {r : Int}, Ev (fun k => spec_Closing.l0 k s 0 ((p + 1 : Nat) : Int)) r → Ev (fun k => spec_Closing.l0 k s (c : Int) (p : Int)) r) := by
  have tm : Int.tmod (c : Int) 2 = ((c % 2 : Nat) : Int) := by rw [Int.tmod_eq_emod_of_nonneg (by omega)]; omega
  have at_n : ∀ {r : Int}, Ev (fun k => spec_Closing.j1 k s (c : Int) (p : Int) (Int.tmod (c : Int) 2 == 0)) r → Ev (fun k => spec_Closing.l0 k s (c : Int) (p : Int)) r := fun e => by
    refine Ev.step (fun k => by rw [spec_Closing.l0]) ?_
    exact Ev.pos (by omega) (Ev.pos (by omega) (Ev.pos q34 e))
  constructor
  · intro he
    apply at_n
    rw [tm, he]
    refine Ev.step (fun k => by rw [spec_Closing.j1]) ?_
    exact Ev.pos (by decide) (Ev.now _)
  · intro ho r e
    apply at_n
    rw [tm, ho]
    refine Ev.step (fun k => by rw [spec_Closing.j1]) ?_
    rw [w1 p (by omega)]
    exact Ev.neg (by decide) (Ev.pos (by omega) (Ev.pos (by omega) (Ev.neg (by rw [q34]; decide) e)))
/-- One round of both: a mark at n of the rest from off on, c backslashes right ahead of it. -/
theorem one_mark (s : ByteArray) (hs : s.size ≤ 100000) (off n : Nat) (hn : off + n < s.size) (c : Nat) (tc : Tr s off (off + n) c) (h1 : Lib.indexByte (s.extract off s.size).data.toList 34 = (n : Int)) (q34 : bt s ((off + n : Nat) : Int) = 34)
    (nx : c % 2 = 1 → ∃ kc r, Ev (fun k => spec_Closing.l0 k s 0 ((off + n + 1 : Nat) : Int)) kc ∧ Fin s kc r ∧ Nxt s (off + n + 1) r) :
    ∃ kc r, Ev (fun k => spec_Closing.l0 k s (c : Int) ((off + n : Nat) : Int)) kc ∧ Fin s kc r ∧ Nxt s off r := by
  obtain ⟨cle, call, cstop⟩ := tc
  obtain ⟨found, next⟩ := at_mark s hs c (off + n) (by omega) hn q34
  have us : (s.extract off s.size).size + off = s.size := by rw [ByteArray.size_extract]; omega
  have ub : ∀ q : Nat, off + q < s.size → bt (s.extract off s.size) q = bt s ((off + q : Nat) : Int) := fun q hq => by
    rw [bt_x s off s.size q (by omega) (by omega) (by omega)]
    congr 1
  have ext2 : (s.extract off s.size).extract (n + 1) (s.extract off s.size).size = s.extract (off + n + 1) s.size := ext_next s off (n + 1) (by omega)
  have fin : Fin s ((off + n : Nat) : Int) (s.extract 0 (off + n), s.extract (off + n + 1) s.size, none) := .inr ⟨off + n, by omega, rfl, rfl⟩
  unfold Nxt
  rw [h1]
  generalize hU : s.extract off s.size = u at us ub ext2
  by_cases c0 : c = 0
  · refine ⟨_, _, found (by omega), fin, .inr ⟨n, hn, rfl, .inl ⟨?_, rfl⟩⟩⟩
    by_cases n0 : n = 0
    · exact .inl n0
    · right
      have e := ub (n - 1) (by omega)
      rw [show ((n - 1 : Nat) : Int) = (n : Int) - 1 by omega, show off + (n - 1) = off + n - c - 1 by omega] at e
      rw [e]
      exact cstop.resolve_left (by omega)
  have bk : bt u ((n : Int) - 1) = 92 := by
    have e := ub (n - 1) (by omega)
    rw [show ((n - 1 : Nat) : Int) = (n : Int) - 1 by omega] at e
    rw [e]
    exact call _ (by omega) (by omega)
  have bb : ∀ {r : R3}, Ev (fun k => fastjson_parseRawString.j3 k u (n : Int) s ((n - c : Nat) : Int)) r → Ev (fun k => fastjson_parseRawString.l0 k u (n : Int) s) r := fun e => by
    refine back u s n c (by omega) (by omega) (by omega) (by omega) (fun q a b => ?_) ?_ e
    · rw [ub q (by omega)]
      exact call _ (by omega) (by omega)
    · by_cases hcn : c = n
      · exact .inl hcn
      · right
        rw [ub _ (by omega), show off + (n - c - 1) = off + n - c - 1 by omega]
        exact cstop.resolve_left (by omega)
  by_cases he : c % 2 = 0
  · exact ⟨_, _, found he, fin, .inr ⟨n, hn, rfl, .inr ⟨by omega, bk, bb (even u s n c off hs us (by omega) (by omega) he ext2)⟩⟩⟩
  · have ho : c % 2 = 1 := by omega
    obtain ⟨kc, r, e1, hf, hr⟩ := nx ho
    exact ⟨kc, r, next ho e1, hf, .inr ⟨n, hn, rfl, .inr ⟨by omega, bk, bb (odd u s n c off r hs us (by omega) (by omega) ho ext2 hr)⟩⟩⟩
theorem scan (s : ByteArray) (hs : s.size ≤ 100000) (d : Nat) : ∀ off : Nat, s.size - off ≤ d → off ≤ s.size → ∃ kc r, Ev (fun k => spec_Closing.l0 k s 0 (off : Int)) kc ∧ Fin s kc r ∧ Nxt s off r := by
  induction d using Nat.strongRecOn with
  | _ d ih =>
  intro off hd hoff
  have us : (s.extract off s.size).size = s.size - off := by rw [ByteArray.size_extract]; omega
  have ub : ∀ q : Nat, off ≤ q → q < s.size → bt (s.extract off s.size) ((q - off : Nat) : Int) = bt s q := fun q h1 h2 => by
    rw [bt_x s off s.size _ (by omega) (by omega) (by omega)]
    congr 1
    omega
  have t0 : Tr s off off 0 := ⟨by omega, fun q h1 h2 => by omega, .inl (by omega)⟩
  rcases ix_bt (s.extract off s.size) with ⟨h1, h2⟩ | ⟨n, hn, h1, h3, h4⟩
  · obtain ⟨c', _, h⟩ := close_run s hs off s.size (Nat.le_refl _) (s.size - off) off 0 rfl hoff t0 (fun q a b => by
      rw [← ub q a b]
      exact h2 _ (by omega))
    refine ⟨-1, (s, ⟨#[]⟩, some 0), h ?_, .inl ⟨rfl, rfl⟩, .inl ⟨h1, rfl⟩⟩
    refine Ev.step (fun k => by rw [spec_Closing.l0]) ?_
    exact Ev.neg (by omega) (Ev.now _)
  · rw [us] at hn
    obtain ⟨c, tc, h⟩ := close_run s hs off (off + n) (by omega) n off 0 (by omega) (by omega) t0 (fun q a b => by
      rw [← ub q a (by omega)]
      exact h4 _ (by omega))
    have q34 : bt s ((off + n : Nat) : Int) = 34 := by
      rw [← ub (off + n) (by omega) (by omega), show off + n - off = n by omega]
      exact h3
    obtain ⟨kc, r, e1, h5, h6⟩ := one_mark s hs off n (by omega) c tc h1 q34 (fun _ => ih (s.size - (off + n + 1)) (by omega) (off + n + 1) (by omega) (by omega))
    exact ⟨kc, r, h e1, h5, h6⟩
theorem raw_ev (s : ByteArray) (hs : s.size ≤ 100000) : ∃ kc r, Ev (fun k => spec_Closing.f k s) kc ∧ Fin s kc r ∧ Ev (fun k => fastjson_parseRawString.f k s) r := by
  obtain ⟨kc, r, e, hf, hr⟩ := scan s hs s.size 0 (by omega) (by omega)
  have hx : s.extract 0 s.size = s := ByteArray.extract_zero_size
  unfold Nxt at hr
  rw [hx] at hr
  refine ⟨kc, r, e, hf, ?_⟩
  unfold fastjson_parseRawString.f
  rcases hr with ⟨h5, rfl⟩ | ⟨m, hm, h5, h6⟩
  · refine Ev.bd (a := -1) (by unfold strings_IndexByte.f; exact congrArg some h5) ?_
    exact Ev.pos (by decide) (Ev.bd rfl (Ev.now _))
  · refine Ev.bd (a := (m : Int)) (by unfold strings_IndexByte.f; exact congrArg some h5) ?_
    refine Ev.neg (by omega) ?_
    have em1 : wrap64 ((m : Int) + 1) = ((m + 1 : Nat) : Int) := by rw [w64 (by omega) (by omega)]; omega
    rw [w64 (x := (m : Int) - 1) (by omega) (by omega)]
    rcases h6 with ⟨h7, rfl⟩ | ⟨h7, h8, h9⟩
    · have fin : Ev (fun k => fastjson_parseRawString.j0 k s (m : Int) true) (s.extract 0 (0 + m), s.extract (0 + m + 1) s.size, none) := by
        refine Ev.step (fun k => by rw [fastjson_parseRawString.j0]) ?_
        rw [em1, Int.toNat_natCast, Int.toNat_natCast, Nat.zero_add]
        exact Ev.pos rfl (Ev.pos (by omega) (Ev.pos (by omega) (Ev.pos (by omega) (Ev.pos (by omega) (Ev.now _)))))
      by_cases hm0 : (m : Int) = 0
      · exact Ev.pos hm0 fin
      · have hb := h7.resolve_left (by omega)
        have hb2 : (bt s ((m : Int) - 1) != 92) = true := by simpa using hb
        rw [hb2]
        exact Ev.neg hm0 (Ev.pos (by omega) (Ev.pos (by omega) fin))
    · have hb2 : (bt s ((m : Int) - 1) != 92) = false := by simpa using h8
      rw [hb2]
      refine Ev.neg (by omega) (Ev.pos (by omega) (Ev.pos (by omega) ?_))
      refine Ev.step (fun k => by rw [fastjson_parseRawString.j0]) ?_
      exact Ev.neg Bool.false_ne_true h9
theorem impl_ev (s : ByteArray) (hs : s.size ≤ 100000) : ∃ kc r, Ev (fun k => spec_Closing.f k s) kc ∧ Ev (fun k => impl_FjRawString.f k s) r ∧ ((kc = -1 ∧ r = (⟨#[]⟩, ⟨#[]⟩, false)) ∨ ∃ n : Nat, n < s.size ∧ kc = n ∧ r = (s.extract 0 n, s.extract (n + 1) s.size, true)) := by
  obtain ⟨kc, r, e1, hf, e2⟩ := raw_ev s hs
  have e3 : Ev (fun k => fastjson_DoorRawString.f k s) r := by
    unfold fastjson_DoorRawString.f
    exact Ev.bind e2 (Ev.now _)
  rcases hf with ⟨h1, h2⟩ | ⟨n, h1, h2, rfl⟩
  · refine ⟨kc, _, e1, ?_, .inl ⟨h1, rfl⟩⟩
    unfold impl_FjRawString.f
    refine Ev.bind e3 (Ev.neg ?_ (Ev.now _))
    rw [h2]; decide
  · refine ⟨kc, _, e1, ?_, .inr ⟨n, h1, h2, rfl⟩⟩
    unfold impl_FjRawString.f
    exact Ev.bind e3 (Ev.pos rfl (Ev.now _))
theorem FnFjRawString : laws_FnFjRawString.Pure := by
  intro s _
  refine Ev.rounds (r := true) (g := fun k => laws_FnFjRawString.f k s) ?_
  unfold laws_FnFjRawString.f
  by_cases c1 : (s.size : Int) > 2147483647
  · exact Ev.pos c1 (Ev.now _)
  refine Ev.neg c1 ?_
  by_cases c2 : (s.size : Int) > 4000
  · exact Ev.pos c2 (Ev.now _)
  refine Ev.neg c2 ?_
  obtain ⟨kc, r, e1, e2, h⟩ := impl_ev s (by omega)
  obtain ⟨kc', r', e1', e2', h'⟩ := impl_ev (⟨#[34]⟩ : ByteArray) (by decide)
  have hk : Ev (fun k => spec_Closing.f k (⟨#[34]⟩ : ByteArray)) 0 := by
    unfold spec_Closing.f
    refine Ev.step (fun k => by rw [spec_Closing.l0]) ?_
    refine Ev.pos (by decide) (Ev.pos (by decide) (Ev.pos (by decide) ?_))
    exact Ev.step (fun k => by rw [spec_Closing.j1]) (Ev.pos (by decide) (Ev.now _))
  have hk0 : kc' = 0 := by
    obtain ⟨K, h1⟩ := e1'
    obtain ⟨K', h2⟩ := hk
    have a := h1 (max K K') (Nat.le_max_left _ _)
    have b := h2 (max K K') (Nat.le_max_right _ _)
    rw [a] at b
    exact Option.some.inj b
  have hr' : r'.2.2 = true := by
    rcases h' with ⟨h1, _⟩ | ⟨n, _, _, rfl⟩
    · omega
    · rfl
  refine Ev.bind e1 (Ev.bind e2 (Ev.bind e2' (Ev.pos hr' ?_)))
  rcases h with ⟨rfl, rfl⟩ | ⟨n, h1, rfl, rfl⟩
  · exact Ev.pos (by decide) (Ev.neg Bool.false_ne_true (Ev.now _))
  · have hd : ((true : Bool) == decide ((n : Int) ≥ 0)) = true := by rw [decide_eq_true (by omega)]; rfl
    refine Ev.pos hd (Ev.pos rfl (Ev.pos (by omega) (Ev.pos (by omega) ?_)))
    rw [w64 (by omega) (by omega), Int.toNat_natCast, show ((n : Int) + 1).toNat = n + 1 by omega]
    refine Ev.pos rfl (Ev.pos (by omega) (Ev.pos (by omega) (Ev.eq ?_ (Ev.now _))))
    exact beq_self_eq_true _
end Go.Proofs.Ytnmbpleneddkhaa.Pure
