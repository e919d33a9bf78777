/- fastjson's parseRawString: it goes up to the first quotation mark that no backslash escapes. -/
import Derived.Test.YtdhiihegfdmokaaDoorVGFnFjCheckObject
namespace Go.Proofs.YtdhiihegfdmokaaDoor.JFnFjCheckObject
open Go.RowKit Go.Proofs.YtdhiihegfdmokaaDoor.PFnFjCheckObject Go.Proofs.YtdhiihegfdmokaaDoorW.PrintWords Go.Proofs.YtdhiihegfdmokaaDoorW.PrintLast Go.Proofs.YtdhiihegfdmokaaDoorW.PrintMore
set_option linter.unusedSimpArgs false
set_option linter.unusedVariables false
theorem bt_x (s : ByteArray) (a b : Nat) (q : Int) (h0 : 0 ≤ q) (h : a + q < b) (hb : b ≤ s.size) : bt (s.extract a b) q = bt s (a + q) := by
  unfold bt
  have h1 : q.toNat < (s.extract a b).size := by rw [ByteArray.size_extract]; omega
  have h2 : ((a : Int) + q).toNat < s.size := by omega
  rw [dif_pos h1, dif_pos h2, ByteArray.getElem_extract]
  congr 3
  omega
theorem ext_next (s : ByteArray) (i W : Nat) (h : i + W ≤ s.size) : (s.extract i s.size).extract W (s.extract i s.size).size = s.extract (i + W) s.size := by
  rw [ByteArray.extract_extract, ByteArray.size_extract]
  congr 1
  omega
/-! ### the first of a byte -/
theorem ix_list (c : UInt8) (l : List UInt8) : (Lib.indexByte l c = -1 ∧ ∀ x ∈ l, x ≠ c) ∨ ∃ n : Nat, n < l.length ∧ Lib.indexByte l c = (n : Int) ∧ l[n]? = some c ∧ ∀ m : Nat, m < n → ∀ x, l[m]? = some x → x ≠ c := by
  induction l with
  | nil => exact .inl ⟨rfl, fun x hx => by cases hx⟩
  | cons b l ih =>
    unfold Lib.indexByte
    by_cases hb : b = c
    · subst hb
      exact .inr ⟨0, by simp, by simp, rfl, fun m hm => by omega⟩
    · have hb' : (b == c) = false := by simpa using hb
      rw [hb']
      rcases ih with ⟨h1, h2⟩ | ⟨n, h1, h2, h3, h4⟩
      · left
        rw [h1]
        refine ⟨rfl, fun x hx => ?_⟩
        rcases List.mem_cons.1 hx with rfl | hx
        · exact hb
        · exact h2 x hx
      · right
        refine ⟨n + 1, by simp; omega, ?_, by simpa using h3, fun m hm x hx => ?_⟩
        · rw [h2]
          have : ((n : Int) == -1) = false := by simp
          rw [this]
          simp
        · cases m with
          | zero => simp at hx; rw [← hx]; exact hb
          | succ m => exact h4 m (by omega) x (by simpa using hx)
theorem bt_list (u : ByteArray) (q : Nat) (x : UInt8) (h : u.data.toList[q]? = some x) : bt u q = x.toNat := by
  obtain ⟨hq, e⟩ := List.getElem?_eq_some_iff.1 h
  unfold bt
  have h1 : (q : Int).toNat < u.size := by simpa using hq
  rw [dif_pos h1, ← e]
  rfl
theorem ix_bt (c : UInt8) (u : ByteArray) : (Lib.indexByte u.data.toList c = -1 ∧ ∀ q : Nat, q < u.size → bt u q ≠ c.toNat) ∨ ∃ n : Nat, n < u.size ∧ Lib.indexByte u.data.toList c = (n : Int) ∧ bt u n = c.toNat ∧ ∀ m : Nat, m < n → bt u m ≠ c.toNat := by
  have hl : u.data.toList.length = u.size := by rw [Array.length_toList]; rfl
  have get : ∀ q : Nat, q < u.size → ∃ x, u.data.toList[q]? = some x := fun q hq => ⟨_, List.getElem?_eq_getElem (by rw [hl]; exact hq)⟩
  have ne : ∀ x : UInt8, x ≠ c → (x.toNat : Int) ≠ c.toNat := fun x hx h => hx (UInt8.toNat_inj.1 (by omega))
  rcases ix_list c u.data.toList with ⟨h1, h2⟩ | ⟨n, h1, h2, h3, h4⟩
  · refine .inl ⟨h1, fun q hq => ?_⟩
    obtain ⟨x, hx⟩ := get q hq
    rw [bt_list u q x hx]
    exact ne x (h2 x (List.mem_of_getElem? hx))
  · refine .inr ⟨n, by omega, h2, ?_, fun m hm => ?_⟩
    · rw [bt_list u n c h3]
    · obtain ⟨x, hx⟩ := get m (by omega)
      rw [bt_list u m x hx]
      exact ne x (h4 m hm x hx)
abbrev R3 := ByteArray × ByteArray × Option Int
/-- What the code's loop over marks answers from place o on. -/
def Nxt (s : ByteArray) (o : Nat) (r : R3) : Prop := (Lib.indexByte (s.extract o s.size).data.toList 34 = -1 ∧ r = (s, ⟨#[]⟩, some 0)) ∨ ∃ n : Nat, o + n < s.size ∧ Lib.indexByte (s.extract o s.size).data.toList 34 = n ∧
  (((n = 0 ∨ bt (s.extract o s.size) ((n : Int) - 1) ≠ 92) ∧ r = (s.extract 0 (o + n), s.extract (o + n + 1) s.size, none)) ∨
   (0 < n ∧ bt (s.extract o s.size) ((n : Int) - 1) = 92 ∧ Ev (fun k => fastjson_parseRawString.l0 k (s.extract o s.size) (n : Int) s) r))
theorem back (u s : ByteArray) (n c : Nat) (hu : u.size ≤ 100000) (hn : n < u.size) (hc1 : 1 ≤ c) (hc2 : c ≤ n) (all : ∀ q : Nat, n - c ≤ q → q < n → bt u q = 92) (stop : c = n ∨ bt u ((n - c - 1 : Nat) : Int) ≠ 92) {r : R3}
    (e : Ev (fun k => fastjson_parseRawString.j3 k u (n : Int) s ((n - c : Nat) : Int)) r) : Ev (fun k => fastjson_parseRawString.l0 k u (n : Int) s) r := by
  have go : ∀ (d : Nat) (i : Nat), i - (n - c) = d → n - c ≤ i → i < n → Ev (fun k => fastjson_parseRawString.l1 k u (n : Int) s (i : Int)) r := by
    intro d
    induction d with
    | zero =>
      intro i hd h1 h2
      obtain rfl : i = n - c := by omega
      refine Ev.step (fun k => by rw [fastjson_parseRawString.l1]) ?_
      by_cases hz : (((n - c : Nat) : Int)) > 0
      · refine Ev.pos hz ?_
        have ew : wrap64 (((n - c : Nat) : Int) - 1) = ((n - c - 1 : Nat) : Int) := by rw [w64 (by omega) (by omega)]; omega
        rw [ew]
        exact Ev.pos (by omega) (Ev.pos (by omega) (Ev.neg (stop.resolve_left (by omega)) e))
      · exact Ev.neg hz e
    | succ d ihd =>
      intro i hd h1 h2
      refine Ev.step (fun k => by rw [fastjson_parseRawString.l1]) ?_
      have ew : wrap64 ((i : Int) - 1) = ((i - 1 : Nat) : Int) := by rw [w64 (by omega) (by omega)]; omega
      rw [ew]
      exact Ev.pos (by omega) (Ev.pos (by omega) (Ev.pos (by omega) (Ev.pos (all _ (by omega) (by omega)) (ihd (i - 1) (by omega) (by omega) (by omega)))))
  refine Ev.step (fun k => by rw [fastjson_parseRawString.l0]) ?_
  have ew : wrap64 ((n : Int) - 1) = ((n - 1 : Nat) : Int) := by rw [w64 (by omega) (by omega)]; omega
  rw [ew]
  exact go (n - 1 - (n - c)) (n - 1) rfl (by omega) (by omega)
theorem cnt (n c : Nat) (hn : n ≤ 100000) (hc : c ≤ n) : Int.tmod (IntKind.u64.wrap (wrap64 ((n : Int) - ((n - c : Nat) : Int)))) 2 = ((c % 2 : Nat) : Int) := by
  have eu : IntKind.u64.wrap (wrap64 ((n : Int) - ((n - c : Nat) : Int))) = (c : Int) := by
    rw [w64 (by omega) (by omega), IntKind.wrap_u64]
    omega
  rw [eu, Int.tmod_eq_emod_of_nonneg (by omega)]
  omega
theorem wp (a b n o : Nat) (ha : a ≤ 100000) (hb : b + o = a) (hn : n ≤ b) : wrap64 (wrap64 ((a : Int) - (b : Int)) + (n : Int)) = ((o + n : Nat) : Int) := by
  rw [w64 (x := (a : Int) - (b : Int)) (by omega) (by omega), w64 (by omega) (by omega)]; omega
theorem w1 (n : Nat) (h : n ≤ 100000) : wrap64 ((n : Int) + 1) = ((n + 1 : Nat) : Int) := by
  rw [w64 (by omega) (by omega)]; omega
theorem even (u s : ByteArray) (n c off : Nat) (hs : s.size ≤ 100000) (us : u.size + off = s.size) (hn : n < u.size) (hc : c ≤ n) (he : c % 2 = 0) (ext2 : u.extract (n + 1) u.size = s.extract (off + n + 1) s.size) :
    Ev (fun k => fastjson_parseRawString.j3 k u (n : Int) s ((n - c : Nat) : Int)) (s.extract 0 (off + n), s.extract (off + n + 1) s.size, none) := by
  refine Ev.step (fun k => by rw [fastjson_parseRawString.j3]) ?_
  rw [cnt n c (by omega) hc, he, w1 n (by omega), wp s.size u.size n off hs us (by omega)]
  refine Ev.pos rfl (Ev.pos (by omega) (Ev.pos (by omega) (Ev.pos (by omega) (Ev.pos (by omega) (Ev.eq ?_ (Ev.now _))))))
  rw [Int.toNat_natCast, Int.toNat_natCast, ext2]
theorem odd (u s : ByteArray) (n c off : Nat) (r : R3) (hs : s.size ≤ 100000) (us : u.size + off = s.size) (hn : n < u.size) (hc : c ≤ n) (ho : c % 2 = 1) (ext2 : u.extract (n + 1) u.size = s.extract (off + n + 1) s.size) (hr : Nxt s (off + n + 1) r) :
    Ev (fun k => fastjson_parseRawString.j3 k u (n : Int) s ((n - c : Nat) : Int)) r := by
  refine Ev.step (fun k => by rw [fastjson_parseRawString.j3]) ?_
  rw [cnt n c (by omega) hc, ho, w1 n (by omega), Int.toNat_natCast, ext2]
  unfold Nxt at hr
  obtain ⟨o, ho'⟩ : ∃ o, off + n + 1 = o := ⟨_, rfl⟩
  rw [ho'] at hr
  rw [ho']
  have ex : ∀ m : Nat, o + m ≤ s.size → (s.extract o s.size).extract m (s.extract o s.size).size = s.extract (o + m) s.size := fun m hm => ext_next s o m hm
  have vs : (s.extract o s.size).size + o = s.size := by rw [ByteArray.size_extract]; omega
  generalize s.extract o s.size = v at hr ex vs ⊢
  refine Ev.neg (by decide) (Ev.pos (by omega) (Ev.pos (by omega) ?_))
  rcases hr with ⟨h5, rfl⟩ | ⟨m, hm, h5, h6⟩
  · refine Ev.bd (a := -1) (by unfold strings_IndexByte.f; exact congrArg some h5) ?_
    exact Ev.pos (by decide) (Ev.bd rfl (Ev.now _))
  · refine Ev.bd (a := (m : Int)) (by unfold strings_IndexByte.f; exact congrArg some h5) ?_
    have ext3 : v.extract (m + 1) v.size = s.extract (o + m + 1) s.size := ex (m + 1) (by omega)
    rw [wp s.size v.size m o hs vs (by omega), w1 m (by omega), w64 (x := (m : Int) - 1) (by omega) (by omega)]
    refine Ev.neg (by omega) ?_
    rcases h6 with ⟨h7, rfl⟩ | ⟨h7, h8, h9⟩
    · have fin : Ev (fun _ => some (s.extract 0 (((o + m : Nat) : Int)).toNat, v.extract (((m + 1 : Nat) : Int)).toNat v.size, (none : Option Int))) (s.extract 0 (o + m), s.extract (o + m + 1) s.size, none) := Ev.eq (by
        rw [Int.toNat_natCast, Int.toNat_natCast, ext3]) (Ev.now _)
      by_cases hm0 : (m : Int) = 0
      · exact Ev.pos hm0 (Ev.pos (by omega) (Ev.pos (by omega) (Ev.pos (by omega) (Ev.pos (by omega) fin))))
      · exact Ev.neg hm0 (Ev.pos (by omega) (Ev.pos (by omega) (Ev.neg (h7.resolve_left (by omega)) (Ev.pos (by omega) (Ev.pos (by omega) (Ev.pos (by omega) (Ev.pos (by omega) fin)))))))
    · exact Ev.neg (by omega) (Ev.pos (by omega) (Ev.pos (by omega) (Ev.pos h8 h9)))
/-- One round: a mark at n of the rest from off on, c backslashes right ahead of it. -/
theorem one_mark (s : ByteArray) (hs : s.size ≤ 100000) (off n : Nat) (hn : off + n < s.size) (c : Nat) (tc : Tr (fun q => bt s q) off (off + n) c) (h1 : Lib.indexByte (s.extract off s.size).data.toList 34 = (n : Int)) (r : R3)
    (he : c % 2 = 0 → r = (s.extract 0 (off + n), s.extract (off + n + 1) s.size, none)) (nx : c % 2 = 1 → Nxt s (off + n + 1) r) : Nxt s off r := by
  obtain ⟨cle, call, cstop⟩ := tc
  have us : (s.extract off s.size).size + off = s.size := by rw [ByteArray.size_extract]; omega
  have ub : ∀ q : Nat, off + q < s.size → bt (s.extract off s.size) q = bt s ((off + q : Nat) : Int) := fun q hq => by
    rw [bt_x s off s.size q (by omega) (by omega) (by omega)]
    congr 1
  have ext2 : (s.extract off s.size).extract (n + 1) (s.extract off s.size).size = s.extract (off + n + 1) s.size := ext_next s off (n + 1) (by omega)
  unfold Nxt
  rw [h1]
  generalize hU : s.extract off s.size = u at us ub ext2
  by_cases c0 : c = 0
  · refine .inr ⟨n, hn, rfl, .inl ⟨?_, he (by omega)⟩⟩
    by_cases n0 : n = 0
    · exact .inl n0
    · right
      have e := ub (n - 1) (by omega)
      rw [show ((n - 1 : Nat) : Int) = (n : Int) - 1 by omega, show off + (n - 1) = off + n - c - 1 by omega] at e
      rw [e]
      exact cstop.resolve_left (by omega)
  have bk : bt u ((n : Int) - 1) = 92 := by
    have e := ub (n - 1) (by omega)
    rw [show ((n - 1 : Nat) : Int) = (n : Int) - 1 by omega] at e
    rw [e]
    exact call _ (by omega) (by omega)
  have bb : ∀ {r : R3}, Ev (fun k => fastjson_parseRawString.j3 k u (n : Int) s ((n - c : Nat) : Int)) r → Ev (fun k => fastjson_parseRawString.l0 k u (n : Int) s) r := fun e => by
    refine back u s n c (by omega) (by omega) (by omega) (by omega) (fun q a b => ?_) ?_ e
    · rw [ub q (by omega)]
      exact call _ (by omega) (by omega)
    · by_cases hcn : c = n
      · exact .inl hcn
      · right
        rw [ub _ (by omega), show off + (n - c - 1) = off + n - c - 1 by omega]
        exact cstop.resolve_left (by omega)
  by_cases ev : c % 2 = 0
  · rw [he ev]
    exact .inr ⟨n, hn, rfl, .inr ⟨by omega, bk, bb (even u s n c off hs us (by omega) (by omega) ev ext2)⟩⟩
  · have ho : c % 2 = 1 := by omega
    exact .inr ⟨n, hn, rfl, .inr ⟨by omega, bk, bb (odd u s n c off r hs us (by omega) (by omega) ho ext2 (nx ho))⟩⟩
/-- What the code answers, told by the text. -/
def Raw (s : ByteArray) (off : Nat) (r : R3) : Prop := (r.2.2 = some 0 ∧ ∀ p, ¬ Bd (fun q => bt s q) s.size off p) ∨ ∃ n : Nat, n < s.size ∧ r = (s.extract 0 n, s.extract (n + 1) s.size, none) ∧ Bd (fun q => bt s q) s.size off n
theorem scan (s : ByteArray) (hs : s.size ≤ 100000) (d : Nat) : ∀ off : Nat, s.size - off ≤ d → off ≤ s.size → ∃ r, Nxt s off r ∧ Raw s off r := by
  induction d using Nat.strongRecOn with
  | _ d ih =>
  intro off hd hoff
  have us : (s.extract off s.size).size = s.size - off := by rw [ByteArray.size_extract]; omega
  have ub : ∀ q : Nat, off ≤ q → q < s.size → bt (s.extract off s.size) ((q - off : Nat) : Int) = bt s q := fun q h1 h2 => by
    rw [bt_x s off s.size _ (by omega) (by omega) (by omega)]
    congr 1
    omega
  rcases ix_bt 34 (s.extract off s.size) with ⟨h1, h2⟩ | ⟨n, hn, h1, h3, h4⟩
  · refine ⟨(s, ⟨#[]⟩, some 0), .inl ⟨h1, rfl⟩, .inl ⟨rfl, fun p => Bd.none (fun q a b => ?_) p⟩⟩
    show bt s q ≠ 34
    rw [← ub q a b]
    exact h2 _ (by omega)
  · rw [us] at hn
    have q34 : bt s ((off + n : Nat) : Int) = 34 := by
      rw [← ub (off + n) (by omega) (by omega), show off + n - off = n by omega]
      exact h3
    obtain ⟨c, tc, hev, hod⟩ := Tr.ex (fun q => bt s q) s.size off n (by omega) (fun q a b => by
      show bt s q ≠ 34
      rw [← ub q a (by omega)]
      exact h4 _ (by omega))
    by_cases ev : c % 2 = 0
    · exact ⟨_, one_mark s hs off n (by omega) c tc h1 _ (fun _ => rfl) (fun h => by omega), .inr ⟨off + n, by omega, rfl, (hev ev _).2 (.done (by omega) q34)⟩⟩
    · have ho : c % 2 = 1 := by omega
      obtain ⟨r, hr, hR⟩ := ih (s.size - (off + n + 1)) (by omega) (off + n + 1) (by omega) (by omega)
      refine ⟨r, one_mark s hs off n (by omega) c tc h1 r (fun h => by omega) (fun _ => hr), ?_⟩
      rcases hR with ⟨h5, h6⟩ | ⟨p, h5, h6, h7⟩
      · exact .inl ⟨h5, fun p b => h6 p ((hod ho p).1 b)⟩
      · exact .inr ⟨p, h5, h6, (hod ho p).2 h7⟩
theorem raw_ev (s : ByteArray) (hs : s.size ≤ 100000) : ∃ r, Ev (fun k => fastjson_parseRawString.f k s) r ∧ Raw s 0 r := by
  obtain ⟨r, hr, hR⟩ := scan s hs s.size 0 (by omega) (by omega)
  have hx : s.extract 0 s.size = s := ByteArray.extract_zero_size
  unfold Nxt at hr
  rw [hx] at hr
  refine ⟨r, ?_, hR⟩
  unfold fastjson_parseRawString.f
  rcases hr with ⟨h5, rfl⟩ | ⟨m, hm, h5, h6⟩
  · refine Ev.bd (a := -1) (by unfold strings_IndexByte.f; exact congrArg some h5) ?_
    exact Ev.pos (by decide) (Ev.bd rfl (Ev.now _))
  · refine Ev.bd (a := (m : Int)) (by unfold strings_IndexByte.f; exact congrArg some h5) ?_
    refine Ev.neg (by omega) ?_
    have em1 : wrap64 ((m : Int) + 1) = ((m + 1 : Nat) : Int) := by rw [w64 (by omega) (by omega)]; omega
    rw [w64 (x := (m : Int) - 1) (by omega) (by omega)]
    rcases h6 with ⟨h7, rfl⟩ | ⟨h7, h8, h9⟩
    · have fin : Ev (fun k => fastjson_parseRawString.j0 k s (m : Int) true) (s.extract 0 (0 + m), s.extract (0 + m + 1) s.size, none) := by
        refine Ev.step (fun k => by rw [fastjson_parseRawString.j0]) ?_
        rw [em1, Int.toNat_natCast, Int.toNat_natCast, Nat.zero_add]
        exact Ev.pos rfl (Ev.pos (by omega) (Ev.pos (by omega) (Ev.pos (by omega) (Ev.pos (by omega) (Ev.now _)))))
      by_cases hm0 : (m : Int) = 0
      · exact Ev.pos hm0 fin
      · have hb := h7.resolve_left (by omega)
        have hb2 : (bt s ((m : Int) - 1) != 92) = true := by simpa using hb
        rw [hb2]
        exact Ev.neg hm0 (Ev.pos (by omega) (Ev.pos (by omega) fin))
    · have hb2 : (bt s ((m : Int) - 1) != 92) = false := by simpa using h8
      rw [hb2]
      refine Ev.neg (by omega) (Ev.pos (by omega) (Ev.pos (by omega) ?_))
      refine Ev.step (fun k => by rw [fastjson_parseRawString.j0]) ?_
      exact Ev.neg Bool.false_ne_true h9
end Go.Proofs.YtdhiihegfdmokaaDoor.JFnFjCheckObject
