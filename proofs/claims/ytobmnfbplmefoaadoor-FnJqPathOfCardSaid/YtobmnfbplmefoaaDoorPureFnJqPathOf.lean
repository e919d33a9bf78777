/- A path of jsonparser's read back: the parts of the reading; no condition beside those that each theorem states. -/
import Derived.Test.YtobmnfbplmefoaaDoorPFnJqPathOfx
import Derived.Test.YtobmnfbplmefoaaDoorUAFnJqPathOf
namespace Go.Proofs.YtobmnfbplmefoaaDoor.JFnJqPathOf
open Go.RowKit Go.Proofs.YtobmnfbplmefoaaDoor.PFnJqPathOf Go.Proofs.YtobmnfbplmefoaaDoorW.PrintWords Go.Proofs.YtobmnfbplmefoaaDoorW.PrintLast Go.Proofs.YtobmnfbplmefoaaDoorW.PrintMore
set_option linter.unusedSimpArgs false
set_option linter.unusedVariables false
theorem w64 {x : Int} (h0 : -9223372036854775808 ≤ x) (h1 : x ≤ 9223372036854775807) : wrap64 x = x := by
  unfold wrap64; omega
theorem u64 {x : Int} (h0 : 0 ≤ x) (h1 : x < 18446744073709551616) : IntKind.u64.wrap x = x := by
  rw [IntKind.wrap_u64]; omega
theorem Ev.pos {α : Type} {c : Prop} [Decidable c] {f g : Nat → Option α} {r : α} (h : c) (e : Ev f r) : Ev (fun k => if c then f k else g k) r :=
  Ev.congr (fun _ => if_pos h) e
theorem Ev.neg {α : Type} {c : Prop} [Decidable c] {f g : Nat → Option α} {r : α} (h : ¬ c) (e : Ev g r) : Ev (fun k => if c then f k else g k) r :=
  Ev.congr (fun _ => if_neg h) e
theorem Ev.bd {α β : Type} {g : Option α} {f : Nat → α → Option β} {a : α} {r : β} (h : g = some a) (k : Ev (fun n => f n a) r) : Ev (fun n => g.bind (f n)) r :=
  Ev.congr (fun n => by rw [h]; rfl) k
theorem Ev.eq {α : Type} {f : Nat → Option α} {a b : α} (h : a = b) (e : Ev f a) : Ev f b := h ▸ e
/-! ### bytes -/
theorem str_bytes (s : ByteArray) : strOfNums (bytesOf s) = s := by
  apply ByteArray.ext
  apply Array.ext'
  simp only [strOfNums, bytesOf, List.map_map]
  rw [List.toList_toArray]
  conv => rhs; rw [← List.map_id s.data.toList]
  apply List.map_congr_left
  intro x _
  simp
theorem bytes_rng (s : ByteArray) : ∀ b ∈ bytesOf s, 0 ≤ b ∧ b < 256 := by
  intro b hb
  unfold bytesOf at hb
  obtain ⟨x, _, rfl⟩ := List.mem_map.1 hb
  have := x.toNat_lt
  omega
theorem bytesOf_str (l : List Int) (h : ∀ x ∈ l, 0 ≤ x ∧ x < 256) : bytesOf (strOfNums l) = l := by
  unfold bytesOf strOfNums
  rw [List.map_map]
  conv => rhs; rw [← List.map_id l]
  apply List.map_congr_left
  intro x hx
  obtain ⟨h0, h1⟩ := h x hx
  show ((x.toNat.toUInt8.toNat : Nat) : Int) = x
  rw [show x.toNat.toUInt8.toNat = x.toNat % 256 from UInt8.toNat_ofNat']
  omega
theorem str_app (a b : List Int) : strOfNums a ++ strOfNums b = strOfNums (a ++ b) := by
  apply ByteArray.ext
  simp [strOfNums]
/-- What stands in a text from a place on. -/
abbrev D (T : ByteArray) (i : Nat) : List Int := (bytesOf T).drop i
theorem D_len (T : ByteArray) (i : Nat) : (D T i).length = T.size - i := by rw [List.length_drop, bytesOf_length]
theorem D_cons {T : ByteArray} {i : Nat} {x : Int} {r : List Int} (h : D T i = x :: r) : i < T.size ∧ bt T (i : Int) = x ∧ D T (i + 1) = r := by
  have hi : i < T.size := by
    have := D_len T i
    rw [h, List.length_cons] at this
    omega
  obtain ⟨hq, hb⟩ := bytes_at T i hi
  have he := List.drop_eq_getElem_cons hq
  have h' : (bytesOf T).drop i = x :: r := h
  rw [he] at h'
  obtain ⟨h1, h2⟩ := List.cons.inj h'
  exact ⟨hi, by rw [← hb, h1], h2⟩
theorem D_nil {T : ByteArray} {i : Nat} (h : D T i = []) : T.size ≤ i := by
  have := D_len T i
  rw [h] at this
  simp at this
  omega
theorem D_app {T : ByteArray} {i : Nat} {a r : List Int} (h : D T i = a ++ r) (hi : i ≤ T.size) : D T (i + a.length) = r ∧ i + a.length ≤ T.size ∧ T.extract i (i + a.length) = strOfNums a := by
  have hl := D_len T i
  rw [h, List.length_append] at hl
  have h2 : i + a.length ≤ T.size := by omega
  refine ⟨?_, h2, ?_⟩
  · show (bytesOf T).drop (i + a.length) = r
    rw [← List.drop_drop, show (bytesOf T).drop i = a ++ r from h, List.drop_left]
  · rw [← str_bytes (T.extract i (i + a.length)), bytes_piece T i a.length h2, show (bytesOf T).drop i = a ++ r from h, List.take_left]
/-! ### the escapes of a string that is written without code -/
theorem dgt_hex (v : Fin 16) : jsonparser_h2I.f 9 (dgt (v.val : Nat)) = some ((v.val : Nat) : Int) := by
  revert v
  decide +kernel
theorem hex9 (x : Int) (h0 : 0 ≤ x) (h1 : x < 16) : jsonparser_h2I.f 9 (dgt x) = some x := by
  have h := dgt_hex ⟨x.toNat, by omega⟩
  dsimp only at h
  rwa [show ((x.toNat : Nat) : Int) = x by omega] at h
theorem single (l : List Int) (a b c d : Int) (hl : 6 ≤ l.length) (ha : jsonparser_h2I.f 9 (rd l 2) = some a) (hb : jsonparser_h2I.f 9 (rd l 3) = some b) (hc : jsonparser_h2I.f 9 (rd l 4) = some c) (hd : jsonparser_h2I.f 9 (rd l 5) = some d)
    (a0 : 0 ≤ a) (a1 : a < 16) (b0 : 0 ≤ b) (b1 : b < 16) (c0 : 0 ≤ c) (c1 : c < 16) (d0 : 0 ≤ d) (d1 : d < 16) : jsonparser_decodeSingleUnicodeEscape.f 9 l = some (a * 4096 + b * 256 + c * 16 + d, true) := by
  unfold jsonparser_decodeSingleUnicodeEscape.f
  rw [if_neg (by omega), if_pos (by omega), ha, Option.bind_some, if_pos (by omega), hb, Option.bind_some, if_pos (by omega), hc, Option.bind_some, if_pos (by omega), hd, Option.bind_some, if_neg (by omega), if_neg (by omega), if_neg (by omega), if_neg (by omega)]
  rw [w64 (x := a * 4096) (by omega) (by omega), w64 (x := b * 256) (by omega) (by omega), w64 (x := c * 16) (by omega) (by omega), w64 (x := a * 4096 + b * 256) (by omega) (by omega), w64 (x := a * 4096 + b * 256 + c * 16) (by omega) (by omega), w64 (by omega) (by omega)]
  congr 2
  unfold wrap32
  omega
theorem decode_ctl (b : Int) (h0 : 0 ≤ b) (h1 : b < 32) (t : List Int) : jsonparser_decodeUnicodeEscape.f 9 (92 :: 117 :: 48 :: 48 :: dgt (b / 16) :: dgt (b % 16) :: t) = some (b, 6) := by
  have hs := single (92 :: 117 :: 48 :: 48 :: dgt (b / 16) :: dgt (b % 16) :: t) 0 0 (b / 16) (b % 16) (by simp) (hex9 0 (by decide) (by decide)) (hex9 0 (by decide) (by decide)) (hex9 (b / 16) (by omega) (by omega)) (hex9 (b % 16) (by omega) (by omega)) (by decide) (by decide) (by decide) (by decide) (by omega) (by omega) (by omega) (by omega)
  unfold jsonparser_decodeUnicodeEscape.f
  rw [hs, Option.bind_some, if_pos rfl]
  have e : (0 : Int) * 4096 + 0 * 256 + b / 16 * 16 + b % 16 = b := by omega
  simp only [e]
  unfold jsonparser_isUTF16EncodedRune.f
  rw [if_neg (by omega), Option.bind_some, if_neg Bool.false_ne_true]
theorem unF_pc (bs : List Int) (hb : ∀ b ∈ bs, 0 ≤ b ∧ b < 256) : ∀ f : Nat, bs.length + 1 ≤ f → unF f (bs.flatMap pc) = some bs := by
  induction bs with
  | nil =>
    intro f hf
    obtain ⟨f, rfl⟩ : ∃ g, f = g + 1 := ⟨f - 1, by simp at hf; omega⟩
    rfl
  | cons b bs ih =>
    intro f hf
    obtain ⟨f, rfl⟩ : ∃ g, f = g + 1 := ⟨f - 1, by simp at hf; omega⟩
    have hr := ih (fun x hx => hb x (by simp [hx])) f (by simp at hf; omega)
    have hbb := hb b (by simp)
    rw [List.flatMap_cons]
    by_cases hsp : b = 8 ∨ b = 12 ∨ b = 10 ∨ b = 13 ∨ b = 9 ∨ b = 34 ∨ b = 92
    · have hpc : pc b = [92, letF b] := by unfold pc; rw [if_pos hsp]
      have hse : simpleE (letF b) = true ∧ escT.getD (letF b).toNat 0 = b := by
        rcases hsp with rfl | rfl | rfl | rfl | rfl | rfl | rfl <;> exact ⟨rfl, rfl⟩
      rw [hpc]
      show unF (f + 1) (92 :: letF b :: bs.flatMap pc) = some (b :: bs)
      rw [unF, if_pos rfl, if_pos (by simp), show rd (92 :: letF b :: bs.flatMap pc) 1 = letF b from rfl, if_pos hse.1, show (letF b :: bs.flatMap pc).drop 1 = bs.flatMap pc from rfl, hr, hse.2]
      rfl
    · by_cases h32 : b < 32
      · have hpc : pc b = [92, 117, 48, 48, dgt (b / 16), dgt (b % 16)] := by unfold pc; rw [if_neg hsp, if_pos h32]
        rw [hpc]
        show unF (f + 1) (92 :: 117 :: 48 :: 48 :: dgt (b / 16) :: dgt (b % 16) :: bs.flatMap pc) = some (b :: bs)
        rw [unF, if_pos rfl, if_pos (by simp), show rd (92 :: 117 :: 48 :: 48 :: dgt (b / 16) :: dgt (b % 16) :: bs.flatMap pc) 1 = 117 from rfl, if_neg (by decide), if_pos rfl, decode_ctl b hbb.1 h32]
        simp only
        have hok : okRb b 6 = true := by
          simp only [okRb, Bool.and_eq_true, Bool.or_eq_true, beq_iff_eq, decide_eq_true_eq]
          refine ⟨⟨⟨.inl trivial, hbb.1⟩, by omega⟩, .inl (by omega)⟩
        rw [if_pos ⟨hok, by simp⟩, show (92 :: 117 :: 48 :: 48 :: dgt (b / 16) :: dgt (b % 16) :: bs.flatMap pc).drop (6 : Int).toNat = bs.flatMap pc from rfl, hr, show encN b = [b] by unfold encN; rw [if_pos (by omega)]]
        rfl
      · have hpc : pc b = [b] := by unfold pc; rw [if_neg hsp, if_neg h32]
        rw [hpc]
        show unF (f + 1) (b :: bs.flatMap pc) = some (b :: bs)
        rw [unF, if_neg (fun h => hsp (by omega)), hr]
        rfl
theorem pc_rng (b : Int) (h0 : 0 ≤ b) (h1 : b < 256) : ∀ x ∈ pc b, 0 ≤ x ∧ x < 256 := by
  intro x hx
  unfold pc at hx
  split at hx
  · rename_i h
    rcases h with rfl | rfl | rfl | rfl | rfl | rfl | rfl <;> simp [letF] at hx <;> omega
  · split at hx
    · simp only [List.mem_cons, List.not_mem_nil, or_false, dgt] at hx
      rcases hx with rfl | rfl | rfl | rfl | rfl | rfl
      · omega
      · omega
      · omega
      · omega
      · split <;> omega
      · split <;> omega
    · simp at hx
      omega
theorem flat_rng (bs : List Int) (hb : ∀ b ∈ bs, 0 ≤ b ∧ b < 256) : ∀ x ∈ bs.flatMap pc, 0 ≤ x ∧ x < 256 := by
  intro x hx
  obtain ⟨b, hbm, hxb⟩ := List.mem_flatMap.1 hx
  exact pc_rng b (hb b hbm).1 (hb b hbm).2 x hxb
theorem len_flat (bs : List Int) : bs.length ≤ (bs.flatMap pc).length := by
  induction bs with
  | nil => simp
  | cons b bs ih =>
    have : 1 ≤ (pc b).length := by unfold pc; split <;> (try split) <;> simp
    rw [List.flatMap_cons, List.length_append, List.length_cons]
    omega
theorem no_esc (bs : List Int) (h : ∀ x ∈ bs.flatMap pc, x ≠ 92) : bs.flatMap pc = bs := by
  induction bs with
  | nil => rfl
  | cons b bs ih =>
    rw [List.flatMap_cons] at h ⊢
    rw [ih (fun x hx => h x (by simp [hx]))]
    have hb : pc b = [b] := by
      unfold pc at h ⊢
      split
      · rename_i hs
        rw [if_pos hs] at h
        exact absurd rfl (h 92 (by simp))
      · rename_i hs
        rw [if_neg hs] at h
        split
        · rename_i h32
          rw [if_pos h32] at h
          exact absurd rfl (h 92 (by simp))
        · rfl
    rw [hb]
    rfl
/-- What Unescape tells of it. -/
theorem unesc_pc (bs : List Int) (hb : ∀ b ∈ bs, 0 ≤ b ∧ b < 256) (hl : bs.length ≤ 1000) (h : ∃ x ∈ bs.flatMap pc, x = 92) : jsonparser_Unescape.f (bs.flatMap pc) [] = some (bs, none) := by
  unfold jsonparser_Unescape.f
  have h6 := flat_len bs
  have h1 : (bs.flatMap pc).all (fun x => decide (0 ≤ x) && decide (x < 256)) = true := by
    apply List.all_eq_true.2
    intro x hx
    have := flat_rng bs hb x hx
    simp
    omega
  have h2 : (bs.flatMap pc).contains 92 = true := by
    obtain ⟨x, hx, rfl⟩ := h
    simpa using hx
  rw [if_pos ⟨rfl, by omega, h1, h2⟩, unF_pc bs hb _ (by have := len_flat bs; omega)]
  rfl
end Go.Proofs.YtobmnfbplmefoaaDoor.JFnJqPathOf
/- A path of jsonparser's read back: a name, an index, a piece, all pieces; no condition beside those that each theorem states. -/
namespace Go.Proofs.YtobmnfbplmefoaaDoor.JFnJqPathOf
open Go.RowKit Go.Proofs.YtobmnfbplmefoaaDoor.PFnJqPathOf Go.Proofs.YtobmnfbplmefoaaDoorW.PrintWords Go.Proofs.YtobmnfbplmefoaaDoorW.PrintLast Go.Proofs.YtobmnfbplmefoaaDoorW.PrintMore
set_option linter.unusedSimpArgs false
set_option linter.unusedVariables false
/-! ### a name that stands as it is -/
def Pl (b : Int) : Prop := b ≠ 46 ∧ b ≠ 91 ∧ b ≠ 93 ∧ b ≠ 34
/-- What stands behind a piece: nothing, or a sign that ends it. -/
def Stop (r : List Int) : Prop := r = [] ∨ ∃ b t, r = b :: t ∧ (b = 46 ∨ b = 91)
theorem plain_l1 (T : ByteArray) (hz : T.size ≤ 1000000) (x4 : List ByteArray) (x9 : Int) (r : List Int) (hs : Stop r) {res : List ByteArray × Option Int} (nm : List Int) : ∀ i : Nat, D T i = nm ++ r → (∀ b ∈ nm, Pl b) →
    Ev (fun k => jsonparser_ParsePath.j3 k T x4 ((i + nm.length : Nat) : Int) x9 false) res → Ev (fun k => jsonparser_ParsePath.l1 k T x4 (i : Int) x9) res := by
  induction nm with
  | nil =>
    intro i h _ he
    rw [List.nil_append] at h
    refine Ev.step (fun k => by rw [jsonparser_ParsePath.l1]) ?_
    rcases hs with rfl | ⟨b, t, rfl, hb⟩
    · have := D_nil h
      exact Ev.neg (by omega) he
    · obtain ⟨h1, h2, h3⟩ := D_cons h
      refine Ev.pos (by omega) (Ev.pos (by omega) ?_)
      rw [h2]
      rcases hb with rfl | rfl
      · exact Ev.pos rfl he
      · exact Ev.neg (by decide) he
  | cons b nm ih =>
    intro i h hp he
    obtain ⟨h1, h2, h3⟩ := D_cons h
    obtain ⟨p1, p2, p3, p4⟩ := hp b (by simp)
    have e2 : wrap64 ((i : Int) + 1) = ((i + 1 : Nat) : Int) := by rw [w64] <;> omega
    refine Ev.step (fun k => by rw [jsonparser_ParsePath.l1]) (Ev.pos (by omega) (Ev.pos (by omega) ?_))
    rw [h2]
    refine Ev.neg p1 (Ev.step (fun k => by rw [jsonparser_ParsePath.j3]) (Ev.pos (bne_iff_ne.2 p2) (Ev.pos (by omega) (Ev.pos (by omega) ?_))))
    rw [h2, e2]
    refine Ev.neg p3 (Ev.neg p4 (ih (i + 1) h3 (fun x hx => hp x (by simp [hx])) ?_))
    rw [List.length_cons] at he
    rwa [show i + 1 + nm.length = i + (nm.length + 1) by omega]
theorem plain_ev (T : ByteArray) (hz : T.size ≤ 1000000) (x4 : List ByteArray) (hx : x4.length ≤ 1000000) (r : List Int) (hs : Stop r) {res : List ByteArray × Option Int} (nm : List Int) (hne : nm ≠ []) (i : Nat) (h : D T i = nm ++ r) (hp : ∀ b ∈ nm, Pl b)
    (he : Ev (fun k => jsonparser_ParsePath.j4 k T (x4 ++ [strOfNums nm]) ((i + nm.length : Nat) : Int)) res) : Ev (fun k => jsonparser_ParsePath.l1 k T x4 (i : Int) (i : Int)) res := by
  have hpos : 0 < nm.length := List.length_pos_iff.2 hne
  have hi : i ≤ T.size := by
    obtain ⟨b, t, rfl⟩ := List.exists_cons_of_ne_nil hne
    have := (D_cons h).1
    omega
  obtain ⟨h1, h2, h3⟩ := D_app h hi
  refine plain_l1 T hz x4 (i : Int) r hs nm i h hp (Ev.step (fun k => by rw [jsonparser_ParsePath.j3]) (Ev.neg Bool.false_ne_true (Ev.neg (by omega) (Ev.pos (by omega) (Ev.pos (by omega) (Ev.pos (by omega) (Ev.pos (by omega) ?_)))))))
  rw [Int.toNat_natCast, Int.toNat_natCast, h3]
  exact he
/-! ### a name that stands as a string -/
theorem hexd (x : Int) (h0 : 0 ≤ x) (h1 : x < 16) : dgt x ≠ 92 ∧ dgt x ≠ 34 ∧ ¬ dgt x < 32 := by
  unfold dgt
  split <;> omega
theorem quoted_step (T : ByteArray) (hz : T.size ≤ 1000000) (x7 : Int) {res : ByteArray × Int × Option Int} (b : Int) (h0 : 0 ≤ b) (h1 : b < 256) (r : List Int) (hr : r ≠ []) (i : Nat) (h : D T i = pc b ++ r)
    (he : Ev (fun k => jsonparser_parseQuotedPathKey.l0 k T x7 ((i + (pc b).length : Nat) : Int)) res) : Ev (fun k => jsonparser_parseQuotedPathKey.l0 k T x7 (i : Int)) res := by
  have one : ∀ (c : Int) (t : List Int) (j : Nat), D T j = c :: t → c ≠ 92 → c ≠ 34 → ¬ c < 32 → Ev (fun k => jsonparser_parseQuotedPathKey.l0 k T x7 ((j + 1 : Nat) : Int)) res → Ev (fun k => jsonparser_parseQuotedPathKey.l0 k T x7 (j : Int)) res := by
    intro c t j hj c1 c2 c3 e
    obtain ⟨q1, q2, q3⟩ := D_cons hj
    have e2 : wrap64 ((j : Int) + 1) = ((j + 1 : Nat) : Int) := by rw [w64] <;> omega
    refine Ev.step (fun k => by rw [jsonparser_parseQuotedPathKey.l0]) (Ev.pos (by omega) (Ev.pos (by omega) ?_))
    rw [q2, e2]
    exact Ev.neg c1 (Ev.neg c2 (Ev.neg c3 e))
  have two : ∀ (c : Int) (t : List Int) (j : Nat), D T j = 92 :: c :: t → Ev (fun k => jsonparser_parseQuotedPathKey.l0 k T x7 ((j + 2 : Nat) : Int)) res → Ev (fun k => jsonparser_parseQuotedPathKey.l0 k T x7 (j : Int)) res := by
    intro c t j hj e
    obtain ⟨q1, q2, q3⟩ := D_cons hj
    obtain ⟨q4, q5, q6⟩ := D_cons q3
    have e2 : wrap64 ((j : Int) + 1) = ((j + 1 : Nat) : Int) := by rw [w64] <;> omega
    have e3 : wrap64 (((j + 1 : Nat) : Int) + 1) = ((j + 2 : Nat) : Int) := by rw [w64] <;> omega
    refine Ev.step (fun k => by rw [jsonparser_parseQuotedPathKey.l0]) (Ev.pos (by omega) (Ev.pos (by omega) ?_))
    rw [q2, e2, e3]
    exact Ev.pos rfl (Ev.neg (by omega) e)
  by_cases hsp : b = 8 ∨ b = 12 ∨ b = 10 ∨ b = 13 ∨ b = 9 ∨ b = 34 ∨ b = 92
  · have hpc : pc b = [92, letF b] := by unfold pc; rw [if_pos hsp]
    rw [hpc] at h he
    exact two _ _ i h he
  · by_cases h32 : b < 32
    · have hpc : pc b = [92, 117, 48, 48, dgt (b / 16), dgt (b % 16)] := by unfold pc; rw [if_neg hsp, if_pos h32]
      rw [hpc] at h he
      have d1 := hexd (b / 16) (by omega) (by omega)
      have d2 := hexd (b % 16) (by omega) (by omega)
      have g2 : D T (i + 2) = 48 :: 48 :: dgt (b / 16) :: dgt (b % 16) :: r := (D_cons (D_cons h).2.2).2.2
      refine two _ _ i h (one 48 _ (i + 2) g2 (by decide) (by decide) (by decide) (one 48 _ (i + 3) (D_cons g2).2.2 (by decide) (by decide) (by decide) (one _ _ (i + 4) (D_cons (D_cons g2).2.2).2.2 d1.1 d1.2.1 d1.2.2 (one _ _ (i + 5) (D_cons (D_cons (D_cons g2).2.2).2.2).2.2 d2.1 d2.2.1 d2.2.2 he))))
    · have hpc : pc b = [b] := by unfold pc; rw [if_neg hsp, if_neg h32]
      rw [hpc] at h he
      exact one b r i h (fun e => hsp (by omega)) (fun e => hsp (by omega)) h32 he
theorem quoted_l0 (T : ByteArray) (hz : T.size ≤ 1000000) (x7 : Int) {res : ByteArray × Int × Option Int} (r : List Int) (bs : List Int) : ∀ i : Nat, (∀ b ∈ bs, 0 ≤ b ∧ b < 256) → D T i = bs.flatMap pc ++ 34 :: r →
    Ev (fun k => jsonparser_parseQuotedPathKey.l0 k T x7 ((i + (bs.flatMap pc).length : Nat) : Int)) res → Ev (fun k => jsonparser_parseQuotedPathKey.l0 k T x7 (i : Int)) res := by
  induction bs with
  | nil => intro i _ _ he; exact he
  | cons b bs ih =>
    intro i hb h he
    rw [List.flatMap_cons, List.append_assoc] at h
    rw [List.flatMap_cons, List.length_append] at he
    have hbb := hb b (by simp)
    have hi : i ≤ T.size := by
      have hl := D_len T i
      rw [h, List.length_append, List.length_append, List.length_cons] at hl
      omega
    refine quoted_step T hz x7 b hbb.1 hbb.2 _ (by simp) i h (ih _ (fun x hx => hb x (by simp [hx])) (D_app h hi).1 ?_)
    rwa [show i + (pc b).length + (bs.flatMap pc).length = i + ((pc b).length + (bs.flatMap pc).length) by omega]
theorem quoted_ev (T : ByteArray) (hz : T.size ≤ 1000000) (nm : ByteArray) (hn : nm.size ≤ 100) (r : List Int) (i : Nat) (h : D T i = 34 :: ((bytesOf nm).flatMap pc ++ 34 :: r)) :
    Ev (fun k => jsonparser_parseQuotedPathKey.f k T (i : Int)) (nm, ((i + 1 + ((bytesOf nm).flatMap pc).length + 1 : Nat) : Int), none) := by
  obtain ⟨q1, q2, q3⟩ := D_cons h
  have hbr := bytes_rng nm
  have e1 : wrap64 ((i : Int) + 1) = ((i + 1 : Nat) : Int) := by rw [w64] <;> omega
  refine Ev.congr (fun k => by rw [jsonparser_parseQuotedPathKey.f, e1]) (quoted_l0 T hz _ r (bytesOf nm) (i + 1) hbr q3 ?_)
  obtain ⟨a1, a2, a3⟩ := D_app q3 (by omega)
  obtain ⟨b1, b2, b3⟩ := D_cons a1
  have hlb := bytesOf_length nm
  have hfl := flat_len (bytesOf nm)
  obtain ⟨m, hm⟩ : ∃ m, i + 1 + ((bytesOf nm).flatMap pc).length = m := ⟨_, rfl⟩
  rw [hm] at a2 a3 b1 b2 ⊢
  have e2 : wrap64 ((m : Int) + 1) = ((m + 1 : Nat) : Int) := by rw [w64] <;> omega
  refine Ev.step (fun k => by rw [jsonparser_parseQuotedPathKey.l0]) (Ev.pos (by omega) (Ev.pos (by omega) ?_))
  rw [b2]
  refine Ev.neg (by decide) (Ev.pos rfl (Ev.pos (by omega) (Ev.pos (by omega) (Ev.pos (by omega) ?_))))
  rw [Int.toNat_natCast, Int.toNat_natCast, a3, e2]
  have hfr := flat_rng (bytesOf nm) hbr
  have hbs := bytesOf_str ((bytesOf nm).flatMap pc) hfr
  have hdat : (strOfNums ((bytesOf nm).flatMap pc)).data.toList = Lib.bytesOf ((bytesOf nm).flatMap pc) := by
    simp [strOfNums, Lib.bytesOf]
  have hcv : (92 : Int).toNat.toUInt8 = UInt8.ofNat (92 : Int).toNat := rfl
  by_cases hx : ∃ x ∈ (bytesOf nm).flatMap pc, x = 92
  · have hu := unesc_pc (bytesOf nm) hbr (by omega) hx
    obtain ⟨x, hx1, rfl⟩ := hx
    have hf : ∃ o : Nat, strings_IndexByte.f (strOfNums ((bytesOf nm).flatMap pc)) 92 = some (o : Int) := by
      unfold strings_IndexByte.f
      rw [hdat]
      have hge := Lib.indexByte_ge (Lib.bytesOf ((bytesOf nm).flatMap pc)) (92 : Int).toNat.toUInt8
      have hne : Lib.indexByte (Lib.bytesOf ((bytesOf nm).flatMap pc)) (92 : Int).toNat.toUInt8 ≠ -1 := by
        intro hc
        obtain ⟨j, hj, hj2⟩ := List.mem_iff_getElem.1 hx1
        refine Lib.indexByte_none hc j ?_
        simp only [Lib.bytesOf, List.getElem?_map, List.getElem?_eq_getElem hj, hj2, Option.map_some]
      exact ⟨(Lib.indexByte (Lib.bytesOf ((bytesOf nm).flatMap pc)) (92 : Int).toNat.toUInt8).toNat, by congr 1; omega⟩
    obtain ⟨o, ho⟩ := hf
    refine Ev.bd ho (Ev.neg (by omega) (Ev.pos (by rw [strOfNums_size]; omega) (Ev.bd (by rw [hbs]; exact hu) (Ev.pos rfl ?_))))
    rw [str_bytes]
    exact Ev.now _
  · have hn92 : ∀ x ∈ (bytesOf nm).flatMap pc, x ≠ 92 := fun x hx1 he => hx ⟨x, hx1, he⟩
    have hsame := no_esc _ hn92
    have hf : strings_IndexByte.f (strOfNums ((bytesOf nm).flatMap pc)) 92 = some (-1) := by
      unfold strings_IndexByte.f
      rw [hdat, idx_none _ (fun x hx1 => ⟨hn92 x hx1, hfr x hx1⟩)]
    refine Ev.bd hf (Ev.pos rfl ?_)
    rw [hsame, str_bytes]
    exact Ev.now _
end Go.Proofs.YtobmnfbplmefoaaDoor.JFnJqPathOf
/- A path of jsonparser's read back: an index, a piece, the whole; no condition beside those that each theorem states. -/
namespace Go.Proofs.YtobmnfbplmefoaaDoor.JFnJqPathOf
open Go.RowKit Go.Proofs.YtobmnfbplmefoaaDoor.PFnJqPathOf Go.Proofs.YtobmnfbplmefoaaDoorW.PrintWords Go.Proofs.YtobmnfbplmefoaaDoorW.PrintLast Go.Proofs.YtobmnfbplmefoaaDoorW.PrintMore
set_option linter.unusedSimpArgs false
set_option linter.unusedVariables false
/-! ### an index -/
def OkD (ds : List Int) : Prop := ds = [42] ∨ (ds ≠ [] ∧ ∀ b ∈ ds, 48 ≤ b ∧ b ≤ 57)
def cT (ds : List Int) : List Int := 91 :: (ds ++ [93])
theorem OkD.ne {ds : List Int} (h : OkD ds) : ds ≠ [] := by
  rcases h with rfl | h
  · simp
  · exact h.1
theorem OkD.mem {ds : List Int} (h : OkD ds) : ∀ b ∈ ds, 42 ≤ b ∧ b ≤ 57 := by
  intro b hb
  rcases h with rfl | h
  · simp at hb; omega
  · have := h.2 b hb; omega
theorem scan_ev (T : ByteArray) (hz : T.size ≤ 1000000) (x1 : Int) (r : List Int) {res : ByteArray × Int × Option Int} (ds : List Int) : ∀ j : Nat, D T j = ds ++ 93 :: r → (∀ b ∈ ds, 42 ≤ b ∧ b ≤ 57) →
    Ev (fun k => jsonparser_parseBracketPathComponent.j1 k T x1 ((j + ds.length : Nat) : Int) false) res → Ev (fun k => jsonparser_parseBracketPathComponent.l0 k T x1 (j : Int)) res := by
  induction ds with
  | nil =>
    intro j h _ he
    obtain ⟨q1, q2, q3⟩ := D_cons h
    refine Ev.step (fun k => by rw [jsonparser_parseBracketPathComponent.l0]) (Ev.pos (by omega) (Ev.pos (by omega) ?_))
    rw [q2]
    exact he
  | cons b ds ih =>
    intro j h hb he
    obtain ⟨q1, q2, q3⟩ := D_cons h
    have hbb := hb b (by simp)
    have e2 : wrap64 ((j : Int) + 1) = ((j + 1 : Nat) : Int) := by rw [w64] <;> omega
    rw [List.length_cons] at he
    refine Ev.step (fun k => by rw [jsonparser_parseBracketPathComponent.l0]) (Ev.pos (by omega) (Ev.pos (by omega) ?_))
    rw [q2, show (b != 93) = true from bne_iff_ne.2 (by omega)]
    refine Ev.step (fun k => by rw [jsonparser_parseBracketPathComponent.j1]) (Ev.pos rfl (Ev.pos (by omega) (Ev.pos (by omega) ?_)))
    rw [q2, e2]
    refine Ev.neg (by omega) (Ev.neg (by omega) (ih (j + 1) q3 (fun x hx => hb x (by simp [hx])) ?_))
    rwa [show j + 1 + ds.length = j + (ds.length + 1) by omega]
theorem dig_ev (T : ByteArray) (hz : T.size ≤ 1000000) (x1 : Int) (x7 : Nat) {res : ByteArray × Int × Option Int} (r : List Int) (ds : List Int) : ∀ j : Nat, D T j = ds ++ 93 :: r → (∀ b ∈ ds, 48 ≤ b ∧ b ≤ 57) → j + ds.length = x7 → x7 ≤ T.size →
    Ev (fun k => if 0 ≤ x1 then (if x1 ≤ (wrap64 ((x7 : Int) + 1)) then (if (wrap64 ((x7 : Int) + 1)) ≤ (T.size : Int) then (some (T.extract (x1 : Int).toNat ((wrap64 ((x7 : Int) + 1)) : Int).toNat, wrap64 ((x7 : Int) + 1), (none : Option Int))) else none) else none) else none) res →
    Ev (fun k => jsonparser_parseBracketPathComponent.l1 k T x1 (x7 : Int) (j : Int)) res := by
  induction ds with
  | nil =>
    intro j h _ hl hx he
    rw [List.length_nil] at hl
    exact Ev.step (fun k => by rw [jsonparser_parseBracketPathComponent.l1]) (Ev.neg (by omega) he)
  | cons b ds ih =>
    intro j h hb hl hx he
    obtain ⟨q1, q2, q3⟩ := D_cons h
    have hbb := hb b (by simp)
    have e2 : wrap64 ((j : Int) + 1) = ((j + 1 : Nat) : Int) := by rw [w64] <;> omega
    rw [List.length_cons] at hl
    refine Ev.step (fun k => by rw [jsonparser_parseBracketPathComponent.l1]) (Ev.pos (by omega) (Ev.pos (by omega) (Ev.pos (by omega) ?_)))
    rw [q2, e2]
    exact Ev.neg (by omega) (Ev.neg (by omega) (ih (j + 1) q3 (fun x hx => hb x (by simp [hx])) (by omega) hx he))
theorem comp_ev (T : ByteArray) (hz : T.size ≤ 1000000) (ds : List Int) (hd : OkD ds) (r : List Int) (i : Nat) (h : D T i = cT ds ++ r) :
    Ev (fun k => jsonparser_parseBracketPathComponent.f k T (i : Int)) (strOfNums (cT ds), ((i + (cT ds).length : Nat) : Int), none) := by
  have hpos : 0 < ds.length := List.length_pos_iff.2 hd.ne
  have hlen : (cT ds).length = ds.length + 2 := by simp [cT]
  have hi : i ≤ T.size := by
    have hl := D_len T i
    rw [h, List.length_append, hlen] at hl
    omega
  obtain ⟨a1, a2, a3⟩ := D_app h hi
  have h' : D T i = 91 :: (ds ++ 93 :: r) := by rw [h]; simp [cT]
  obtain ⟨q1, q2, q3⟩ := D_cons h'
  have e1 : wrap64 ((i : Int) + 1) = ((i + 1 : Nat) : Int) := by rw [w64] <;> omega
  have e2 : wrap64 ((i : Int) + 2) = ((i + 2 : Nat) : Int) := by rw [w64] <;> omega
  obtain ⟨m, hm⟩ : ∃ m, i + 1 + ds.length = m := ⟨_, rfl⟩
  have e3 : wrap64 ((m : Int) + 1) = ((i + (cT ds).length : Nat) : Int) := by rw [w64] <;> omega
  refine Ev.congr (fun k => by rw [jsonparser_parseBracketPathComponent.f, e1]) (scan_ev T hz _ r ds (i + 1) q3 hd.mem ?_)
  rw [hm]
  refine Ev.step (fun k => by rw [jsonparser_parseBracketPathComponent.j1]) (Ev.neg Bool.false_ne_true (Ev.neg (by omega) ?_))
  rw [e1, show (((m : Int)) == ((i + 1 : Nat) : Int)) = false from beq_eq_false_iff_ne.2 (by omega)]
  refine Ev.step (fun k => by rw [jsonparser_parseBracketPathComponent.j2]) (Ev.neg Bool.false_ne_true ?_)
  rw [e1, e2]
  refine Ev.pos (by omega) (Ev.pos (by omega) ?_)
  have fin : Ev (fun k => if (0 : Int) ≤ (i : Int) then (if (i : Int) ≤ (wrap64 ((m : Int) + 1)) then (if (wrap64 ((m : Int) + 1)) ≤ (T.size : Int) then (some (T.extract ((i : Int) : Int).toNat ((wrap64 ((m : Int) + 1)) : Int).toNat, wrap64 ((m : Int) + 1), (none : Option Int))) else none) else none) else none) (strOfNums (cT ds), ((i + (cT ds).length : Nat) : Int), none) := by
    rw [e3]
    refine Ev.pos (by omega) (Ev.pos (by omega) (Ev.pos (by omega) ?_))
    rw [Int.toNat_natCast, Int.toNat_natCast, a3]
    exact Ev.now _
  rcases hd with rfl | hd
  · obtain ⟨q4, q5, q6⟩ := D_cons q3
    rw [q5]
    refine Ev.pos rfl (Ev.pos (by simp at hm; omega) fin)
  · obtain ⟨b, t, rfl⟩ := List.exists_cons_of_ne_nil hd.1
    obtain ⟨q4, q5, q6⟩ := D_cons q3
    have hb := hd.2 b (by simp)
    rw [q5]
    exact Ev.neg (by omega) (dig_ev T hz _ m r (b :: t) (i + 1) q3 hd.2 hm (by omega) fin)
/-! ### a piece -/
structure Pc where
  key : ByteArray
  q : Bool
  cs : List (List Int)
def csT (cs : List (List Int)) : List Int := (cs.map cT).flatten
def nmT (p : Pc) : List Int := if p.q = true then 34 :: ((bytesOf p.key).flatMap pc ++ [34]) else bytesOf p.key
def txt (p : Pc) : List Int := nmT p ++ csT p.cs
def prt (p : Pc) : List ByteArray := p.key :: p.cs.map (fun ds => strOfNums (cT ds))
structure OkP (p : Pc) : Prop where
  sz : p.key.size ≤ 100
  pl : p.q = false → bytesOf p.key ≠ [] ∧ ∀ b ∈ bytesOf p.key, Pl b
  cs : ∀ ds ∈ p.cs, OkD ds
  few : p.cs.length ≤ 3
def End (r : List Int) : Prop := r = [] ∨ ∃ t, r = 46 :: t
theorem comps_ev (T : ByteArray) (hz : T.size ≤ 1000000) (r : List Int) (hr : End r) {res : List ByteArray × Option Int} (cs : List (List Int)) : ∀ (i : Nat) (x4 : List ByteArray), D T i = csT cs ++ r → i ≤ T.size → (∀ ds ∈ cs, OkD ds) → x4.length + cs.length ≤ 1000000 →
    Ev (fun k => jsonparser_ParsePath.j6 k T (x4 ++ cs.map (fun ds => strOfNums (cT ds))) ((i + (csT cs).length : Nat) : Int) false) res → Ev (fun k => jsonparser_ParsePath.l2 k T x4 (i : Int)) res := by
  induction cs with
  | nil =>
    intro i x4 h hi _ _ he
    have he' : Ev (fun k => jsonparser_ParsePath.j6 k T x4 (i : Int) false) res := by simpa [csT] using he
    have h' : D T i = r := h
    refine Ev.step (fun k => by rw [jsonparser_ParsePath.l2]) ?_
    rcases hr with rfl | ⟨t, rfl⟩
    · have := D_nil h'
      exact Ev.neg (by omega) he'
    · obtain ⟨q1, q2, q3⟩ := D_cons h'
      refine Ev.pos (by omega) (Ev.pos (by omega) ?_)
      rw [q2]
      exact he'
  | cons ds cs ih =>
    intro i x4 h hi hd hx he
    have h' : D T i = cT ds ++ (csT cs ++ r) := by rw [h]; simp [csT]
    have h'' : D T i = 91 :: (ds ++ 93 :: (csT cs ++ r)) := by rw [h']; simp [cT]
    obtain ⟨q1, q2, q3⟩ := D_cons h''
    obtain ⟨a1, a2, a3⟩ := D_app h' hi
    have hc := comp_ev T hz ds (hd ds (by simp)) (csT cs ++ r) i h'
    rw [List.length_cons] at hx
    refine Ev.step (fun k => by rw [jsonparser_ParsePath.l2]) (Ev.pos (by omega) (Ev.pos (by omega) ?_))
    rw [q2, show ((91 : Int) == 91) = true from rfl]
    refine Ev.step (fun k => by rw [jsonparser_ParsePath.j6]) (Ev.pos rfl ?_)
    refine Ev.bind hc ?_
    refine Ev.pos rfl (Ev.pos (by omega) ?_)
    refine ih _ (x4 ++ [strOfNums (cT ds)]) a1 a2 (fun x hx => hd x (by simp [hx])) (by rw [List.length_append]; simp; omega) ?_
    have e : i + (csT (ds :: cs)).length = i + (cT ds).length + (csT cs).length := by simp [csT]; omega
    rw [e] at he
    simpa using he
theorem nmT_ne (p : Pc) (hp : OkP p) : nmT p ≠ [] := by
  unfold nmT
  split
  · simp
  · rename_i h
    exact (hp.pl (by simpa using h)).1
theorem stop_cs (cs : List (List Int)) (r : List Int) (hr : End r) : Stop (csT cs ++ r) := by
  cases cs with
  | nil =>
    rcases hr with rfl | ⟨t, rfl⟩
    · exact .inl rfl
    · exact .inr ⟨46, t, rfl, .inl rfl⟩
  | cons ds cs => exact .inr ⟨91, _, by simp [csT, cT]; rfl, .inr rfl⟩
theorem piece_ev (T : ByteArray) (hz : T.size ≤ 1000000) (r : List Int) (hr : End r) {res : List ByteArray × Option Int} (p : Pc) (hp : OkP p) (i : Nat) (x4 : List ByteArray) (h : D T i = txt p ++ r) (hx : x4.length + 4 ≤ 1000000)
    (he : Ev (fun k => jsonparser_ParsePath.j6 k T (x4 ++ prt p) ((i + (txt p).length : Nat) : Int) false) res) : Ev (fun k => jsonparser_ParsePath.l0 k T x4 (i : Int)) res := by
  have hf := hp.few
  have hn0 : 0 < (nmT p).length := List.length_pos_iff.2 (nmT_ne p hp)
  have h' : D T i = nmT p ++ (csT p.cs ++ r) := by rw [h, txt, List.append_assoc]
  have hi : i < T.size := by
    have hl := D_len T i
    rw [h', List.length_append] at hl
    omega
  obtain ⟨a1, a2, a3⟩ := D_app h' (Nat.le_of_lt hi)
  have tail : Ev (fun k => jsonparser_ParsePath.j4 k T (x4 ++ [p.key]) ((i + (nmT p).length : Nat) : Int)) res := by
    refine Ev.step (fun k => by rw [jsonparser_ParsePath.j4]) ?_
    refine comps_ev T hz r hr p.cs _ (x4 ++ [p.key]) a1 a2 hp.cs (by rw [List.length_append]; simp; omega) ?_
    have e : i + (txt p).length = i + (nmT p).length + (csT p.cs).length := by rw [txt, List.length_append]; omega
    rw [e] at he
    simpa [prt] using he
  refine Ev.step (fun k => by rw [jsonparser_ParsePath.l0]) (Ev.pos (by omega) (Ev.pos (by omega) ?_))
  cases hq : p.q with
  | true =>
    have hnm : nmT p = 34 :: ((bytesOf p.key).flatMap pc ++ [34]) := by unfold nmT; rw [if_pos hq]
    have h2 : D T i = 34 :: ((bytesOf p.key).flatMap pc ++ 34 :: (csT p.cs ++ r)) := by rw [h', hnm]; simp
    obtain ⟨q1, q2, q3⟩ := D_cons h2
    rw [q2]
    have hqv := quoted_ev T hz p.key hp.sz _ i h2
    have e : i + 1 + ((bytesOf p.key).flatMap pc).length + 1 = i + (nmT p).length := by rw [hnm]; simp; omega
    rw [e] at hqv
    exact Ev.neg (by decide) (Ev.pos rfl (Ev.bind hqv (Ev.pos rfl (Ev.pos (by omega) tail))))
  | false =>
    have hnm : nmT p = bytesOf p.key := by unfold nmT; rw [if_neg (by simp [hq])]
    obtain ⟨hne, hpl⟩ := hp.pl hq
    rw [hnm] at h' tail
    obtain ⟨b, t, hbt⟩ := List.exists_cons_of_ne_nil hne
    have h2 : D T i = b :: (t ++ (csT p.cs ++ r)) := by rw [h', hbt]; rfl
    obtain ⟨q1, q2, q3⟩ := D_cons h2
    have hb := hpl b (by rw [hbt]; simp)
    rw [q2]
    refine Ev.neg hb.1 (Ev.neg hb.2.2.2 (Ev.neg hb.2.1 ?_))
    refine plain_ev T hz x4 (by omega) _ (stop_cs p.cs r hr) (bytesOf p.key) hne i h' hpl ?_
    rw [str_bytes]
    exact tail
/-- What stands behind the first piece. -/
def more (ps : List Pc) : List Int := (ps.map fun p => 46 :: txt p).flatten
theorem end_more (ps : List Pc) : End (more ps) := by
  cases ps with
  | nil => exact .inl rfl
  | cons p ps => exact .inr ⟨_, by simp [more]; rfl⟩
theorem pieces_ev (T : ByteArray) (hz : T.size ≤ 1000000) (ps : List Pc) : ∀ (p : Pc) (i : Nat) (x4 : List ByteArray), OkP p → (∀ q ∈ ps, OkP q) → D T i = txt p ++ more ps → x4.length + 4 * (ps.length + 1) ≤ 1000000 →
    Ev (fun k => jsonparser_ParsePath.l0 k T x4 (i : Int)) (x4 ++ (prt p ++ (ps.map prt).flatten), none) := by
  induction ps with
  | nil =>
    intro p i x4 hp _ h hx
    have hi : i ≤ T.size := by
      have hl := D_len T i
      rw [h, List.length_append] at hl
      have := List.length_pos_iff.2 (nmT_ne p hp)
      have h3 : (txt p).length = (nmT p).length + (csT p.cs).length := by rw [txt, List.length_append]
      omega
    obtain ⟨a1, a2, a3⟩ := D_app h hi
    have hsz := D_nil a1
    refine piece_ev T hz _ (end_more []) p hp i x4 h (by simp at hx; omega) (Ev.step (fun k => by rw [jsonparser_ParsePath.j6]) (Ev.neg Bool.false_ne_true (Ev.pos (by omega) (Ev.neg ?_ ?_))))
    · simp [prt]
      omega
    · simp only [List.map_nil, List.flatten_nil, List.append_nil]
      exact Ev.now _
  | cons q ps ih =>
    intro p i x4 hp hps h hx
    have hi : i ≤ T.size := by
      have hl := D_len T i
      rw [h, List.length_append] at hl
      have := List.length_pos_iff.2 (nmT_ne p hp)
      have h3 : (txt p).length = (nmT p).length + (csT p.cs).length := by rw [txt, List.length_append]
      omega
    obtain ⟨a1, a2, a3⟩ := D_app h hi
    have a1' : D T (i + (txt p).length) = 46 :: (txt q ++ more ps) := by rw [a1]; simp [more]
    obtain ⟨q1, q2, q3⟩ := D_cons a1'
    have hq := hps q (by simp)
    have hlt : i + (txt p).length + 1 < T.size := by
      have hl := D_len T (i + (txt p).length + 1)
      rw [q3, List.length_append] at hl
      have := List.length_pos_iff.2 (nmT_ne q hq)
      have h3 : (txt q).length = (nmT q).length + (csT q.cs).length := by rw [txt, List.length_append]
      omega
    have hf := hp.few
    have hpl : (prt p).length = p.cs.length + 1 := by simp [prt]
    rw [List.length_cons] at hx
    have hn := ih q (i + (txt p).length + 1) (x4 ++ prt p) hq (fun z hz => hps z (by simp [hz])) q3 (by rw [List.length_append, hpl]; omega)
    obtain ⟨m, hm⟩ : ∃ m, i + (txt p).length = m := ⟨_, rfl⟩
    rw [hm] at q1 q2 hlt hn
    have e2 : wrap64 ((m : Int) + 1) = ((m + 1 : Nat) : Int) := by rw [w64] <;> omega
    refine piece_ev T hz _ (end_more (q :: ps)) p hp i x4 h (by omega) ?_
    rw [hm]
    refine Ev.step (fun k => by rw [jsonparser_ParsePath.j6]) (Ev.neg Bool.false_ne_true (Ev.neg (by omega) (Ev.pos (by omega) (Ev.pos (by omega) ?_))))
    rw [q2, e2]
    refine Ev.pos rfl (Ev.neg (by omega) ?_)
    simpa using hn
end Go.Proofs.YtobmnfbplmefoaaDoor.JFnJqPathOf
/- Names of a path: their characters, whether they may stand as they are; the digits of a number; no condition beside those that each theorem states. -/
namespace Go.Proofs.YtobmnfbplmefoaaDoor.JFnJqPathOf
open Go.RowKit Go.Proofs.YtobmnfbplmefoaaDoor.PFnJqPathOf Go.Proofs.YtobmnfbplmefoaaDoorW.PrintWords Go.Proofs.YtobmnfbplmefoaaDoorW.PrintLast Go.Proofs.YtobmnfbplmefoaaDoorW.PrintMore
set_option linter.unusedSimpArgs false
set_option linter.unusedVariables false
/-! ### characters -/
theorem en_high {c : Int} (h : ¬ c < 128) (hv : UFnJqPathOf.Vd c) : ∀ x ∈ UFnJqPathOf.en c, 128 ≤ x := by
  unfold UFnJqPathOf.Vd at hv
  unfold UFnJqPathOf.en
  rw [if_neg h]
  intro x
  split
  · simp; omega
  · split
    · simp; omega
    · simp; omega
theorem utf8_l0 (s : ByteArray) (hs : s.size ≤ 100) (n : Nat) : ∀ i : Nat, i ≤ s.size → s.size - i ≤ n → ∃ b, Ev (fun k => spec_UTF8.l0 k s i) b ∧ (b = true → Chs s i) := by
  induction n with
  | zero =>
    intro i h1 h2
    have e : i = s.size := by omega
    refine ⟨true, Ev.step (fun k => by rw [spec_UTF8.l0]) (Ev.neg (by omega) (Ev.now _)), fun _ => ?_⟩
    rw [e]
    exact .done
  | succ n ih =>
    intro i h1 h2
    by_cases hi : i = s.size
    · refine ⟨true, Ev.step (fun k => by rw [spec_UTF8.l0]) (Ev.neg (by omega) (Ev.now _)), fun _ => ?_⟩
      rw [hi]
      exact .done
    obtain ⟨c, n1, b, e, hc⟩ := UFnJqPathOf.char_ev s (by omega) i (by omega)
    have a1 := hc.n1
    have a4 := hc.n4
    cases b with
    | false =>
      refine ⟨false, Ev.step (fun k => by rw [spec_UTF8.l0]) (Ev.pos (by omega) ?_), nofun⟩
      refine Ev.bind e ?_
      exact Ev.neg Bool.false_ne_true (Ev.now _)
    | true =>
      have hle := hc.le rfl
      obtain ⟨m, hm⟩ : ∃ m : Nat, n1 = (m : Int) := ⟨n1.toNat, by omega⟩
      subst hm
      obtain ⟨b, e2, hb⟩ := ih (i + m) (by omega) (by omega)
      refine ⟨b, Ev.step (fun k => by rw [spec_UTF8.l0]) (Ev.pos (by omega) ?_), fun h => ?_⟩
      · refine Ev.bind e ?_
        refine Ev.pos rfl ?_
        have e3 : wrap64 ((i : Int) + (m : Int)) = ((i + m : Nat) : Int) := by rw [w64] <;> omega
        rw [e3]
        exact e2
      · obtain ⟨k, hk⟩ := e.rounds
        have hx := hc.ex rfl
        have hw := hc.wd rfl
        have hv := hc.vd rfl
        rw [Int.toNat_natCast] at hx
        have hby := UFnJqPathOf.en_by hv
        have hlen : m = (UFnJqPathOf.en c).length := by omega
        refine .step i m c k hk (by omega) (by omega) ?_ (hb h)
        have hq : ∀ q : Nat, i ≤ q → (hq2 : q < i + m) → ∃ x ∈ UFnJqPathOf.en c, bt s q = x := by
          intro q q1 q2
          have h3 := UFnJqPathOf.bt_x s i (i + m) ((q - i : Nat) : Int) (by omega) (by omega) (by omega)
          rw [hx, UFnJqPathOf.bt_nums _ hby (q - i) (by omega)] at h3
          rw [show (q : Int) = (i : Int) + ((q - i : Nat) : Int) by omega, ← h3]
          exact ⟨_, List.getElem_mem _, rfl⟩
        by_cases c1 : c < 128
        · have h5 := UFnJqPathOf.en_ascii c1
          obtain ⟨x, x1, x2⟩ := hq i (by omega) (by omega)
          rw [h5] at x1 hlen
          simp at x1 hlen
          exact .inl ⟨hlen, by omega, by omega⟩
        · refine .inr fun q q1 q2 => ?_
          obtain ⟨x, x1, x2⟩ := hq q q1 q2
          have := en_high c1 hv x x1
          omega
theorem utf8_ev (s : ByteArray) (hs : s.size ≤ 100) : ∃ b, Ev (fun k => spec_UTF8.f k s) b ∧ (b = true → Chs s 0) := by
  obtain ⟨b, e, h⟩ := utf8_l0 s hs s.size 0 (by omega) (by omega)
  exact ⟨b, e, h⟩
/-! ### names that may stand as they are -/
def PlainIs (s : ByteArray) : Prop := bytesOf s ≠ [] ∧ (∀ x ∈ bytesOf s, Pl x) ∧ bt s 0 ≠ 36
theorem plain_l0 (s : ByteArray) (hs : s.size ≤ 100) (r : List Int) : ∀ i : Nat, D s i = r → i ≤ s.size → (∀ x ∈ (bytesOf s).take i, Pl x) → ∃ b, Ev (fun k => spec_PlainPart.l0 k s i) b ∧ (b = true → PlainIs s) := by
  induction r with
  | nil =>
    intro i h hi hp
    have hsz := D_nil h
    have hl := bytesOf_length s
    have hall : ∀ x ∈ bytesOf s, Pl x := by
      intro x hx
      refine hp x ?_
      rw [List.take_of_length_le (by omega)]
      exact hx
    by_cases hz : s.size = 0
    · refine ⟨false, Ev.step (fun k => by rw [spec_PlainPart.l0]) (Ev.neg (by omega) (Ev.pos ?_ (Ev.now _))), nofun⟩
      rw [ByteArray.toList_eq]
      have h9 := data_length s
      exact List.eq_nil_of_length_eq_zero (by omega)
    · refine ⟨bt s 0 != 36, Ev.step (fun k => by rw [spec_PlainPart.l0]) (Ev.neg (by omega) (Ev.neg ?_ (Ev.pos (by omega) (Ev.now _)))), fun hb => ⟨?_, hall, by simpa using hb⟩⟩
      · intro hn
        rw [ByteArray.toList_eq] at hn
        have h9 := data_length s
        rw [hn] at h9
        exact hz h9.symm
      · intro hn
        rw [hn] at hl
        exact hz hl.symm
  | cons x r ih =>
    intro i h hi hp
    obtain ⟨h1, h2, h3⟩ := D_cons h
    have no : ∀ {f : Nat → Option Bool}, Ev f false → ∃ b, Ev f b ∧ (b = true → PlainIs s) := fun e => ⟨false, e, nofun⟩
    by_cases x1 : bt s i = 46
    · exact no (Ev.step (fun k => by rw [spec_PlainPart.l0]) (Ev.pos (by omega) (Ev.pos (by omega) (Ev.pos x1 (Ev.now _)))))
    by_cases x2 : bt s i = 91
    · exact no (Ev.step (fun k => by rw [spec_PlainPart.l0]) (Ev.pos (by omega) (Ev.pos (by omega) (Ev.neg x1 (Ev.pos x2 (Ev.now _))))))
    by_cases x3 : bt s i = 93
    · exact no (Ev.step (fun k => by rw [spec_PlainPart.l0]) (Ev.pos (by omega) (Ev.pos (by omega) (Ev.neg x1 (Ev.neg x2 (Ev.pos x3 (Ev.now _)))))))
    by_cases x4 : bt s i = 34
    · exact no (Ev.step (fun k => by rw [spec_PlainPart.l0]) (Ev.pos (by omega) (Ev.pos (by omega) (Ev.neg x1 (Ev.neg x2 (Ev.neg x3 (Ev.pos x4 (Ev.now _))))))))
    by_cases x5 : bt s i = 92
    · exact no (Ev.step (fun k => by rw [spec_PlainPart.l0]) (Ev.pos (by omega) (Ev.pos (by omega) (Ev.neg x1 (Ev.neg x2 (Ev.neg x3 (Ev.neg x4 (Ev.pos x5 (Ev.now _)))))))))
    obtain ⟨b, e, hb⟩ := ih (i + 1) h3 (by omega) (by
      intro y hy
      have hl := bytesOf_length s
      rw [List.take_succ_eq_append_getElem (by omega)] at hy
      rcases List.mem_append.1 hy with hy | hy
      · exact hp y hy
      · obtain ⟨hq, hq2⟩ := bytes_at s i h1
        simp only [List.mem_singleton] at hy
        rw [hy, hq2]
        exact ⟨x1, x2, x3, x4⟩)
    have e3 : wrap64 ((i : Int) + 1) = ((i + 1 : Nat) : Int) := by rw [w64] <;> omega
    refine ⟨b, Ev.step (fun k => by rw [spec_PlainPart.l0]) (Ev.pos (by omega) (Ev.pos (by omega) (Ev.neg x1 (Ev.neg x2 (Ev.neg x3 (Ev.neg x4 (Ev.neg x5 ?_))))))), hb⟩
    rw [e3]
    exact e
theorem plain_part (s : ByteArray) (hs : s.size ≤ 100) : ∃ b, Ev (fun k => spec_PlainPart.f k s) b ∧ (b = true → PlainIs s) := by
  obtain ⟨b, e, h⟩ := plain_l0 s hs _ 0 rfl (by omega) (by simp)
  exact ⟨b, e, h⟩
/-! ### digits -/
theorem digits_l (d : Nat) : ∀ (n : Int) (acc : List Int), 0 ≤ n → n < 10 ^ (d + 1) → d + 1 + acc.length < 1000 → d ≤ 25 → n < 18446744073709551616 →
    ∃ pre : List Int, (∀ x ∈ pre, 48 ≤ x ∧ x ≤ 57) ∧ pre ≠ [] ∧ pre.length ≤ d + 1 ∧ Ev (fun k => spec_DigitsOf.l0 k n acc) (strOfNums (pre ++ acc)) := by
  induction d with
  | zero =>
    intro n acc h0 h1 hl _ h2
    have h3 : n < 10 := h1
    have e1 : Int.tmod n 10 = n := by rw [Int.tmod_eq_emod_of_nonneg h0]; omega
    have e2 : Int.tdiv n 10 = 0 := by rw [Int.tdiv_eq_ediv_of_nonneg h0]; omega
    have e3 : IntKind.u64.wrap (48 + n) % 256 = 48 + n := by rw [u64] <;> omega
    refine ⟨[48 + n], ?_, by simp, by simp, ?_⟩
    · intro x hx
      simp at hx
      omega
    · refine Ev.step (fun k => by rw [spec_DigitsOf.l0]) ?_
      refine Ev.bd rfl (Ev.pos (by simp; omega) (Ev.bd rfl (Ev.pos (by rw [e2]; rfl) ?_)))
      rw [e1, e3]
      exact Ev.now _
  | succ d ih =>
    intro n acc h0 h1 hl hd h2
    have e1 : Int.tmod n 10 = n % 10 := Int.tmod_eq_emod_of_nonneg h0
    have e2 : Int.tdiv n 10 = n / 10 := Int.tdiv_eq_ediv_of_nonneg h0
    have e3 : IntKind.u64.wrap (48 + n % 10) % 256 = 48 + n % 10 := by rw [u64] <;> omega
    have e4 : IntKind.u64.wrap (n / 10) = n / 10 := by rw [u64] <;> omega
    by_cases hz : n / 10 = 0
    · refine ⟨[48 + n], ?_, by simp, by simp, ?_⟩
      · intro x hx
        simp at hx
        omega
      · refine Ev.step (fun k => by rw [spec_DigitsOf.l0]) ?_
        refine Ev.bd rfl (Ev.pos (by simp; omega) (Ev.bd rfl (Ev.pos (by rw [e2, e4]; exact hz) ?_)))
        rw [e1, e3, show n % 10 = n by omega]
        exact Ev.now _
    · have hp : n < 10 ^ (d + 1) * 10 := h1
      obtain ⟨pre, p1, p2, p3, p5⟩ := ih (n / 10) ((48 + n % 10) :: acc) (by omega) (by omega) (by simp; omega) (by omega) (by omega)
      refine ⟨pre ++ [48 + n % 10], ?_, by simp, by simp; omega, ?_⟩
      · intro x hx
        rcases List.mem_append.1 hx with hx | hx
        · exact p1 x hx
        · simp at hx
          omega
      · refine Ev.step (fun k => by rw [spec_DigitsOf.l0]) ?_
        refine Ev.bd rfl (Ev.pos (by simp; omega) (Ev.bd rfl (Ev.neg (by rw [e2, e4]; exact hz) ?_)))
        rw [e1, e2, e3, e4]
        rw [List.append_assoc]
        exact p5
theorem digits_ev (n : Int) (h0 : 0 ≤ n) (h1 : n < 1000) : ∃ pre : List Int, (∀ x ∈ pre, 48 ≤ x ∧ x ≤ 57) ∧ pre ≠ [] ∧ pre.length ≤ 3 ∧ Ev (fun k => spec_DigitsOf.f k n) (strOfNums pre) := by
  obtain ⟨pre, p1, p2, p3, p5⟩ := digits_l 2 n [] h0 h1 (by simp) (by omega) (by omega)
  rw [List.append_nil] at p5
  exact ⟨pre, p1, p2, p3, p5⟩
end Go.Proofs.YtobmnfbplmefoaaDoor.JFnJqPathOf
/- A path as the law makes it: its pieces, one for each name; no condition beside those that each theorem states. -/
namespace Go.Proofs.YtobmnfbplmefoaaDoor.JFnJqPathOf
open Go.RowKit Go.Proofs.YtobmnfbplmefoaaDoor.PFnJqPathOf Go.Proofs.YtobmnfbplmefoaaDoorW.PrintWords Go.Proofs.YtobmnfbplmefoaaDoorW.PrintLast Go.Proofs.YtobmnfbplmefoaaDoorW.PrintMore
set_option linter.unusedSimpArgs false
set_option linter.unusedVariables false
theorem marks_ev (x0 : List ByteArray) (x1 : List Int) (i m : Int) (hm : 0 ≤ m ∧ m ≤ 255) (n : Nat) : ∀ j : Nat, (j : Int) + n = m / 2 % 4 →
    ∃ cs : List (List Int), cs.length = n ∧ (∀ ds ∈ cs, OkD ds) ∧ (csT cs).length ≤ 30 * n ∧ ∀ (x8 : ByteArray) (x9 : List ByteArray) (res : ByteArray × List ByteArray), x8.size + 30 * n ≤ 1000000 → x9.length + n ≤ 1000000 →
      Ev (fun k => laws_jqPathOf.l0 k x0 x1 (x8 ++ strOfNums (csT cs)) (x9 ++ cs.map (fun ds => strOfNums (cT ds))) (wrap64 (i + 1))) res → Ev (fun k => laws_jqPathOf.l1 k x0 x1 x8 x9 i m (j : Int)) res := by
  have ec : (Int.tdiv m 2 % 256) % 4 = m / 2 % 4 := by rw [Int.tdiv_eq_ediv_of_nonneg hm.1]; omega
  induction n with
  | zero =>
    intro j hj
    refine ⟨[], rfl, nofun, by simp [csT], fun x8 x9 res _ _ he => ?_⟩
    have he' : Ev (fun k => laws_jqPathOf.l0 k x0 x1 x8 x9 (wrap64 (i + 1))) res := by
      have e1 : x8 ++ strOfNums (csT []) = x8 := by
        apply ByteArray.ext
        simp [csT, strOfNums]
      rw [e1] at he
      simpa using he
    exact Ev.step (fun k => by rw [laws_jqPathOf.l1]) (Ev.neg (by rw [ec]; omega) he')
  | succ n ih =>
    intro j hj
    obtain ⟨cs, c1, c2, c3, c4⟩ := ih (j + 1) (by omega)
    obtain ⟨v, hv⟩ : ∃ v, m * (j : Int) = v := ⟨_, rfl⟩
    have hv2 : 0 ≤ v ∧ v < 1000 := by
      have : j = 0 ∨ j = 1 ∨ j = 2 := by omega
      rcases this with rfl | rfl | rfl <;> omega
    obtain ⟨pre, p1, p2, p3, p4⟩ := digits_ev v hv2.1 hv2.2
    have ew : IntKind.u64.wrap (IntKind.u64.wrap m * IntKind.u64.wrap (j : Int)) = v := by
      rw [u64 (x := m) (by omega) (by omega), u64 (x := (j : Int)) (by omega) (by omega), hv, u64 (by omega) (by omega)]
    have e3 : wrap64 ((j : Int) + 1) = ((j + 1 : Nat) : Int) := by rw [w64] <;> omega
    have es := strOfNums_size pre
    have s91 : ((⟨#[91]⟩ : ByteArray) ++ strOfNums pre).size = 1 + pre.length := by rw [ByteArray.size_append, es]; rfl
    have s93 : (((⟨#[91]⟩ : ByteArray) ++ strOfNums pre) ++ (⟨#[93]⟩ : ByteArray)).size = 1 + pre.length + 1 := by rw [ByteArray.size_append, s91]; rfl
    have ecT : ((⟨#[91]⟩ : ByteArray) ++ strOfNums pre) ++ (⟨#[93]⟩ : ByteArray) = strOfNums (cT pre) := by
      have h1 : (⟨#[91]⟩ : ByteArray) = strOfNums [91] := rfl
      have h2 : (⟨#[93]⟩ : ByteArray) = strOfNums [93] := rfl
      rw [h1, h2, str_app, str_app]
      rfl
    have hc : j < (Int.tdiv m 2 % 256) % 4 := by rw [ec]; omega
    by_cases hst : m ≥ 200
    · refine ⟨[42] :: cs, by simp [c1], ?_, ?_, fun x8 x9 res h1 h2 he => ?_⟩
      · intro ds hds
        rcases List.mem_cons.1 hds with rfl | hds
        · exact .inl rfl
        · exact c2 ds hds
      · simp only [csT, List.map_cons, List.flatten_cons, List.length_append] at c3 ⊢
        simp [cT] at c3 ⊢
        omega
      · refine Ev.step (fun k => by rw [laws_jqPathOf.l1]) (Ev.pos hc ?_)
        rw [ew]
        refine Ev.bind p4 ?_
        refine Ev.pos (by omega) (Ev.pos (by omega) (Ev.pos hst (Ev.pos (by omega) (Ev.pos (by omega) ?_))))
        rw [e3]
        have e42 : (⟨#[91, 42, 93]⟩ : ByteArray) = strOfNums (cT [42]) := rfl
        rw [e42]
        have sz : (strOfNums (cT [42])).size = 3 := rfl
        refine c4 _ _ res (by rw [ByteArray.size_append, sz]; omega) (by rw [List.length_append]; simp; omega) ?_
        rw [ByteArray.append_assoc, str_app, List.append_assoc]
        exact he
    · refine ⟨pre :: cs, by simp [c1], ?_, ?_, fun x8 x9 res h1 h2 he => ?_⟩
      · intro ds hds
        rcases List.mem_cons.1 hds with rfl | hds
        · exact .inr ⟨p2, p1⟩
        · exact c2 ds hds
      · simp only [csT, List.map_cons, List.flatten_cons, List.length_append] at c3 ⊢
        simp [cT] at c3 ⊢
        omega
      · refine Ev.step (fun k => by rw [laws_jqPathOf.l1]) (Ev.pos hc ?_)
        rw [ew]
        refine Ev.bind p4 ?_
        refine Ev.pos (by omega) (Ev.pos (by omega) (Ev.neg hst (Ev.pos (by omega) (Ev.pos (by omega) ?_))))
        rw [e3, ecT]
        have sz : (strOfNums (cT pre)).size ≤ 5 := by rw [strOfNums_size]; simp [cT]; omega
        refine c4 _ _ res (by rw [ByteArray.size_append]; omega) (by rw [List.length_append]; simp; omega) ?_
        rw [ByteArray.append_assoc, str_app, List.append_assoc]
        exact he
/-- The sign between two pieces. -/
def sep (x8 : ByteArray) : List Int := if x8.size = 0 then [] else [46]
theorem nil_size (s : ByteArray) : s.toList = ([] : List UInt8) ↔ s.size = 0 := by
  rw [ByteArray.toList_eq]
  have h9 := data_length s
  constructor
  · intro h
    rw [h] at h9
    exact h9.symm
  · intro h
    exact List.eq_nil_of_length_eq_zero (by omega)
theorem part_go (x0 : List ByteArray) (x1 : List Int) (s : ByteArray) (hs : s.size ≤ 100) (hC : Chs s 0) (i : Nat) (hi : i < x0.length) (hs0 : rdOf ByteArray.empty x0 (i : Int) = s) (m : Int) (b q : Bool) (hb1 : Ev (fun k => spec_PlainPart.f k s) b) (hq : q = !(b && (Int.tmod m 2 == 0)))
    (p : Pc) (pk : p.key = s) (pq : p.q = q) (hnm : (nmT p).length ≤ 602) (x8 : ByteArray) (x9 : List ByteArray) (res : ByteArray × List ByteArray) (h8 : x8.size ≤ 900000)
    (go : ∀ y8 : ByteArray, y8.size ≤ 900001 → y8 ++ strOfNums (txt p) = x8 ++ strOfNums (sep x8 ++ txt p) → Ev (fun k => laws_jqPathOf.j5 k x0 x1 (y8 ++ strOfNums (nmT p)) x9 (i : Int) m) res) :
    Ev (fun k => laws_jqPathOf.j2 k x0 x1 x8 x9 (i : Int) m) res := by
  have hix : (i : Int) < (x0.length : Int) := Int.ofNat_lt.2 hi
  have hi0 : (0 : Int) ≤ (i : Int) := Int.natCast_nonneg i
  have fin : ∀ y8 : ByteArray, y8.size ≤ 900001 → y8 ++ strOfNums (txt p) = x8 ++ strOfNums (sep x8 ++ txt p) → Ev (fun k => laws_jqPathOf.j3 k x0 x1 y8 x9 (i : Int) m) res := by
    intro y8 hy8 hy
    have l5 := go y8 hy8 hy
    clear go hy h8
    refine Ev.step (fun k => by rw [laws_jqPathOf.j3]) (Ev.pos hi0 (Ev.pos hix ?_))
    rw [hs0]
    refine Ev.bind hb1 ?_
    have l4 : Ev (fun k => laws_jqPathOf.j4 k x0 x1 y8 x9 (i : Int) m (!q)) res := by
      clear hq
      cases q with
      | false =>
        have hnm2 : nmT p = bytesOf s := by unfold nmT; rw [if_neg (by rw [pq]; exact Bool.false_ne_true), pk]
        rw [hnm2, str_bytes] at l5
        show Ev (fun k => laws_jqPathOf.j4 k x0 x1 y8 x9 (i : Int) m true) res
        refine Ev.step (fun k => by rw [laws_jqPathOf.j4]) (Ev.pos (rfl : true = true) (Ev.pos hi0 (Ev.pos hix ?_)))
        rw [hs0]
        clear hnm hnm2 hix hi0 hb1
        exact Ev.pos (Nat.le_trans (Nat.add_le_add hy8 hs) (by decide)) l5
      | true =>
        have hnm2 : nmT p = [34] ++ (bytesOf s).flatMap pc ++ [34] := by unfold nmT; rw [if_pos pq, pk]; simp
        rw [hnm2] at l5 hnm
        show Ev (fun k => laws_jqPathOf.j4 k x0 x1 y8 x9 (i : Int) m false) res
        refine Ev.step (fun k => by rw [laws_jqPathOf.j4]) (Ev.neg Bool.false_ne_true (Ev.pos hi0 (Ev.pos hix ?_)))
        rw [hs0]
        have hd : spec_Dress.f 4 s ([] : List ByteArray) ([] : List (S37)) ([] : List Int) = some (strOfNums ([34] ++ (bytesOf s).flatMap pc ++ [34])) := by
          unfold spec_Dress.f
          exact if_pos ⟨rfl, rfl, rfl, rfl, hC, Nat.le_trans hs (by decide)⟩
        refine Ev.bd hd ?_
        refine Ev.pos ?_ l5
        rw [strOfNums_size]
        exact Nat.le_trans (Nat.add_le_add hy8 hnm) (by decide)
    cases b with
    | true =>
      refine Ev.pos rfl ?_
      have : (!q) = (Int.tmod m 2 == 0) := by rw [hq]; simp
      rw [← this]
      exact l4
    | false =>
      refine Ev.neg Bool.false_ne_true ?_
      have : (!q) = false := by rw [hq]; rfl
      rw [← this]
      exact l4
  refine Ev.step (fun k => by rw [laws_jqPathOf.j2]) ?_
  by_cases hz : x8.size = 0
  · refine Ev.pos ((nil_size x8).2 hz) (fin x8 (Nat.le_trans h8 (by decide)) ?_)
    rw [sep, if_pos hz]
    rfl
  · refine Ev.neg (fun h => hz ((nil_size x8).1 h)) (Ev.pos (Nat.le_trans (Nat.add_le_add_right h8 1) (by decide)) (fin _ ?_ ?_))
    · rw [ByteArray.size_append]
      exact Nat.add_le_add_right h8 1
    · rw [sep, if_neg hz, ← str_app, ByteArray.append_assoc]
      rfl
theorem part_ev (x0 : List ByteArray) (x1 : List Int) (s : ByteArray) (hs : s.size ≤ 100) (hC : Chs s 0) (i : Nat) (hi : i < x0.length) (hl : x0.length ≤ 50) (hs0 : rdOf ByteArray.empty x0 (i : Int) = s) (m : Int) (hm : 0 ≤ m ∧ m ≤ 255) :
    ∃ p : Pc, OkP p ∧ (p.q = false → bt s 0 ≠ 36) ∧ p.key = s ∧ (txt p).length ≤ 700 ∧ ∀ (x8 : ByteArray) (x9 : List ByteArray) (res : ByteArray × List ByteArray), x8.size ≤ 900000 → x9.length ≤ 900000 →
      Ev (fun k => laws_jqPathOf.l0 k x0 x1 (x8 ++ strOfNums (sep x8 ++ txt p)) (x9 ++ prt p) ((i + 1 : Nat) : Int)) res → Ev (fun k => laws_jqPathOf.j2 k x0 x1 x8 x9 (i : Int) m) res := by
  obtain ⟨b, hb1, hb2⟩ := plain_part s hs
  obtain ⟨n, hn⟩ : ∃ n : Nat, (n : Int) = m / 2 % 4 := ⟨(m / 2 % 4).toNat, by omega⟩
  have hncs : n ≤ 3 := by omega
  obtain ⟨cs, c1, c2, c3, c4⟩ := marks_ev x0 x1 (i : Int) m hm n 0 (by omega)
  clear hn
  obtain ⟨q, hq⟩ : ∃ q, q = !(b && (Int.tmod m 2 == 0)) := ⟨_, rfl⟩
  have hbl := bytesOf_length s
  have hfl := flat_len (bytesOf s)
  obtain ⟨p, hp⟩ : ∃ p : Pc, p = ⟨s, q, cs⟩ := ⟨_, rfl⟩
  have pk : p.key = s := by rw [hp]
  have pq : p.q = q := by rw [hp]
  have pc' : p.cs = cs := by rw [hp]
  clear hp
  have hbq : q = false → b = true := by
    intro h
    rw [h] at hq
    cases b
    · cases hq
    · rfl
  have hnm : (nmT p).length ≤ 602 := by
    unfold nmT
    rw [pk]
    split
    · simp only [List.length_cons, List.length_append, List.length_nil]
      omega
    · omega
  have e1 : wrap64 ((i : Int) + 1) = ((i + 1 : Nat) : Int) := by rw [w64] <;> omega
  have htl : (txt p).length = (nmT p).length + (csT cs).length := by rw [txt, List.length_append, pc']
  have hc3 : p.cs.length ≤ 3 := by rw [pc', c1]; exact hncs
  have ht : (txt p).length ≤ 700 := by clear hfl hbl e1 hm hi hl; omega
  clear hfl hbl htl hm
  refine ⟨p, ⟨by rw [pk]; exact hs, fun h => ?_, by rw [pc']; exact c2, hc3⟩, fun h => ?_, pk, ht, fun x8 x9 res h8 h9 he => ?_⟩
  · rw [pk]
    have := hb2 (hbq (pq ▸ h))
    exact ⟨this.1, this.2.1⟩
  · exact (hb2 (hbq (pq ▸ h))).2.2
  · refine part_go x0 x1 s hs hC i hi hs0 m b q hb1 hq p pk pq hnm x8 x9 res h8 (fun y8 hy8 hy => ?_)
    have hns := strOfNums_size (nmT p)
    refine Ev.step (fun k => by rw [laws_jqPathOf.j5]) (Ev.pos (Int.natCast_nonneg i) (Ev.pos (Int.ofNat_lt.2 hi) (Ev.pos (Nat.lt_of_le_of_lt h9 (by decide)) ?_)))
    rw [hs0]
    have g1 : (y8 ++ strOfNums (nmT p)).size + 30 * n ≤ 1000000 := by rw [ByteArray.size_append, hns]; clear hy he c4 h8 h9 hns ht hc3 hs hi hl c3; omega
    have g2 : (x9 ++ [s]).length + n ≤ 1000000 := by rw [List.length_append, List.length_singleton]; clear hy he c4 h8 hns ht hc3 hs hi hl c3 g1 hnm; omega
    refine c4 _ _ res g1 g2 ?_
    rw [e1, ByteArray.append_assoc, str_app, List.append_assoc]
    have e5 : nmT p ++ csT cs = txt p := by rw [txt, pc']
    have e6 : [s] ++ cs.map (fun ds => strOfNums (cT ds)) = prt p := by rw [prt, pk, pc']; rfl
    rw [e5, e6, hy]
    exact he
theorem mark_ev (x0 : List ByteArray) (x1 : List Int) (hx1 : ∀ m ∈ x1, 0 ≤ m ∧ m ≤ 255) (hl1 : x1.length ≤ 50) (i : Nat) (hi : i < x0.length) :
    ∃ m : Int, (0 ≤ m ∧ m ≤ 255) ∧ ∀ (x8 : ByteArray) (x9 : List ByteArray) (res : ByteArray × List ByteArray), Ev (fun k => laws_jqPathOf.j2 k x0 x1 x8 x9 (i : Int) m) res → Ev (fun k => laws_jqPathOf.l0 k x0 x1 x8 x9 (i : Int)) res := by
  by_cases h : x1.length = 0
  · refine ⟨0, by omega, fun x8 x9 res he => Ev.step (fun k => by rw [laws_jqPathOf.l0]) (Ev.pos (by omega) (Ev.neg (by omega) he))⟩
  · have e1 : Int.tmod (i : Int) (x1.length : Int) = ((i % x1.length : Nat) : Int) := by
      rw [Int.tmod_eq_emod_of_nonneg (by omega)]
      rfl
    have hlt := Nat.mod_lt i (Nat.pos_of_ne_zero h)
    have hr : rd x1 (Int.tmod (i : Int) (x1.length : Int)) ∈ x1 := by
      rw [e1, rd, Int.toNat_natCast, List.getD_eq_getElem?_getD, List.getElem?_eq_getElem hlt]
      exact List.getElem_mem _
    refine ⟨_, hx1 _ hr, fun x8 x9 res he => Ev.step (fun k => by rw [laws_jqPathOf.l0]) (Ev.pos (by omega) (Ev.pos (by omega) (Ev.neg (by omega) (Ev.pos (by omega) (Ev.pos (by omega) he)))))⟩
theorem one_ev (x0 : List ByteArray) (x1 : List Int) (hx0 : ∀ s ∈ x0, s.size ≤ 100 ∧ Chs s 0) (hl : x0.length ≤ 50) (hx1 : ∀ m ∈ x1, 0 ≤ m ∧ m ≤ 255) (hl1 : x1.length ≤ 50) (i : Nat) (hi : i < x0.length) :
    ∃ p : Pc, OkP p ∧ (p.q = false → bt p.key 0 ≠ 36) ∧ (txt p).length ≤ 700 ∧ ∀ (x8 : ByteArray) (x9 : List ByteArray) (res : ByteArray × List ByteArray), x8.size ≤ 900000 → x9.length ≤ 900000 →
      Ev (fun k => laws_jqPathOf.l0 k x0 x1 (x8 ++ strOfNums (sep x8 ++ txt p)) (x9 ++ prt p) ((i + 1 : Nat) : Int)) res → Ev (fun k => laws_jqPathOf.l0 k x0 x1 x8 x9 (i : Int)) res := by
  have hr : rdOf ByteArray.empty x0 (i : Int) ∈ x0 := by
    rw [rdOf, Int.toNat_natCast, List.getD_eq_getElem?_getD, List.getElem?_eq_getElem hi]
    exact List.getElem_mem _
  obtain ⟨m, hm, h⟩ := mark_ev x0 x1 hx1 hl1 i hi
  obtain ⟨p, p1, p2, p3, p4, p5⟩ := part_ev x0 x1 _ (hx0 _ hr).1 (hx0 _ hr).2 i hi hl rfl m hm
  exact ⟨p, p1, by rw [p3]; exact p2, p4, fun x8 x9 res h8 h9 he => h x8 x9 res (p5 x8 x9 res h8 h9 he)⟩
theorem parts_ev (x0 : List ByteArray) (x1 : List Int) (hx0 : ∀ s ∈ x0, s.size ≤ 100 ∧ Chs s 0) (hl : x0.length ≤ 50) (hx1 : ∀ m ∈ x1, 0 ≤ m ∧ m ≤ 255) (hl1 : x1.length ≤ 50) (n : Nat) : ∀ i : Nat, i + n = x0.length →
    ∃ ps : List Pc, ps.length = n ∧ (∀ p ∈ ps, OkP p) ∧ (more ps).length ≤ 701 * n ∧ ∀ (x8 : ByteArray) (x9 : List ByteArray), 0 < x8.size → x8.size + 701 * n ≤ 900000 → x9.length + 4 * n ≤ 900000 →
      Ev (fun k => laws_jqPathOf.l0 k x0 x1 x8 x9 (i : Int)) (x8 ++ strOfNums (more ps), x9 ++ (ps.map prt).flatten) := by
  induction n with
  | zero =>
    intro i hi
    refine ⟨[], rfl, nofun, by simp [more], fun x8 x9 _ _ _ => Ev.step (fun k => by rw [laws_jqPathOf.l0]) (Ev.neg (by omega) ?_)⟩
    have e1 : x8 ++ strOfNums (more []) = x8 := by
      apply ByteArray.ext
      simp [more, strOfNums]
    rw [e1]
    simp only [List.map_nil, List.flatten_nil, List.append_nil]
    exact Ev.now _
  | succ n ih =>
    intro i hi
    obtain ⟨p, p1, p2, p3, p4⟩ := one_ev x0 x1 hx0 hl hx1 hl1 i (by omega)
    obtain ⟨ps, q1, q2, q3, q4⟩ := ih (i + 1) (by omega)
    have hf := p1.few
    have hpl : (prt p).length = p.cs.length + 1 := by simp [prt]
    have hm : more (p :: ps) = 46 :: txt p ++ more ps := by simp [more]
    refine ⟨p :: ps, by simp [q1], ?_, ?_, fun x8 x9 h0 h1 h2 => ?_⟩
    · intro z hz
      rcases List.mem_cons.1 hz with rfl | hz
      · exact p1
      · exact q2 z hz
    · rw [hm]
      simp only [List.cons_append, List.length_cons, List.length_append]
      omega
    · refine p4 x8 x9 _ (by omega) (by omega) ?_
      have hs : sep x8 = [46] := by rw [sep, if_neg (by omega)]
      rw [hs]
      have hsz : (strOfNums ([46] ++ txt p)).size = 1 + (txt p).length := by rw [strOfNums_size, List.length_append]; rfl
      have h5 := q4 (x8 ++ strOfNums ([46] ++ txt p)) (x9 ++ prt p) (by rw [ByteArray.size_append]; omega) (by rw [ByteArray.size_append, hsz]; omega) (by rw [List.length_append]; omega)
      rw [ByteArray.append_assoc, str_app, List.append_assoc] at h5
      rw [hm]
      refine Ev.eq ?_ h5
      simp
/-- The law's path: behind '$', or from the first name on. -/
theorem path_ev (x0 : List ByteArray) (x1 : List Int) (hx0 : ∀ s ∈ x0, s.size ≤ 100 ∧ Chs s 0) (h0 : 0 < x0.length) (hl : x0.length ≤ 50) (hx1 : ∀ m ∈ x1, 0 ≤ m ∧ m ≤ 255) (hl1 : x1.length ≤ 50) (dl : Bool) :
    ∃ (p : Pc) (ps : List Pc), OkP p ∧ (∀ q ∈ ps, OkP q) ∧ (p.q = false → bt p.key 0 ≠ 36) ∧ ps.length ≤ 50 ∧ (txt p ++ more ps).length ≤ 100000 ∧
      Ev (fun k => laws_jqPathOf.f k x0 x1 dl) (strOfNums ((if dl = true then [36, 46] else []) ++ (txt p ++ more ps)), prt p ++ (ps.map prt).flatten) := by
  obtain ⟨p, p1, p2, p3, p4⟩ := one_ev x0 x1 hx0 hl hx1 hl1 0 h0
  obtain ⟨ps, q1, q2, q3, q4⟩ := parts_ev x0 x1 hx0 hl hx1 hl1 (x0.length - 1) 1 (by omega)
  have hf := p1.few
  have hpl : (prt p).length = p.cs.length + 1 := by simp [prt]
  have hn0 : 0 < (nmT p).length := List.length_pos_iff.2 (nmT_ne p p1)
  have htl : (txt p).length = (nmT p).length + (csT p.cs).length := by rw [txt, List.length_append]
  refine ⟨p, ps, p1, q2, p2, by omega, by rw [List.length_append]; omega, ?_⟩
  unfold laws_jqPathOf.f
  refine Ev.bd rfl ?_
  have go : ∀ x8 : ByteArray, x8.size ≤ 1 → Ev (fun k => laws_jqPathOf.j0 k x0 x1 x8 []) (x8 ++ strOfNums (sep x8 ++ (txt p ++ more ps)), prt p ++ (ps.map prt).flatten) := by
    intro x8 h8
    refine Ev.step (fun k => by rw [laws_jqPathOf.j0]) ?_
    refine p4 x8 [] _ (by omega) (by simp) ?_
    have hsep : (sep x8).length ≤ 1 := by unfold sep; split <;> simp
    have hsz : (strOfNums (sep x8 ++ txt p)).size = (sep x8).length + (txt p).length := by rw [strOfNums_size, List.length_append]
    have h5 := q4 (x8 ++ strOfNums (sep x8 ++ txt p)) ([] ++ prt p) (by rw [ByteArray.size_append]; omega) (by rw [ByteArray.size_append, hsz]; omega) (by rw [List.nil_append]; omega)
    rw [ByteArray.append_assoc, str_app, List.append_assoc, List.nil_append] at h5
    exact h5
  cases dl with
  | true =>
    refine Ev.pos rfl (Ev.eq ?_ (go ⟨#[36]⟩ (Nat.le_refl _)))
    have h1 : (⟨#[36]⟩ : ByteArray) = strOfNums [36] := rfl
    have h2 : sep (strOfNums [36]) = [46] := rfl
    rw [h1, h2, str_app]
    rfl
  | false =>
    refine Ev.neg Bool.false_ne_true (Ev.eq ?_ (go ⟨#[]⟩ (Nat.zero_le _)))
    have h1 : (⟨#[]⟩ : ByteArray) = strOfNums [] := rfl
    have h2 : sep (strOfNums []) = [] := rfl
    rw [h1, h2, str_app]
    rfl
end Go.Proofs.YtobmnfbplmefoaaDoor.JFnJqPathOf
/- A path of names and indices is read back part by part; conditions: none beside the statement's own. -/
namespace Go.Proofs.YtobmnfbplmefoaaDoor.Pure
open Go.RowKit Go.Proofs.YtobmnfbplmefoaaDoor.PFnJqPathOf Go.Proofs.YtobmnfbplmefoaaDoor.JFnJqPathOf Go.Proofs.YtobmnfbplmefoaaDoorW.PrintWords Go.Proofs.YtobmnfbplmefoaaDoorW.PrintLast Go.Proofs.YtobmnfbplmefoaaDoorW.PrintMore
set_option linter.unusedSimpArgs false
set_option linter.unusedVariables false
/-! ### the path's bytes -/
abbrev Rg (l : List Int) : Prop := ∀ x ∈ l, 0 ≤ x ∧ x < 256
theorem Rg.app {a b : List Int} (h : Rg a) (k : Rg b) : Rg (a ++ b) := fun x hx => (List.mem_append.1 hx).elim (h x) (k x)
theorem cT_rng {ds : List Int} (h : OkD ds) : Rg (cT ds) := by
  intro x hx
  rcases List.mem_cons.1 hx with rfl | hx
  · omega
  rcases List.mem_append.1 hx with hx | hx
  · have := h.mem x hx
    omega
  · simp at hx
    omega
theorem nmT_rng (p : Pc) : Rg (nmT p) := by
  unfold nmT
  split
  · intro x hx
    rcases List.mem_cons.1 hx with rfl | hx
    · omega
    rcases List.mem_append.1 hx with hx | hx
    · exact flat_rng _ (bytes_rng _) x hx
    · simp at hx
      omega
  · exact bytes_rng _
theorem csT_rng (cs : List (List Int)) (h : ∀ ds ∈ cs, OkD ds) : Rg (csT cs) := by
  intro x hx
  obtain ⟨l, hl, hx⟩ := List.mem_flatten.1 hx
  obtain ⟨ds, hd, rfl⟩ := List.mem_map.1 hl
  exact cT_rng (h ds hd) x hx
theorem txt_rng {p : Pc} (h : OkP p) : Rg (txt p) := (nmT_rng p).app (csT_rng _ h.cs)
theorem more_rng (ps : List Pc) (h : ∀ p ∈ ps, OkP p) : Rg (more ps) := by
  intro x hx
  obtain ⟨l, hl, hx⟩ := List.mem_flatten.1 hx
  obtain ⟨p, hp, rfl⟩ := List.mem_map.1 hl
  rcases List.mem_cons.1 hx with rfl | hx
  · omega
  · exact txt_rng (h p hp) x hx
/-! ### the top of the reading -/
theorem list_bt0 {s : ByteArray} {u : UInt8} {t : List UInt8} (h : s.toList = u :: t) : bt s 0 = (u.toNat : Int) := by
  rw [ByteArray.toList_eq] at h
  rw [← rd_bytesOf, bytesOf, h]
  rfl
theorem hp_false (a : ByteArray) (y : UInt8) (h : bt a 0 ≠ 36) : strings_HasPrefix.f a (⟨#[36, y]⟩ : ByteArray) = some false := by
  unfold strings_HasPrefix.f stringslite_HasPrefix.f
  have e2 : (⟨#[36, y]⟩ : ByteArray).size = 2 := rfl
  rw [e2]
  by_cases h2 : (a.size : Int) ≥ ((2 : Nat) : Int)
  · rw [if_pos h2, if_pos (by omega), if_pos (by omega)]
    have : ((a.extract 0 2).toList == (⟨#[36, y]⟩ : ByteArray).toList) = false := by
      refine beq_eq_false_iff_ne.2 fun hh => h ?_
      have e3 : (⟨#[36, y]⟩ : ByteArray).toList = 36 :: [y] := by rw [ByteArray.toList_eq]
      rw [e3] at hh
      have h5 := list_bt0 hh
      rw [UFnJqPathOf.bt_x a 0 2 0 (by omega) (by omega) (by omega)] at h5
      exact h5
    rw [this]
    rfl
  · rw [if_neg h2]
    rfl
theorem hp_true (L : List Int) (hr : Rg ([36, 46] ++ L)) : strings_HasPrefix.f (strOfNums ([36, 46] ++ L)) (⟨#[36, 46]⟩ : ByteArray) = some true := by
  unfold strings_HasPrefix.f stringslite_HasPrefix.f
  have e2 : (⟨#[36, 46]⟩ : ByteArray).size = 2 := rfl
  have es : (strOfNums ([36, 46] ++ L)).size = 2 + L.length := by rw [strOfNums_size, List.length_append]; rfl
  rw [e2, if_pos (by omega), if_pos (by omega), if_pos (by omega)]
  have h0 : D (strOfNums ([36, 46] ++ L)) 0 = [36, 46] ++ L := bytesOf_str _ hr
  have h1 := (D_app h0 (Nat.zero_le _)).2.2
  have h2 : (strOfNums ([36, 46] ++ L)).extract 0 2 = strOfNums [36, 46] := h1
  rw [h2]
  have : ((strOfNums [36, 46]).toList == (⟨#[36, 46]⟩ : ByteArray).toList) = true := beq_iff_eq.2 rfl
  rw [this]
  rfl
theorem j0_ev (p : Pc) (ps : List Pc) (hp : OkP p) (hps : ∀ q ∈ ps, OkP q) (hl : ps.length ≤ 50) (hz : (txt p ++ more ps).length ≤ 100000) :
    Ev (fun k => jsonparser_ParsePath.j0 k (strOfNums (txt p ++ more ps))) (prt p ++ (ps.map prt).flatten, none) := by
  have hn0 : 0 < (nmT p).length := List.length_pos_iff.2 (nmT_ne p hp)
  have htl : (txt p).length = (nmT p).length + (csT p.cs).length := by rw [txt, List.length_append]
  have hpos : 0 < (txt p ++ more ps).length := by rw [List.length_append]; omega
  clear hn0 htl
  have es := strOfNums_size (txt p ++ more ps)
  have h0 : D (strOfNums (txt p ++ more ps)) 0 = txt p ++ more ps := bytesOf_str _ ((txt_rng hp).app (more_rng ps hps))
  obtain ⟨T, hT⟩ : ∃ T, strOfNums (txt p ++ more ps) = T := ⟨_, rfl⟩
  rw [hT] at h0 es ⊢
  have hT1 : T.size ≤ 100000 := by rw [es]; exact hz
  have hT2 : 0 < T.size := by rw [es]; exact hpos
  clear es hT hz hpos
  have h5 := pieces_ev T (Nat.le_trans hT1 (by decide)) ps p 0 [] hp hps h0 (by rw [List.length_nil]; clear h0; omega)
  rw [List.nil_append] at h5
  clear h0
  have c1 := cnt_le T (⟨#[46]⟩ : ByteArray) T.size
  have c2 := cnt_le T (⟨#[91]⟩ : ByteArray) T.size
  obtain ⟨n1, hn1⟩ : ∃ n, cnt T (⟨#[46]⟩ : ByteArray) T.size = n := ⟨_, rfl⟩
  obtain ⟨n2, hn2⟩ : ∃ n, cnt T (⟨#[91]⟩ : ByteArray) T.size = n := ⟨_, rfl⟩
  rw [hn1] at c1
  rw [hn2] at c2
  have z1 : jsonparser_zzCount.f T (⟨#[46]⟩ : ByteArray) = some (n1 : Int) := by
    rw [← hn1]
    exact if_pos ⟨rfl, by omega⟩
  have z2 : jsonparser_zzCount.f T (⟨#[91]⟩ : ByteArray) = some (n2 : Int) := by
    rw [← hn2]
    exact if_pos ⟨rfl, by omega⟩
  have ew : wrap64 (wrap64 (1 + (n1 : Int)) + (n2 : Int)) = 1 + (n1 : Int) + (n2 : Int) := by
    rw [w64 (x := 1 + (n1 : Int)) (by omega) (by omega), w64 (by omega) (by omega)]
  refine Ev.step (fun k => by rw [jsonparser_ParsePath.j0]) (Ev.neg (fun h => by have := (nil_size T).1 h; omega) (Ev.bd z1 (Ev.bd z2 ?_)))
  rw [ew]
  exact Ev.pos (by omega) (Ev.pos (by omega) h5)
theorem parse_ev (p : Pc) (ps : List Pc) (hp : OkP p) (hps : ∀ q ∈ ps, OkP q) (hk : p.q = false → bt p.key 0 ≠ 36) (hl : ps.length ≤ 50) (hz : (txt p ++ more ps).length ≤ 100000) (dl : Bool) :
    Ev (fun k => jsonparser_ParsePath.f k (strOfNums ((if dl = true then [36, 46] else []) ++ (txt p ++ more ps)))) (prt p ++ (ps.map prt).flatten, none) := by
  have hj := j0_ev p ps hp hps hl hz
  have hrg := (txt_rng hp).app (more_rng ps hps)
  have hn0 : 0 < (nmT p).length := List.length_pos_iff.2 (nmT_ne p hp)
  have htl : (txt p).length = (nmT p).length + (csT p.cs).length := by rw [txt, List.length_append]
  have hpos : 0 < (txt p ++ more ps).length := by rw [List.length_append]; omega
  have hfirst : ∃ x r, txt p ++ more ps = x :: r ∧ x ≠ 36 := by
    cases hq : p.q with
    | true =>
      refine ⟨34, (((bytesOf p.key).flatMap pc ++ [34]) ++ csT p.cs) ++ more ps, ?_, by omega⟩
      rw [txt, nmT, if_pos hq]
      rfl
    | false =>
      obtain ⟨y, r, hy⟩ := List.exists_cons_of_ne_nil (hp.pl hq).1
      refine ⟨y, r ++ csT p.cs ++ more ps, ?_, ?_⟩
      · rw [txt, nmT, if_neg (by rw [hq]; exact Bool.false_ne_true), hy]
        rfl
      · have := hk hq
        rw [← rd_bytesOf, hy] at this
        exact this
  obtain ⟨L, hL⟩ : ∃ L, txt p ++ more ps = L := ⟨_, rfl⟩
  rw [hL] at hj hrg hpos hfirst hz ⊢
  cases dl with
  | true =>
    rw [show (if true = true then ([36, 46] : List Int) else []) = [36, 46] from rfl]
    unfold jsonparser_ParsePath.f
    have hr2 : Rg ([36, 46] ++ L) := Rg.app (fun x hx => by simp at hx; omega) hrg
    have es : (strOfNums ([36, 46] ++ L)).size = 2 + L.length := by rw [strOfNums_size, List.length_append]; rfl
    refine Ev.neg (fun h => by have := (nil_size _).1 h; omega) (Ev.neg ?_ ?_)
    · intro h
      rw [ByteArray.toList_eq] at h
      have h9 := data_length (strOfNums ([36, 46] ++ L))
      rw [h] at h9
      simp only [List.length_cons, List.length_nil] at h9
      omega
    refine Ev.bd (hp_true L hr2) (Ev.pos rfl (Ev.pos (by omega) ?_))
    have h0 : D (strOfNums ([36, 46] ++ L)) 0 = [36, 46] ++ L := bytesOf_str _ hr2
    have h1 := (D_app h0 (Nat.zero_le _)).1
    have h2 : D (strOfNums ([36, 46] ++ L)) 2 = L ++ [] := by rw [List.append_nil]; exact h1
    have h3 := (D_app h2 (by omega)).2.2
    rw [es, h3]
    exact hj
  | false =>
    rw [show (if false = true then ([36, 46] : List Int) else []) ++ L = L from rfl]
    unfold jsonparser_ParsePath.f
    have es := strOfNums_size L
    have h0 : D (strOfNums L) 0 = L := bytesOf_str _ hrg
    obtain ⟨x, r, hx, hx2⟩ := hfirst
    have hb : bt (strOfNums L) 0 ≠ 36 := by
      have := (D_cons (h0.trans hx)).2.1
      rw [show ((0 : Nat) : Int) = 0 from rfl] at this
      rw [this]
      exact hx2
    refine Ev.neg (fun h => by have := (nil_size _).1 h; omega) (Ev.neg (fun h => hb (list_bt0 h)) ?_)
    refine Ev.bd (hp_false _ 46 hb) (Ev.neg Bool.false_ne_true (Ev.bd (hp_false _ 91 hb) (Ev.neg Bool.false_ne_true (Ev.pos (by omega) (Ev.neg hb hj)))))
/-! ### the law -/
theorem same_l0 (l : List ByteArray) (hl : l.length ≤ 1000000) (n : Nat) : ∀ i : Nat, i + n = l.length → Ev (fun k => laws_sameStrings.l0 k l l (i : Int)) true := by
  induction n with
  | zero =>
    intro i hi
    exact Ev.step (fun k => by rw [laws_sameStrings.l0]) (Ev.neg (by omega) (Ev.now _))
  | succ n ih =>
    intro i hi
    have e3 : wrap64 ((i : Int) + 1) = ((i + 1 : Nat) : Int) := by rw [w64] <;> omega
    refine Ev.step (fun k => by rw [laws_sameStrings.l0]) (Ev.pos (by omega) (Ev.pos (by omega) (Ev.pos (by omega) (Ev.pos rfl ?_))))
    rw [e3]
    exact ih (i + 1) (by omega)
theorem same_ev (l : List ByteArray) (hl : l.length ≤ 1000000) : Ev (fun k => laws_sameStrings.f k l l) true := by
  unfold laws_sameStrings.f
  exact Ev.pos rfl (same_l0 l hl l.length 0 (by omega))
theorem fits_l0 (l : List ByteArray) (hl : l.length ≤ 2147483647) (n : Nat) : ∀ i : Nat, i + n = l.length → ∃ b, Ev (fun k => laws_zzFits1.l0 k l (l.length : Int) (i : Int)) b := by
  induction n with
  | zero =>
    intro i hi
    exact ⟨true, Ev.step (fun k => by rw [laws_zzFits1.l0]) (Ev.neg (by omega) (Ev.now _))⟩
  | succ n ih =>
    intro i hi
    have e3 : wrap64 ((i : Int) + 1) = ((i + 1 : Nat) : Int) := by rw [w64] <;> omega
    by_cases hb : ((rdOf ByteArray.empty l (i : Int)).size : Int) > 2147483647
    · exact ⟨false, Ev.step (fun k => by rw [laws_zzFits1.l0]) (Ev.pos (by omega) (Ev.pos (by omega) (Ev.pos (by omega) (Ev.pos hb (Ev.now _)))))⟩
    · obtain ⟨b, e⟩ := ih (i + 1) (by omega)
      refine ⟨b, Ev.step (fun k => by rw [laws_zzFits1.l0]) (Ev.pos (by omega) (Ev.pos (by omega) (Ev.pos (by omega) (Ev.neg hb ?_))))⟩
      rw [e3]
      exact e
theorem fits_ev (l : List ByteArray) : ∃ b, Ev (fun k => laws_zzFits1.f k l) b := by
  unfold laws_zzFits1.f
  by_cases h : (l.length : Int) > 2147483647
  · exact ⟨false, Ev.pos h (Ev.now _)⟩
  · obtain ⟨b, e⟩ := fits_l0 l (by omega) l.length 0 (by omega)
    exact ⟨b, Ev.neg h e⟩
theorem flat_prt (ps : List Pc) (h : ∀ p ∈ ps, OkP p) : (ps.map prt).flatten.length ≤ 4 * ps.length := by
  induction ps with
  | nil => simp
  | cons p ps ih =>
    have := ih (fun q hq => h q (by simp [hq]))
    have hf := (h p (by simp)).few
    have hpl : (prt p).length = p.cs.length + 1 := by simp [prt]
    simp only [List.map_cons, List.flatten_cons, List.length_append, List.length_cons]
    omega
theorem end_ev (x0 : List ByteArray) (x1 : List Int) (hx0 : ∀ s ∈ x0, s.size ≤ 100 ∧ Chs s 0) (h0 : 0 < x0.length) (hl : x0.length ≤ 50) (hx1 : ∀ m ∈ x1, 0 ≤ m ∧ m ≤ 255) (hl1 : x1.length ≤ 50) (dl : Bool) :
    Ev (fun k => (laws_jqPathOf.f k x0 x1 dl).bind fun bt198 => ((impl_JqParsePath.f k bt198.1).bind fun bt202 => (if bt202.2 = true then ((laws_sameStrings.f k bt202.1 bt198.2).bind fun t206 => (some t206)) else (some false)))) true := by
  obtain ⟨p, ps, p1, p2, p3, p4, p5, p6⟩ := path_ev x0 x1 hx0 h0 hl hx1 hl1 dl
  refine Ev.bind p6 ?_
  have hpe := parse_ev p ps p1 p2 p3 p4 p5 dl
  have him : Ev (fun k => impl_JqParsePath.f k (strOfNums ((if dl = true then [36, 46] else []) ++ (txt p ++ more ps)))) (prt p ++ (ps.map prt).flatten, true) := by
    unfold impl_JqParsePath.f
    refine Ev.bind hpe ?_
    exact Ev.pos rfl (Ev.now _)
  refine Ev.bind him ?_
  refine Ev.pos rfl ?_
  have hf := p1.few
  have hpl : (prt p).length = p.cs.length + 1 := by simp [prt]
  have hfl := flat_prt ps p2
  refine Ev.bind (same_ev _ (by rw [List.length_append]; omega)) ?_
  exact Ev.now _
theorem l0_ev (x0 : List ByteArray) (x1 : List Int) (h0 : 0 < x0.length) (hl : x0.length ≤ 50) (hx1 : ∀ m ∈ x1, 0 ≤ m ∧ m ≤ 255) (hl1 : x1.length ≤ 50) (dl : Bool) (n : Nat) : ∀ i : Nat, i + n = x0.length → (∀ s ∈ x0.take i, s.size ≤ 100 ∧ Chs s 0) →
    Ev (fun k => laws_FnJqPathOf.l0 k x0 x1 dl (i : Int)) true := by
  induction n with
  | zero =>
    intro i hi hx
    refine Ev.step (fun k => by rw [laws_FnJqPathOf.l0]) (Ev.neg (by omega) (end_ev x0 x1 (fun s hs => hx s ?_) h0 hl hx1 hl1 dl))
    rw [List.take_of_length_le (by omega)]
    exact hs
  | succ n ih =>
    intro i hi hx
    have hil : i < x0.length := by omega
    have hr : rdOf ByteArray.empty x0 (i : Int) = x0[i] := by
      rw [rdOf, Int.toNat_natCast, List.getD_eq_getElem?_getD, List.getElem?_eq_getElem hil]
      rfl
    refine Ev.step (fun k => by rw [laws_FnJqPathOf.l0]) (Ev.pos (by omega) (Ev.pos (by omega) ?_))
    rw [hr]
    by_cases hs : ((x0[i]).size : Int) > 100
    · exact Ev.pos hs (Ev.now _)
    · obtain ⟨b, e, hb⟩ := utf8_ev x0[i] (by omega)
      refine Ev.neg hs ?_
      refine Ev.bind e ?_
      cases b with
      | false => exact Ev.neg Bool.false_ne_true (Ev.now _)
      | true =>
        have e3 : wrap64 ((i : Int) + 1) = ((i + 1 : Nat) : Int) := by rw [w64] <;> omega
        refine Ev.pos rfl ?_
        rw [e3]
        refine ih (i + 1) (by omega) fun s hs2 => ?_
        rw [List.take_succ_eq_append_getElem hil] at hs2
        rcases List.mem_append.1 hs2 with hs2 | hs2
        · exact hx s hs2
        · simp only [List.mem_singleton] at hs2
          rw [hs2]
          exact ⟨by omega, hb rfl⟩
theorem FnJqPathOf : laws_FnJqPathOf.Pure := by
  intro x0 x1 dl _ _ _ _ hw
  refine Ev.rounds (g := fun k => laws_FnJqPathOf.f k x0 x1 dl) ?_
  have hx1 : ∀ m ∈ x1, 0 ≤ m ∧ m ≤ 255 := by
    intro m hm
    have := hw m hm
    simp [Lit.wf, IntKind.min, IntKind.max, IntKind.bits, IntKind.signed] at this
    omega
  have hyes : Ev (fun k => laws_FnJqPathOf.j1 k x0 x1 dl true) true := Ev.step (fun k => by rw [laws_FnJqPathOf.j1]) (Ev.pos (rfl : true = true) (Ev.now _))
  have h0 : ∀ b, Ev (fun k => laws_FnJqPathOf.j0 k x0 x1 dl b) true := by
    intro b
    refine Ev.step (fun k => by rw [laws_FnJqPathOf.j0]) ?_
    cases b with
    | true => exact Ev.pos (rfl : true = true) (Ev.now _)
    | false =>
      refine Ev.neg Bool.false_ne_true ?_
      by_cases h1 : (x0.length : Int) = 0
      · exact Ev.pos h1 hyes
      refine Ev.neg h1 ?_
      by_cases h2 : (x0.length : Int) > 50
      · exact Ev.pos h2 hyes
      refine Ev.neg h2 ?_
      by_cases h3 : (x1.length : Int) > 50
      · rw [decide_eq_true h3]
        exact hyes
      · rw [decide_eq_false h3]
        refine Ev.step (fun k => by rw [laws_FnJqPathOf.j1]) (Ev.neg Bool.false_ne_true ?_)
        exact l0_ev x0 x1 (by omega) (by omega) hx1 (by omega) dl x0.length 0 (by omega) (by simp)
  unfold laws_FnJqPathOf.f
  obtain ⟨b, e⟩ := fits_ev x0
  refine Ev.bind e ?_
  cases b with
  | true => exact Ev.pos rfl (h0 _)
  | false => exact Ev.neg Bool.false_ne_true (h0 _)
end Go.Proofs.YtobmnfbplmefoaaDoor.Pure
