/- A whole number as a member of an object is got back as a uint64, and as an int64 where it is one; conditions: none beside the statement's own. -/
import Derived.Test.YtmkceaepdanmiaaDoorPFnJqUintIntx
import Derived.Test.YtmkceaepdanmiaaDoorSTFnJqUintInt
namespace Go.Proofs.YtmkceaepdanmiaaDoor.Pure
open Go.RowKit Go.Proofs.YtmkceaepdanmiaaDoor.PFnJqUintInt Go.Proofs.YtmkceaepdanmiaaDoor.JFnJqUintInt Go.Proofs.YtmkceaepdanmiaaDoorW.PrintWords Go.Proofs.YtmkceaepdanmiaaDoorW.PrintLast Go.Proofs.YtmkceaepdanmiaaDoorW.PrintMore
set_option linter.unusedSimpArgs false
set_option linter.unusedVariables false
theorem bytesOf_strOfNums (l : List Int) (h : ∀ x ∈ l, 0 ≤ x ∧ x < 256) : bytesOf (strOfNums l) = l := by
  unfold bytesOf strOfNums
  simp only [List.map_map]
  conv => rhs; rw [← List.map_id l]
  apply List.map_congr_left
  intro x hx
  have := h x hx
  simp [UInt8.toNat_ofNat]
  omega
theorem app_str (a b : List Int) : strOfNums a ++ strOfNums b = strOfNums (a ++ b) := by
  apply ByteArray.ext
  simp [strOfNums, ByteArray.data_append]
theorem size_str (a : List Int) : (strOfNums a).size = a.length := strOfNums_size a
/-! ### digits and their number -/
def Dg (l : List Int) : Prop := ∀ x ∈ l, 48 ≤ x ∧ x ≤ 57
theorem Dg.cons {x : Int} {l : List Int} (h : Dg (x :: l)) : (48 ≤ x ∧ x ≤ 57) ∧ Dg l := ⟨h x (by simp), fun y hy => h y (by simp [hy])⟩
theorem Dg.app {a b : List Int} (h1 : Dg a) (h2 : Dg b) : Dg (a ++ b) := fun x hx => (List.mem_append.1 hx).elim (h1 x) (h2 x)
def vl : Int → List Int → Int
  | v, [] => v
  | v, x :: l => vl (10 * v + (x - 48)) l
theorem vl_app (a b : List Int) : ∀ v, vl v (a ++ b) = vl (vl v a) b := by
  induction a with
  | nil => intro v; rfl
  | cons x a ih => intro v; exact ih _
theorem vl_ge (l : List Int) : ∀ v, 0 ≤ v → Dg l → v ≤ vl v l := by
  induction l with
  | nil => intro v _ _; exact Int.le_refl _
  | cons x l ih =>
    intro v hv hd
    have h1 := hd.cons.1
    have h2 := ih (10 * v + (x - 48)) (by omega) hd.cons.2
    show v ≤ vl (10 * v + (x - 48)) l
    omega
theorem vl_lt (l : List Int) : ∀ v, 0 ≤ v → Dg l → vl v l < (v + 1) * 10 ^ l.length := by
  induction l with
  | nil => intro v _ _; show v < (v + 1) * 1; omega
  | cons x l ih =>
    intro v hv hd
    have h1 := hd.cons.1
    have h2 := ih (10 * v + (x - 48)) (by omega) hd.cons.2
    have h3 : (10 * v + (x - 48) + 1) * 10 ^ l.length ≤ (10 * (v + 1)) * 10 ^ l.length := Int.mul_le_mul_of_nonneg_right (by omega) (Int.pow_nonneg (by decide))
    show vl (10 * v + (x - 48)) l < (v + 1) * 10 ^ (l.length + 1)
    rw [Int.pow_succ, Int.mul_comm (10 ^ l.length) 10, ← Int.mul_assoc, Int.mul_comm (v + 1) 10]
    omega
/-! ### the digits of a number -/
theorem digits_l (d : Nat) : ∀ (n : Int) (acc : List Int), 0 ≤ n → n < 10 ^ (d + 1) → d + 1 + acc.length < 1000 → d ≤ 25 → n < 18446744073709551616 →
    ∃ pre : List Int, Dg pre ∧ pre ≠ [] ∧ pre.length ≤ d + 1 ∧ vl 0 pre = n ∧ Ev (fun k => spec_DigitsOf.l0 k n acc) (strOfNums (pre ++ acc)) := by
  induction d with
  | zero =>
    intro n acc h0 h1 hl _ h2
    have h3 : n < 10 := h1
    have e1 : Int.tmod n 10 = n := by rw [Int.tmod_eq_emod_of_nonneg h0]; omega
    have e2 : Int.tdiv n 10 = 0 := by rw [Int.tdiv_eq_ediv_of_nonneg h0]; omega
    have e3 : IntKind.u64.wrap (48 + n) % 256 = 48 + n := by rw [JFnJqUintInt.u64] <;> omega
    refine ⟨[48 + n], ?_, by simp, by simp, by simp [vl]; omega, ?_⟩
    · intro x hx
      simp at hx
      omega
    · refine Ev.step (fun k => by rw [spec_DigitsOf.l0]) ?_
      refine Ev.bd rfl (Ev.pos (by simp; omega) (Ev.bd rfl (Ev.pos (by rw [e2]; rfl) ?_)))
      rw [e1, e3]
      exact Ev.now _
  | succ d ih =>
    intro n acc h0 h1 hl hd h2
    have e1 : Int.tmod n 10 = n % 10 := Int.tmod_eq_emod_of_nonneg h0
    have e2 : Int.tdiv n 10 = n / 10 := Int.tdiv_eq_ediv_of_nonneg h0
    have e3 : IntKind.u64.wrap (48 + n % 10) % 256 = 48 + n % 10 := by rw [JFnJqUintInt.u64] <;> omega
    have e4 : IntKind.u64.wrap (n / 10) = n / 10 := by rw [JFnJqUintInt.u64] <;> omega
    by_cases hz : n / 10 = 0
    · refine ⟨[48 + n], ?_, by simp, by simp, by simp [vl]; omega, ?_⟩
      · intro x hx
        simp at hx
        omega
      · refine Ev.step (fun k => by rw [spec_DigitsOf.l0]) ?_
        refine Ev.bd rfl (Ev.pos (by simp; omega) (Ev.bd rfl (Ev.pos (by rw [e2, e4]; exact hz) ?_)))
        rw [e1, e3, show n % 10 = n by omega]
        exact Ev.now _
    · have hp : n < 10 ^ (d + 1) * 10 := h1
      obtain ⟨pre, p1, p2, p3, p4, p5⟩ := ih (n / 10) ((48 + n % 10) :: acc) (by omega) (by omega) (by simp; omega) (by omega) (by omega)
      refine ⟨pre ++ [48 + n % 10], p1.app (fun x hx => by simp at hx; omega), by simp, by simp; omega, ?_, ?_⟩
      · rw [vl_app, p4]
        show 10 * (n / 10) + (48 + n % 10 - 48) = n
        omega
      · refine Ev.step (fun k => by rw [spec_DigitsOf.l0]) ?_
        refine Ev.bd rfl (Ev.pos (by simp; omega) (Ev.bd rfl (Ev.neg (by rw [e2, e4]; exact hz) ?_)))
        rw [e1, e2, e3, e4]
        rw [List.append_assoc]
        exact p5
/-! ### a number out of its digits -/
theorem rd_at {l : List Int} {i : Nat} {x : Int} {r : List Int} (h : l.drop i = x :: r) : i < l.length ∧ rd l (i : Int) = x ∧ l.drop (i + 1) = r := by
  have hi : i < l.length := by
    apply Decidable.byContradiction
    intro hn
    rw [List.drop_eq_nil_of_le (by omega)] at h
    cases h
  have he := List.drop_eq_getElem_cons hi
  rw [he] at h
  obtain ⟨h1, h2⟩ := List.cons.inj h
  exact ⟨hi, by simp [rd, List.getD_eq_getElem?_getD, hi, h1], h2⟩
theorem p10 {i j : Nat} (h : i ≤ j) : (10 : Int) ^ i ≤ 10 ^ j := by
  have h2 : ((10 ^ i : Nat) : Int) ≤ ((10 ^ j : Nat) : Int) := Int.ofNat_le.2 (Nat.pow_le_pow_right (n := 10) (by decide) h)
  simpa [Int.natCast_pow] using h2
theorem small_l (ds : List Int) (hd : Dg ds) (hl : ds.length < 19) (r : List Int) : ∀ (i : Nat) (v : Int), ds.drop i = r → 0 ≤ v → v < 10 ^ i → i ≤ ds.length →
    Ev (fun k => jsonparser_parseInt.l0 k ds v (ds.length : Int) false (i : Int)) (vl v r, true, false) := by
  induction r with
  | nil =>
    intro i v h h0 h1 hi
    have hi2 : ds.length ≤ i := List.drop_eq_nil_iff.1 h
    refine Ev.step (fun k => by rw [jsonparser_parseInt.l0]) ?_
    exact Ev.neg (by omega) (Ev.neg Bool.false_ne_true (Ev.now _))
  | cons x r ih =>
    intro i v h h0 h1 hi
    obtain ⟨hi2, hx, hr⟩ := rd_at h
    have hxd : 48 ≤ x ∧ x ≤ 57 := hd x (List.mem_of_mem_drop (by rw [h]; simp))
    have hp : (10 : Int) ^ i ≤ 10 ^ 17 := p10 (by omega)
    have hv : v < 100000000000000000 := by omega
    have e0 : (rd ds (i : Int) - 48) % 256 = x - 48 := by rw [hx]; omega
    have e1 : wrap64 ((wrap64 (10 * v)) + (x - 48)) = 10 * v + (x - 48) := by rw [JFnJqUintInt.w64 (x := 10 * v), JFnJqUintInt.w64] <;> omega
    have e2 : wrap64 ((i : Int) + 1) = ((i + 1 : Nat) : Int) := by rw [JFnJqUintInt.w64] <;> omega
    refine Ev.step (fun k => by rw [jsonparser_parseInt.l0]) (Ev.pos (by omega) (Ev.pos (by omega) (Ev.pos (by omega) ?_)))
    rw [e0, e1, e2]
    refine Ev.neg (by omega) (ih (i + 1) _ hr (by omega) ?_ (by omega))
    rw [Int.pow_succ]
    omega
theorem big_l (ds : List Int) (hd : Dg ds) (hl : ds.length < 900) (r : List Int) : ∀ (i : Nat) (v : Int), ds.drop i = r → 0 ≤ v → vl v r < 18446744073709551616 → i ≤ ds.length →
    Ev (fun k => jsonparser_parseInt.l1 k false v ds (ds.length : Int) (i : Int)) (if vl v r ≤ 9223372036854775807 then (vl v r, true, false) else (0, false, true)) := by
  induction r with
  | nil =>
    intro i v h h0 h1 hi
    have hi2 : ds.length ≤ i := List.drop_eq_nil_iff.1 h
    have hv : v < 18446744073709551616 := h1
    refine Ev.step (fun k => by rw [jsonparser_parseInt.l1]) (Ev.neg (by omega) ?_)
    show Ev _ (if v ≤ 9223372036854775807 then (v, true, false) else (0, false, true))
    by_cases hb : v ≤ 9223372036854775807
    · rw [if_pos hb]
      refine Ev.neg (by omega) (Ev.neg Bool.false_ne_true ?_)
      rw [JFnJqUintInt.w64 (by omega) hb]
      exact Ev.now _
    · rw [if_neg hb]
      exact Ev.pos (by omega) (Ev.neg Bool.false_ne_true (Ev.step (fun k => by rw [jsonparser_parseInt.j5]) (Ev.neg Bool.false_ne_true (Ev.now _))))
  | cons x r ih =>
    intro i v h h0 h1 hi
    obtain ⟨hi2, hx, hr⟩ := rd_at h
    have hxd : 48 ≤ x ∧ x ≤ 57 := hd x (List.mem_of_mem_drop (by rw [h]; simp))
    have hdr : Dg r := fun y hy => hd y (List.mem_of_mem_drop (by rw [h]; simp [hy]))
    have hg : 10 * v + (x - 48) ≤ vl (10 * v + (x - 48)) r := vl_ge r _ (by omega) hdr
    have h1' : vl (10 * v + (x - 48)) r < 18446744073709551616 := h1
    clear h1
    show Ev _ (if vl (10 * v + (x - 48)) r ≤ 9223372036854775807 then (vl (10 * v + (x - 48)) r, true, false) else (0, false, true))
    have e0 : (x - 48) % 256 = x - 48 := by omega
    have e1 : IntKind.u64.wrap (v * 10) = 10 * v := by rw [JFnJqUintInt.u64] <;> omega
    have e1b : IntKind.u64.wrap (10 * v + (x - 48)) = 10 * v + (x - 48) := by rw [JFnJqUintInt.u64] <;> omega
    have e2 : wrap64 ((i : Int) + 1) = ((i + 1 : Nat) : Int) := by rw [JFnJqUintInt.w64] <;> omega
    refine Ev.step (fun k => by rw [jsonparser_parseInt.l1]) (Ev.pos (by omega) (Ev.pos (by omega) (Ev.pos (by omega) ?_)))
    rw [hx]
    refine Ev.neg (by omega) ?_
    rw [decide_eq_false (show ¬ x > 57 by omega)]
    refine Ev.step (fun k => by rw [jsonparser_parseInt.j4]) (Ev.neg Bool.false_ne_true (Ev.neg (by omega) ?_))
    rw [e0, e1, e1b, e2]
    exact Ev.neg (by omega) (ih (i + 1) _ hr (by omega) h1' (by omega))
theorem parse_ev (ds : List Int) (hd : Dg ds) (hne : ds ≠ []) (hl : ds.length < 900) (hv : vl 0 ds < 18446744073709551616) :
    Ev (fun k => jsonparser_parseInt.f k ds) (if vl 0 ds ≤ 9223372036854775807 then (vl 0 ds, true, false) else (0, false, true)) := by
  have hpos : 0 < ds.length := List.length_pos_iff.2 hne
  have h45 : rd ds 0 ≠ 45 := by
    cases ds with
    | nil => exact absurd rfl hne
    | cons x t =>
      have := (hd.cons).1
      show x ≠ 45
      omega
  refine Ev.congr (fun k => by rw [jsonparser_parseInt.f]) (Ev.neg (by omega) (Ev.pos (by omega) (Ev.neg h45 (Ev.step (fun k => by rw [jsonparser_parseInt.j0]) (Ev.neg (by omega) ?_)))))
  rw [JFnJqUintInt.w64 (by omega) (by omega)]
  by_cases h19 : ds.length < 19
  · refine Ev.pos (by omega) ?_
    have h := small_l ds hd h19 ds 0 0 rfl (by omega) (by decide) (by omega)
    have hlt := vl_lt ds 0 (by omega) hd
    have hp : (10 : Int) ^ ds.length ≤ 10 ^ 18 := p10 (by omega)
    rw [if_pos (by omega)]
    exact h
  · refine Ev.neg (by omega) (Ev.neg Bool.false_ne_true (Ev.step (fun k => by rw [jsonparser_parseInt.j2]) ?_))
    exact big_l ds hd hl ds 0 0 rfl (by omega) hv (by omega)
theorem puint (l : List Int) : ∀ v : Nat, Dg l → vl v l < 18446744073709551616 → Lib.parseUintM 18446744073709551615 v (strOfNums l).data.toList = .ok (vl v l).toNat := by
  induction l with
  | nil => intro v _ _; rfl
  | cons x l ih =>
    intro v hd hv
    have hx := hd.cons.1
    have hg : 10 * (v : Int) + (x - 48) ≤ vl (10 * v + (x - 48)) l := vl_ge l _ (by omega) hd.cons.2
    have hv' : vl (10 * v + (x - 48)) l < 18446744073709551616 := hv
    have ht : (x.toNat.toUInt8).toNat = x.toNat := by simp; omega
    show Lib.parseUintM 18446744073709551615 v (x.toNat.toUInt8 :: (strOfNums l).data.toList) = .ok (vl (10 * v + (x - 48)) l).toNat
    unfold Lib.parseUintM
    rw [ht, if_pos (by omega), if_neg (by omega), if_neg (by omega)]
    have e : ((v * 10 + (x.toNat - 48) : Nat) : Int) = 10 * (v : Int) + (x - 48) := by omega
    rw [← e]
    exact ih _ hd.cons.2 (by rw [e]; exact hv')
/-! ### the parts of the search -/
theorem token_l (ds : List Int) (hd : Dg ds) (hl : ds.length < 900) (d : Nat) : ∀ i : Nat, ds.length - i = d → i ≤ ds.length → Ev (fun k => jsonparser_tokenEnd.l0 k (ds ++ [125]) (ds ++ [125]) ((ds ++ [(125 : Int)]).length : Int) (i : Int)) (ds.length : Int) := by
  have hlen : (ds ++ [(125 : Int)]).length = ds.length + 1 := by simp
  induction d with
  | zero =>
    intro i hi hle
    obtain rfl : i = ds.length := by omega
    have hr : rd (ds ++ [125]) (ds.length : Int) = 125 := by simp [rd]
    refine Ev.step (fun k => by rw [jsonparser_tokenEnd.l0]) (Ev.pos (by omega) (Ev.pos (by omega) (Ev.pos (by omega) ?_)))
    rw [hr]
    exact Ev.neg (by decide) (Ev.neg (by decide) (Ev.neg (by decide) (Ev.neg (by decide) (Ev.neg (by decide) (Ev.pos rfl (Ev.now _))))))
  | succ d ih =>
    intro i hi hle
    have hlt : i < ds.length := by omega
    have hr : rd (ds ++ [125]) (i : Int) = ds[i] := by simp [rd, List.getD_eq_getElem?_getD, List.getElem?_append_left hlt, hlt]
    have hx := hd ds[i] (List.getElem_mem hlt)
    have e2 : wrap64 ((i : Int) + 1) = ((i + 1 : Nat) : Int) := by rw [JFnJqUintInt.w64] <;> omega
    refine Ev.step (fun k => by rw [jsonparser_tokenEnd.l0]) (Ev.pos (by omega) (Ev.pos (by omega) (Ev.pos (by omega) ?_)))
    rw [hr, e2]
    exact Ev.neg (by omega) (Ev.neg (by omega) (Ev.neg (by omega) (Ev.neg (by omega) (Ev.neg (by omega) (Ev.neg (by omega) (Ev.neg (by omega) (ih (i + 1) (by omega) (by omega))))))))
theorem next_ev (l : List Int) (h0 : 0 < l.length) (h : rd l 0 ≠ 32 ∧ rd l 0 ≠ 10 ∧ rd l 0 ≠ 13 ∧ rd l 0 ≠ 9) : Ev (fun k => jsonparser_nextTokenConfig.f k false false 0 l) 0 := by
  obtain ⟨h1, h2, h3, h4⟩ := h
  exact Ev.congr (fun k => by rw [jsonparser_nextTokenConfig.f]) (Ev.step (fun k => by rw [jsonparser_nextTokenConfig.l0]) (Ev.pos (by omega) (Ev.pos (by omega) (Ev.pos (by omega) (Ev.neg h1 (Ev.neg h2 (Ev.neg h3 (Ev.neg h4 (Ev.now _)))))))))
open Classical in
theorem fit_of (ds : List Int) (hd : Dg ds) (hne : ds ≠ []) (hl : ds.length < 900) : ∃ ks kn km ke, Fit ks kn km ke ds := by
  obtain ⟨x, t, rfl⟩ := List.exists_cons_of_ne_nil hne
  have hx := hd.cons.1
  have hrng : ∀ i : Int, 0 ≤ rd (110 :: 34 :: 58 :: ((x :: t) ++ [125])) i ∧ rd (110 :: 34 :: 58 :: ((x :: t) ++ [125])) i < 256 := by
    intro i
    have hm : ∀ y ∈ (110 :: 34 :: 58 :: ((x :: t) ++ [125]) : List Int), 0 ≤ y ∧ y < 256 := by
      intro y hy
      simp only [List.mem_cons, List.mem_append, List.mem_singleton, List.not_mem_nil, or_false] at hy
      rcases hy with rfl | rfl | rfl | hy | rfl
      · omega
      · omega
      · omega
      · have := hd y (by simpa using hy); omega
      · omega
    unfold rd
    rw [List.getD_eq_getElem?_getD]
    cases hc : (110 :: 34 :: 58 :: ((x :: t) ++ [125]) : List Int)[i.toNat]? with
    | none => exact ⟨by decide, by decide⟩
    | some y => exact hm y (List.mem_of_getElem? hc)
  have hE : JFnJqUintInt.Ends (110 :: 34 :: 58 :: ((x :: t) ++ [125])) 34 1 := ⟨by simp, rfl, (show (if (110 : Int) = 92 then _ else 0) % 2 = 0 from by rw [if_neg (by decide)]), fun i hi h => by
    obtain rfl : i = 0 := by omega
    exact absurd (show (110 : Int) = 34 from h) (by decide)⟩
  have hesc : ¬ JFnJqUintInt.Esc (110 :: 34 :: 58 :: ((x :: t) ++ [125])) 1 := fun ⟨i, hi, h⟩ => by
    obtain rfl : i = 0 := by omega
    exact absurd (show (110 : Int) = 92 from h) (by decide)
  have s1 := end_ev false false 0 _ (by simp; simp at hl; omega) hrng 34 (by decide) (by decide) (by decide) 1 hE
  rw [decide_eq_false hesc] at s1
  obtain ⟨ks, h1⟩ := s1.rounds
  obtain ⟨kn, h2⟩ := (next_ev (58 :: ((x :: t) ++ [125])) (by simp) (show (58 : Int) ≠ 32 ∧ (58 : Int) ≠ 10 ∧ (58 : Int) ≠ 13 ∧ (58 : Int) ≠ 9 from by decide)).rounds
  obtain ⟨km, h3⟩ := (next_ev ((x :: t) ++ [125]) (by simp) (by show x ≠ 32 ∧ x ≠ 10 ∧ x ≠ 13 ∧ x ≠ 9; omega)).rounds
  obtain ⟨ke, h4⟩ := (token_l (x :: t) hd hl _ 0 rfl (by omega)).rounds
  exact ⟨ks, kn, km, ke, h1, h2, h3, h4, x, t, rfl, hx.1, hx.2⟩
theorem FnJqUintInt : laws_FnJqUintInt.Pure := by
  intro a0 hw
  have ha : 0 ≤ a0 ∧ a0 < 18446744073709551616 := by
    simp [Lit.wf, IntKind.min, IntKind.max, IntKind.bits, IntKind.signed] at hw
    omega
  obtain ⟨ds, d1, d2, d3, d4, d5⟩ := digits_l 19 a0 [] ha.1 (by omega) (by simp) (by omega) ha.2
  rw [List.append_nil] at d5
  have hlen : ds.length < 900 := by omega
  have hT : ((⟨#[123, 34, 110, 34, 58]⟩ : ByteArray) ++ strOfNums ds) ++ (⟨#[125]⟩ : ByteArray) = strOfNums (body ds) := by
    rw [show (⟨#[123, 34, 110, 34, 58]⟩ : ByteArray) = strOfNums [123, 34, 110, 34, 58] from rfl, show (⟨#[125]⟩ : ByteArray) = strOfNums [125] from rfl, app_str, app_str]
    simp [body]
  have hbr : ∀ x ∈ body ds, 0 ≤ x ∧ x < 256 := by
    intro y hy
    simp only [body, List.mem_cons, List.mem_append, List.mem_singleton, List.not_mem_nil, or_false] at hy
    rcases hy with rfl | rfl | rfl | rfl | rfl | hy | rfl
    · omega
    · omega
    · omega
    · omega
    · omega
    · have := d1 y hy; omega
    · omega
  have hb := bytesOf_strOfNums (body ds) hbr
  have hg : digs (strOfNums (body ds)) = ds := by
    unfold digs
    rw [hb]
    simp [body]
  obtain ⟨ks, kn, km, ke, hf⟩ := fit_of ds d1 d2 hlen
  have hF : PFnJqUintInt.Form (strOfNums (body ds)) [⟨#[110]⟩] := ⟨rfl, by rw [hg, hb], by rw [hg]; omega, ks, kn, km, ke, by rw [hg]; exact hf⟩
  have hv : vl 0 ds < 18446744073709551616 := by omega
  have hp := lim_of (jsonparser_parseInt.mono ds) (parse_ev ds d1 d2 hlen hv)
  have hu : Lib.parseUintB 64 (strOfNums ds).data.toList = .ok a0.toNat := by
    unfold Lib.parseUintB
    rw [if_neg (by
      cases ds with
      | nil => exact absurd rfl d2
      | cons x t => exact List.cons_ne_nil _ _)]
    have := puint ds 0 d1 hv
    rw [← d4]
    exact this
  rw [d4] at hp
  have h1 : impl_JqUint.f (strOfNums (body ds)) [⟨#[110]⟩] = some (a0, true) := by
    unfold impl_JqUint.f
    rw [if_pos hF, hg, hp]
    by_cases hs : a0 ≤ 9223372036854775807
    · rw [if_pos hs]
      simp only
      rw [if_pos ⟨ha.1, hs⟩]
    · rw [if_neg hs]
      simp only
      rw [hu]
      simp only [Int.toNat_of_nonneg ha.1]
  have h2 : impl_JpGetInt.f (strOfNums (body ds)) [⟨#[110]⟩] = some (if a0 ≤ 9223372036854775807 then (a0, true) else (0, false)) := by
    unfold impl_JpGetInt.f
    rw [if_pos hF, hg, hp]
    by_cases hs : a0 ≤ 9223372036854775807
    · rw [if_pos hs, if_pos hs]
    · rw [if_neg hs, if_neg hs]
  obtain ⟨k, hk⟩ := d5.rounds
  refine ⟨k, ?_⟩
  unfold laws_FnJqUintInt.f
  rw [show spec_DigitsOf.f k a0 = some (strOfNums ds) from hk]
  simp only [Option.bind_some]
  rw [if_pos (by rw [size_str]; omega), if_pos (by
    rw [ByteArray.size_append, size_str]
    show (5 + ds.length + 1 : Nat) ≤ 9223372036854775807
    omega), hT, h1]
  simp only [Option.bind_some]
  rw [h2]
  simp only [Option.bind_some, if_true]
  by_cases hs : a0 ≤ 9223372036854775807
  · rw [if_pos hs, decide_eq_true (show a0 < 9223372036854775808 by omega)]
    rw [JFnJqUintInt.u64 ha.1 ha.2]
    simp
  · rw [if_neg hs, decide_eq_false (show ¬ a0 < 9223372036854775808 by omega)]
    simp
end Go.Proofs.YtmkceaepdanmiaaDoor.Pure
