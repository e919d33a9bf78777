/- laws.FnGjMatchesText, told by hand: a string's comparison with a text by each of the six operators; no condition beside those that each theorem states. -/
import Derived.Test.YtemjfolpndkgpaaDoorPFnGjMatchesTextx
import Derived.Test.YtemjfolpndkgpaaDoorHOFnGjMatchesText
import Derived.Deep.Heap
import Derived.Laws.Rows
namespace Go.Proofs.YtemjfolpndkgpaaDoor.PFnGjMatchesText
open Go.RowKit Go.Proofs.YtemjfolpndkgpaaDoorW.PrintWords Go.Proofs.YtemjfolpndkgpaaDoorW.PrintLast Go.Proofs.YtemjfolpndkgpaaDoorW.PrintMore
set_option linter.unusedVariables false
set_option linter.unusedSimpArgs false
/-! ### the quoted text -/
theorem quote_l (s : ByteArray) (hs : s.size ≤ 2147483647) (d : Nat) : ∀ (i : Nat) (x : List Int), s.size - i = d → i ≤ s.size → x.length ≤ 6 * i + 1 → ∃ k r, spec_Quote.l0 k s x (i : Int) = some r := by
  induction d with
  | zero =>
    intro i x hd hi hx
    refine ⟨1, strOfNums (x ++ [34]), ?_⟩
    rw [spec_Quote.l0, if_neg (by omega), if_pos (by omega)]
  | succ d ih =>
    intro i x hd hi hx
    have ew : wrap64 ((i : Int) + 1) = ((i + 1 : Nat) : Int) := by unfold wrap64; omega
    have j1 : ∀ (l : Int) (b : Bool), ∃ k r, spec_Quote.j1 k s x (i : Int) (bt s i) l b = some r := by
      intro l b
      cases b with
      | true =>
        obtain ⟨k, r, e⟩ := ih (i + 1) (x ++ [92, l]) (by omega) (by omega) (by simp; omega)
        refine ⟨k + 1, r, ?_⟩
        rw [spec_Quote.j1, if_pos rfl, ew]
        rw [Option.bind_some, if_pos (by simp; omega)]
        exact e
      | false =>
        by_cases c : bt s i < 32
        · obtain ⟨t, ht⟩ : ∃ t, spec_digitOf.f (wrap64 (Int.tmod (bt s i) 16)) false = some t := by
            unfold spec_digitOf.f
            split
            · exact ⟨_, rfl⟩
            · rw [if_neg Bool.false_ne_true]; exact ⟨_, rfl⟩
          obtain ⟨k, r, e⟩ := ih (i + 1) (x ++ [92, 117, 48, 48, (48 + ((Int.tdiv (bt s i) 16) % 256)) % 256, t]) (by omega) (by omega) (by simp; omega)
          refine ⟨k + 1, r, ?_⟩
          rw [spec_Quote.j1, if_neg Bool.false_ne_true, if_pos c, ht, ew]
          rw [Option.bind_some, Option.bind_some, if_pos (by simp; omega)]
          exact e
        · obtain ⟨k, r, e⟩ := ih (i + 1) (x ++ [bt s i]) (by omega) (by omega) (by simp; omega)
          refine ⟨k + 1, r, ?_⟩
          rw [spec_Quote.j1, if_neg Bool.false_ne_true, if_neg c, ew, if_pos (by omega)]
          exact e
    obtain ⟨l, b, hb⟩ : ∃ l b, spec_shortOf.f (bt s i) = some (l, b) := by
      unfold spec_shortOf.f
      repeat (first | exact ⟨_, _, rfl⟩ | split)
    cases b with
    | true =>
      obtain ⟨k, r, e⟩ := j1 l (bt s i != 47)
      refine ⟨k + 1, r, ?_⟩
      rw [spec_Quote.l0, if_pos (by omega), if_pos (by omega), hb]
      exact e
    | false =>
      obtain ⟨k, r, e⟩ := j1 l false
      refine ⟨k + 1, r, ?_⟩
      rw [spec_Quote.l0, if_pos (by omega), if_pos (by omega), hb]
      exact e
theorem quote_ex (s : ByteArray) (hs : s.size ≤ 2147483647) : ∃ k r, spec_Quote.f k s = some r := quote_l s hs s.size 0 _ (by omega) (by omega) (by simp)
/-! ### the values -/
theorem binOp_string_gtr (t : TypeId) (a b : ByteArray) : binOp .gtr t (.string a) (.string b) = pure (.bool !(Op.bytesLess a.toList b.toList || a.toList == b.toList)) := by simp [binOp, Op.stringOp]
theorem binOp_string_leq (t : TypeId) (a b : ByteArray) : binOp .leq t (.string a) (.string b) = pure (.bool (Op.bytesLess a.toList b.toList || a.toList == b.toList)) := by simp [binOp, Op.stringOp]
theorem binOp_string_geq (t : TypeId) (a b : ByteArray) : binOp .geq t (.string a) (.string b) = pure (.bool !(Op.bytesLess a.toList b.toList)) := by simp [binOp, Op.stringOp]
theorem run_store_float (P : Program) (w : World) (a : Addr) (k : FloatKind) (x : _) (m : Mode) : (store a (.float k x) m).run P w = stored P w a (.float k x) m := run_store P w a _ m rfl
attribute [local go_sem] binOp_string_gtr binOp_string_leq binOp_string_geq run_store_float
theorem below_alloc_ (w : World) (o : Obj) : Below w.heap.size w (w.alloc o) := by
  repeat (first | exact Below.refl _ _ | apply below_alloc)
theorem lt_alloc (w : World) (o : Obj) : w.heap.size < (w.alloc o).heap.size := blk_lt (heap_alloc_new w o)
theorem new2 (w : World) (o o2 : Obj) : ((w.alloc o).alloc o2).heap[w.heap.size + 1]? = some o2 := by
  have h := heap_alloc_new (w.alloc o) o2
  rwa [Go.Deep.nblk_alloc] at h
theorem keep_ {W W' : World} {a : Addr} {v : Value} (h : W.cell? a = some v) (hb : Below W.heap.size W W') : W'.cell? a = some v := (hb.cell (World.block_lt_of_cell? W _ h)).trans h
/-- A value of more cells is written into a block. -/
theorem put_event {ops : Array Oper} {rest : List Oper} {o : Oper} {a : Act} {Q : Exit → Act → World → Prop} {W : World} (hgd : o.guard = none) (t : TypeId) (p : Tmp) (x : Operand) (ho : o.op = .store t (.tmp p) x) (hN : o.dst = none) {g : Nat} {e : TypeId} {cur : Array Value} (u : Value) (seg : List Value)
    (haddr : a.eval (.tmp p) = .pointer (some ⟨g, 0, none⟩)) (hx : a.eval x = u) (hh : W.heap[g]? = some (.cells cur e (0, 0))) (hu : u.cells.toList = seg) (ht : (Tryd.prog.info? t).map (·.size) = some seg.length) (hfit : 0 + seg.length ≤ cur.size) (h1 : ∀ q ∈ seg, q.oneCell' = true)
    (h : ∀ W', W' = W.setCells g 0 seg → wpList Tryd.prog ops Q rest a W') : wpList Tryd.prog ops Q (o :: rest) a W := by
  refine store_event (w1 := W.setCells g 0 seg) hgd ho hN ?_ (fun W' hW => h W' hW)
  have hr := run_store_run (P := Tryd.prog) (w := W) (g := g) (o := 0) t u seg hh hu ht hfit h1
  simp [execOp, ho, haddr, hx, hr]
abbrev resI (raw s : ByteArray) : Value := .agg #[.int .i64 3, .string raw, .string s, (.float .f64 0), .bool true]
abbrev resG (raw s : ByteArray) : Value := .agg #[.int .i64 3, .string raw, .string s, (.float .f64 0), .int .i64 0, .slice none 0 0]
theorem below5 {w W : World} {g : Nat} (h : Below w.heap.size w W) (hg : w.heap.size ≤ g) (a b c d e : Value) : Below w.heap.size w (W.setCells g 0 [a, b, c, d, e]) := by
  simp only [World.setCells]
  repeat (first | exact h | refine below_set ?_ hg)
theorem cells5 {W : World} {g : Nat} {t : TypeId} {x0 x1 x2 x3 x4 : Value} (h : W.heap[g]? = some (.cells #[x0, x1, x2, x3, x4] t (0, 0))) (a b c d e : Value) : (W.setCells g 0 [a, b, c, d, e]).heap[g]? = some (.cells #[a, b, c, d, e] t (0, 0)) := by
  simp only [World.setCells]
  have h0 := blk_put (cs' := #[a, x1, x2, x3, x4]) h 0 a rfl
  have h1 := blk_put (cs' := #[a, b, x2, x3, x4]) h0 1 b rfl
  have h2 := blk_put (cs' := #[a, b, c, x3, x4]) h1 2 c rfl
  have h3 := blk_put (cs' := #[a, b, c, d, x4]) h2 3 d rfl
  exact blk_put (cs' := #[a, b, c, d, e]) h3 4 e rfl
set_option maxRecDepth 100000 in
theorem string_calls (s : ByteArray) (hs : s.size ≤ 2147483647) (w : World) :
    Calls Tryd.prog 5 #[.string s] w fun e w' => ∃ raw, e = .returned (resI raw s) ∧ Below w.heap.size w w' := by
  obtain ⟨k, r, hq⟩ := quote_ex s hs
  have hc := fun W => spec_Quote.calls k s r W hq
  dsimp only [resI]
  go_enter Tryd.func5, Tryd.ntmps5
  go_wp2_with (first | (go_at_call 12; (with_reducible refine (hc _).mono ?_); rintro e w' ⟨rfl, HB0⟩; have hk := (HB0.block w.heap.size (lt_alloc _ _)).trans (heap_alloc_new w _); have HB1 := Aside0.mk (below_step (below_alloc_ w _) HB0); clear HB0) | ((with_reducible refine gate_store (t := 25) (p := 2) rfl ?_); refine put_event rfl 25 2 _ rfl rfl _ [.int .i64 3, .string r, .string s, (.float .f64 0), .bool true] rfl rfl hk rfl (by kernel_rfl) (Nat.le_refl 5) (by simp [Value.oneCell']) ?_; intro W3 hW3; have hk3 : W3.heap[w.heap.size]? = _ := hW3 ▸ cells5 hk _ _ _ _ _; have HB3 := Aside0.mk (show Below w.heap.size w W3 from hW3 ▸ below5 HB1.out (Nat.le_refl _) _ _ _ _ _); clear hW3 hk HB1; have HK3 := Aside0.mk hk3; clear hk3))
  (try simp only [Exit.inBlock, Exit.then])
  refine bodyPost_ret (results_cell_row rfl _ _ w.heap.size 25 #[.int .i64 3, .string r, .string s, .float .f64 0, .bool true] (0, 0) _ rfl HK3.out Tryd.underlying25 rfl (by kernel_rfl)) rfl ?_
  exact ⟨_, rfl, HB3.out⟩
set_option maxRecDepth 100000 in
theorem of_calls (raw s : ByteArray) (w : World) :
    Calls Tryd.prog 11 #[resI raw s] w fun e w' => e = .returned (resG raw s) ∧ Below w.heap.size w w' := by
  dsimp only [resI, resG]
  go_enter Tryd.func11, Tryd.ntmps11
  go_wp2
  (try simp only [Exit.inBlock, Exit.then])
  refine bodyPost_ret (results_cell_row rfl _ _ (w.heap.size + 1) 35 #[.int .i64 3, .string raw, .string s, .float .f64 0, .int .i64 0, .slice none 0 0] (0, 0) _ rfl (new2 _ _ _) Tryd.underlying35 rfl (by kernel_rfl)) rfl ?_
  exact ⟨rfl, by repeat (first | exact Below.refl _ _ | apply below_alloc | apply below_set)⟩
set_option maxRecDepth 100000 in
theorem exists_calls (raw s : ByteArray) (w : World) :
    Calls Tryd.prog 16 #[resG raw s] w fun e w' => e = .returned (.bool true) ∧ Below w.heap.size w w' := by
  dsimp only [resI, resG]
  go_enter Tryd.func16, Tryd.ntmps16
  go_wp2
  go_ret
  exact ⟨rfl, by repeat (first | exact Below.refl _ _ | apply below_alloc | apply below_set)⟩
/-! ### the order -/
def lt_ (s t : ByteArray) : Bool := Op.bytesLess s.toList t.toList
def eq_ (s t : ByteArray) : Bool := s.toList == t.toList
theorem less_irr (l : List UInt8) : Op.bytesLess l l = false := by
  induction l with
  | nil => rfl
  | cons a l ih =>
    unfold Op.bytesLess
    rw [ih]
    simp
theorem lt_eq (s t : ByteArray) (h : lt_ s t = true) : eq_ s t = false := by
  unfold lt_ at h
  unfold eq_
  rw [beq_eq_false_iff_ne]
  intro e
  rw [e, less_irr] at h
  cases h
def ordN (l e : Bool) : Int := if l = true then -1 else if e = true then 0 else 1
set_option maxRecDepth 100000 in
theorem order_calls (s t : ByteArray) (w : World) :
    Calls Tryd.prog 8 #[.string s, .string t] w fun e w' => e = .returned (.int .i64 (ordN (lt_ s t) (eq_ s t))) ∧ w' = w := by
  have h0 := lt_eq s t
  cases h1 : lt_ s t with
  | true =>
    have h2 := h0 h1
    rw [h2]
    unfold lt_ at h1
    unfold eq_ at h2
    clear h0
    go_enter Tryd.func8, Tryd.ntmps8
    go_wp2
    go_ret
    exact ⟨rfl, rfl⟩
  | false =>
    clear h0
    cases h2 : eq_ s t with
    | true =>
      unfold lt_ at h1
      unfold eq_ at h2
      go_enter Tryd.func8, Tryd.ntmps8
      go_wp2
      go_ret
      exact ⟨rfl, rfl⟩
    | false =>
      unfold lt_ at h1
      unfold eq_ at h2
      go_enter Tryd.func8, Tryd.ntmps8
      go_wp2
      go_ret
      exact ⟨rfl, rfl⟩
/-! ### the comparison -/
def sgnT : Nat → ByteArray
  | 0 => ⟨#[61]⟩
  | 1 => ⟨#[33, 61]⟩
  | 2 => ⟨#[60]⟩
  | 3 => ⟨#[62, 61]⟩
  | 4 => ⟨#[62]⟩
  | _ => ⟨#[60, 61]⟩
def sgnR : Nat → Bool → Bool → Bool
  | 0, _, e => e
  | 1, _, e => !e
  | 2, l, _ => l
  | 3, l, _ => !l
  | 4, l, e => !(l || e)
  | _, l, e => l || e
set_option maxHeartbeats 4000000 in
set_option maxRecDepth 100000 in
theorem query_calls (j : Nat) (hj : j < 6) (raw s right : ByteArray) (g : Nat) (W : World) (hop : W.cell? ⟨g, 11, none⟩ = some (.string (sgnT j))) (hval : W.cell? ⟨g, 12, none⟩ = some (.string right)) (hr : right.size = 0 ∨ (0 < right.size ∧ bt right 0 ≠ 126)) :
    Calls Tryd.prog 13 #[.pointer (some ⟨g, 0, none⟩), resG raw s] W fun e w' => e = .returned (.bool (sgnR j (lt_ s right) (eq_ s right))) ∧ Below W.heap.size W w' := by
  have hg := World.block_lt_of_cell? W _ hval
  have hc := fun w => exists_calls raw s w
  unfold lt_ eq_
  dsimp only [resG] at hc ⊢
  have hj' : j = 0 ∨ j = 1 ∨ j = 2 ∨ j = 3 ∨ j = 4 ∨ j = 5 := by omega
  clear hj
  rcases hr with hr | ⟨hr1, hr2⟩
  · have d1 : decide (0 < right.size) = false := decide_eq_false (by omega)
    have d2 : decide ((0 : Int) < (right.size : Int)) = false := decide_eq_false (by omega)
    clear hr
    rcases hj' with rfl | rfl | rfl | rfl | rfl | rfl
    all_goals
      dsimp only [sgnT, sgnR] at hop ⊢
      go_enter Tryd.func13, Tryd.ntmps13
      go_wp2_with (first | (go_at_call 16; (with_reducible refine (hc _).mono ?_); rintro e w' ⟨rfl, HB0⟩; have hop2 := keep_ (keep_ hop (below_alloc_ W _)) HB0; have hk := (HB0.block W.heap.size (lt_alloc _ _)).trans (heap_alloc_new W _); have c0 := blk_cell hk 0; have c2 := blk_cell hk 2; clear hk; have HB1 := Aside0.mk (below_step (below_alloc_ W _) HB0); clear HB0 hop hval))
      go_ret
      exact ⟨by first | rfl | simp, HB1.out⟩
  · have d1 : decide (0 < right.size) = true := decide_eq_true hr1
    have d2 : decide ((0 : Int) < (right.size : Int)) = true := decide_eq_true (by omega)
    have qi : ((0 : Int) < (right.size : Int)) = True := eq_true (by omega)
    have hx := bt_lit right 0 0 rfl
    have e0 : (bt right 0 == 126) = false := beq_eq_false_iff_ne.2 hr2
    have q6 : (0 < right.size) = True := eq_true hr1
    clear hr1 hr2
    rcases hj' with rfl | rfl | rfl | rfl | rfl | rfl
    all_goals
      dsimp only [sgnT, sgnR] at hop ⊢
      go_enter Tryd.func13, Tryd.ntmps13
      go_wp2_with (first | (go_at_call 16; (with_reducible refine (hc _).mono ?_); rintro e w' ⟨rfl, HB0⟩; have hop2 := keep_ (keep_ hop (below_alloc_ W _)) HB0; have hk := (HB0.block W.heap.size (lt_alloc _ _)).trans (heap_alloc_new W _); have c0 := blk_cell hk 0; have c2 := blk_cell hk 2; clear hk; have HB1 := Aside0.mk (below_step (below_alloc_ W _) HB0); clear HB0 hop hval))
      go_ret
      exact ⟨by first | rfl | simp, HB1.out⟩
/-! ### the door -/
set_option maxHeartbeats 4000000 in
set_option maxRecDepth 100000 in
theorem door_calls (j : Nat) (hj : j < 6) (raw s right : ByteArray) (hr : right.size = 0 ∨ (0 < right.size ∧ bt right 0 ≠ 126)) (w : World) :
    Calls Tryd.prog 10 #[resG raw s, .string (sgnT j), .string right] w fun e w' => e = .returned (.bool (sgnR j (lt_ s right) (eq_ s right))) ∧ Below w.heap.size w w' := by
  have hq := fun g W h1 h2 => query_calls j hj raw s right g W h1 h2 hr
  obtain ⟨op, hop⟩ : ∃ op, sgnT j = op := ⟨_, rfl⟩
  obtain ⟨b, hb⟩ : ∃ b, sgnR j (lt_ s right) (eq_ s right) = b := ⟨_, rfl⟩
  rw [hop]
  rw [hb]
  simp only [hop, hb] at hq
  clear hop hb hr hj
  dsimp only [resG] at hq ⊢
  go_enter Tryd.func10, Tryd.ntmps10
  go_wp2_with (go_at_call 13; (with_reducible refine (hq _ _ ?h1 ?h2).mono ?_); (case h1 => exact (blk_cell (new2 _ _ _) 11).trans rfl); (case h2 => exact (blk_cell (new2 _ _ _) 12).trans rfl); rintro e w' ⟨rfl, HB⟩)
  go_ret
  exact ⟨rfl, below_step (below_step (below_alloc_ _ _) (below_alloc_ _ _)) HB⟩
set_option maxRecDepth 100000 in
theorem matches_calls (j : Nat) (hj : j < 6) (raw s right : ByteArray) (hr : right.size = 0 ∨ (0 < right.size ∧ bt right 0 ≠ 126)) (w : World) :
    Calls Tryd.prog 4 #[resI raw s, .string (sgnT j), .string right] w fun e w' => e = .returned (.bool (sgnR j (lt_ s right) (eq_ s right))) ∧ Below w.heap.size w w' := by
  have hd := fun W => door_calls j hj raw s right hr W
  have ho := fun W => of_calls raw s W
  generalize sgnT j = op at hd ⊢
  generalize sgnR j (lt_ s right) (eq_ s right) = b at hd ⊢
  clear hr hj
  dsimp only [resG, resI] at hd ho ⊢
  go_enter Tryd.func4, Tryd.ntmps4
  go_wp2_with (first | (go_at_call 11; (with_reducible refine (ho _).mono ?_); rintro e w1 ⟨rfl, HB1⟩) | (go_at_call 10; (with_reducible refine (hd _).mono ?_); rintro e w2 ⟨rfl, HB2⟩))
  go_ret
  exact ⟨rfl, below_step (below_step (below_alloc_ _ _) HB1) HB2⟩
/-! ### the operators -/
def opT : Nat → ByteArray
  | 0 => ⟨#[61, 61]⟩
  | 1 => ⟨#[33, 61]⟩
  | 2 => ⟨#[60]⟩
  | 3 => ⟨#[62, 61]⟩
  | 4 => ⟨#[62]⟩
  | _ => ⟨#[60, 61]⟩
theorem op_ex (a : Int) : ∃ j, j < 6 ∧ laws_gjOp.f a = some (opT j) := by
  have h1 : -5 ≤ Int.tmod a 6 ∧ Int.tmod a 6 ≤ 5 := by
    by_cases h : 0 ≤ a
    · rw [Int.tmod_eq_emod_of_nonneg h]; omega
    · have e : Int.tmod a 6 = -(Int.tmod (-a) 6) := by rw [Int.neg_tmod, Int.neg_neg]
      rw [e, Int.tmod_eq_emod_of_nonneg (by omega)]; omega
  obtain ⟨m, hm⟩ : ∃ m, Int.tmod (wrap64 (Int.tmod a 6 + 6)) 6 = m := ⟨_, rfl⟩
  have h2 : 0 ≤ m ∧ m < 6 := by
    have e : wrap64 (Int.tmod a 6 + 6) = Int.tmod a 6 + 6 := by unfold wrap64; omega
    rw [e, Int.tmod_eq_emod_of_nonneg (by omega)] at hm
    omega
  unfold laws_gjOp.f
  rw [Option.bind_some, hm, if_pos h2.1, if_pos (by simpa using h2.2)]
  have h3 : m = 0 ∨ m = 1 ∨ m = 2 ∨ m = 3 ∨ m = 4 ∨ m = 5 := by omega
  rcases h3 with rfl | rfl | rfl | rfl | rfl | rfl
  · exact ⟨0, by omega, rfl⟩
  · exact ⟨1, by omega, rfl⟩
  · exact ⟨2, by omega, rfl⟩
  · exact ⟨3, by omega, rfl⟩
  · exact ⟨4, by omega, rfl⟩
  · exact ⟨5, by omega, rfl⟩
theorem holds_f (j : Nat) (hj : j < 6) (l e : Bool) (h : l = true → e = false) : laws_gjHolds.f (ordN l e) (opT j) = some (sgnR j l e) := by
  have h3 : j = 0 ∨ j = 1 ∨ j = 2 ∨ j = 3 ∨ j = 4 ∨ j = 5 := by omega
  unfold laws_gjHolds.f
  rcases h3 with rfl | rfl | rfl | rfl | rfl | rfl <;> cases l <;> cases e <;> simp_all [opT, ordN, sgnR, ByteArray.toList_eq]
set_option maxRecDepth 100000 in
theorem sign_calls (a : Int) (j : Nat) (hj : j < 6) (ho : laws_gjOp.f a = some (opT j)) (w : World) :
    Calls Tryd.prog 6 #[.int .i64 a] w fun e w' => e = .returned (.string (sgnT j)) ∧ Below w.heap.size w w' := by
  have hc := fun W => laws_gjOp.calls a (opT j) W ho
  clear ho
  have h3 : j = 0 ∨ j = 1 ∨ j = 2 ∨ j = 3 ∨ j = 4 ∨ j = 5 := by omega
  clear hj
  rcases h3 with rfl | rfl | rfl | rfl | rfl | rfl
  all_goals
    dsimp only [opT, sgnT] at hc ⊢
    go_enter Tryd.func6, Tryd.ntmps6
    go_wp2_with (go_at_call 9; (with_reducible refine (hc _).mono ?_); rintro e w' ⟨rfl, HB⟩)
    go_ret
    exact ⟨rfl, HB⟩
/-! ### the law -/
set_option maxHeartbeats 4000000 in
set_option maxRecDepth 100000 in
theorem law_calls (s right : ByteArray) (a : Int) (w : World) :
    Calls Tryd.prog 3 #[.string s, .string right, .int .i64 a] w fun e w' => e = .returned (.bool true) ∧ Below w.heap.size w w' := by
  by_cases c1 : s.size ≤ 2147483647
  · by_cases c2 : right.size ≤ 2147483647
    · have d1 : decide ((s.size : Int) > 2147483647) = false := decide_eq_false (by omega)
      have d2 : decide ((right.size : Int) > 2147483647) = false := decide_eq_false (by omega)
      have main : (right.size = 0 ∨ (0 < right.size ∧ bt right 0 ≠ 126)) → True := fun _ => trivial
      by_cases c3 : 0 < right.size ∧ bt right 0 = 126
      · have qi : ((0 : Int) < (right.size : Int)) = True := eq_true (by omega)
        have hx := bt_lit right 0 0 rfl
        have e0 : (bt right 0 == 126) = true := beq_iff_eq.2 c3.2
        have q6 : (0 < right.size) = True := eq_true c3.1
        have hemp : right.toList.isEmpty = false := by
          rw [← decide_eq_emptyBytes]
          exact decide_eq_false (fun h => by have := c3.1; rw [h] at this; exact absurd this (by decide))
        clear c1 c2 c3 main
        go_enter Tryd.func3, Tryd.ntmps3
        go_wp2
        go_ret
        exact ⟨rfl, Below.refl _ _⟩
      · have hr : right.size = 0 ∨ (0 < right.size ∧ bt right 0 ≠ 126) := by
          by_cases h : right.size = 0
          · exact .inl h
          · exact .inr ⟨by omega, fun h2 => c3 ⟨by omega, h2⟩⟩
        obtain ⟨j, hj, ho⟩ := op_ex a
        have k1 := fun W => string_calls s c1 W
        have k2 := fun W => sign_calls a j hj ho W
        have k3 := fun raw W => matches_calls j hj raw s right hr W
        have k4 := fun W => order_calls s right W
        have k5 := fun W => laws_gjOp.calls a (opT j) W ho
        have k6 := fun W => laws_gjHolds.calls _ _ _ W (holds_f j hj (lt_ s right) (eq_ s right) (lt_eq s right))
        generalize sgnR j (lt_ s right) (eq_ s right) = b at k3 k6
        generalize sgnT j = op1 at k2 k3
        generalize opT j = op2 at k5 k6
        generalize ordN (lt_ s right) (eq_ s right) = o at k4 k6
        dsimp only [resI] at k1 k3
        clear c1 c2 c3 main hj ho
        rcases hr with hr | ⟨hr1, hr2⟩
        · obtain rfl : right = ⟨#[]⟩ := by
            apply ByteArray.ext
            exact Array.eq_empty_of_size_eq_zero hr
          clear hr
          go_enter Tryd.func3, Tryd.ntmps3
          go_wp2_with (first | (go_at_call 5; (with_reducible refine (k1 _).mono ?_); rintro e w1 ⟨raw, rfl, HB⟩; have H1 := Aside0.mk HB; clear HB) | (go_at_call 6; (with_reducible refine (k2 _).mono ?_); rintro e w2 ⟨rfl, HB⟩; have H2 := Aside0.mk HB; clear HB) | (go_at_call 4; (with_reducible refine (k3 _ _).mono ?_); rintro e w3 ⟨rfl, HB⟩; have H3 := Aside0.mk HB; clear HB) | (go_at_call 8; (with_reducible refine (k4 _).mono ?_); rintro e w4 ⟨rfl, hw4⟩; have H4 := Aside0.mk (show Below w3.heap.size w3 w4 from hw4 ▸ Below.refl _ _); clear hw4) | (go_at_call 9; (with_reducible refine (k5 _).mono ?_); rintro e w5 ⟨rfl, HB⟩; have H5 := Aside0.mk HB; clear HB) | (go_at_call 7; (with_reducible refine (k6 _).mono ?_); rintro e w6 ⟨rfl, HD⟩; have H6 := Aside0.mk (HD.below); clear HD))
          go_ret
          exact ⟨by simp, below_step (below_step (below_step (below_step (below_step (below_step (Below.refl _ _) H1.out) H2.out) H3.out) H4.out) H5.out) H6.out⟩
        · have qi : ((0 : Int) < (right.size : Int)) = True := eq_true (by omega)
          have hx := bt_lit right 0 0 rfl
          have e0 : (bt right 0 == 126) = false := beq_eq_false_iff_ne.2 hr2
          have q6 : (0 < right.size) = True := eq_true hr1
          have hemp : right.toList.isEmpty = false := by
            rw [← decide_eq_emptyBytes]
            exact decide_eq_false (fun h => by rw [h] at hr1; exact absurd hr1 (by decide))
          clear hr1 hr2
          go_enter Tryd.func3, Tryd.ntmps3
          go_wp2_with (first | (go_at_call 5; (with_reducible refine (k1 _).mono ?_); rintro e w1 ⟨raw, rfl, HB⟩; have H1 := Aside0.mk HB; clear HB) | (go_at_call 6; (with_reducible refine (k2 _).mono ?_); rintro e w2 ⟨rfl, HB⟩; have H2 := Aside0.mk HB; clear HB) | (go_at_call 4; (with_reducible refine (k3 _ _).mono ?_); rintro e w3 ⟨rfl, HB⟩; have H3 := Aside0.mk HB; clear HB) | (go_at_call 8; (with_reducible refine (k4 _).mono ?_); rintro e w4 ⟨rfl, hw4⟩; have H4 := Aside0.mk (show Below w3.heap.size w3 w4 from hw4 ▸ Below.refl _ _); clear hw4) | (go_at_call 9; (with_reducible refine (k5 _).mono ?_); rintro e w5 ⟨rfl, HB⟩; have H5 := Aside0.mk HB; clear HB) | (go_at_call 7; (with_reducible refine (k6 _).mono ?_); rintro e w6 ⟨rfl, HD⟩; have H6 := Aside0.mk (HD.below); clear HD))
          go_ret
          exact ⟨by simp, below_step (below_step (below_step (below_step (below_step (below_step (Below.refl _ _) H1.out) H2.out) H3.out) H4.out) H5.out) H6.out⟩
    · have d1 : decide ((s.size : Int) > 2147483647) = false := decide_eq_false (by omega)
      have d2 : decide ((right.size : Int) > 2147483647) = true := decide_eq_true (by omega)
      clear c1 c2
      go_enter Tryd.func3, Tryd.ntmps3
      go_wp2
      go_ret
      exact ⟨rfl, Below.refl _ _⟩
  · have d1 : decide ((s.size : Int) > 2147483647) = true := decide_eq_true (by omega)
    clear c1
    go_enter Tryd.func3, Tryd.ntmps3
    go_wp2
    go_ret
    exact ⟨rfl, Below.refl _ _⟩
def laws_FnGjMatchesText.Pure : Prop := True
theorem laws_FnGjMatchesText.walk (P : laws_FnGjMatchesText.Pure) (a0 : ByteArray) (a1 : ByteArray) (a2 : Int) (w : World) (w0 : a0.size ≤ 140737488351232) (w1 : a1.size ≤ 140737488351232) (w2 : (Lit.int .i64 a2).wf = true) :
    Calls Tryd.prog 3 #[.string a0, .string a1, .int .i64 a2] w fun e w' => e = .returned (.bool true) ∧ Below w.heap.size w w' := law_calls a0 a1 a2 w
end Go.Proofs.YtemjfolpndkgpaaDoor.PFnGjMatchesText
