/- The reference's Dress of a string without code, told by hand: the methods that write; no condition beside those that each theorem states. -/
import Derived.Test.YtobmnfbplmefoaaDoorPFnJqPathOfx2
import Derived.Deep.AppendLies
import Derived.Deep.RegionLaw
import Derived.Laws.BitsLemmas
import Derived.Outline
namespace Go.Proofs.YtobmnfbplmefoaaDoor.PFnJqPathOf
open Go.RowKit Go.Proofs.YtobmnfbplmefoaaDoorW.PrintWords Go.Proofs.YtobmnfbplmefoaaDoorW.PrintLast Go.Proofs.YtobmnfbplmefoaaDoorW.PrintMore
set_option linter.unusedVariables false
set_option linter.unusedSimpArgs false
/-- The writer: a block with no code, and the row that is written. -/
structure Dr (base d : Nat) (A1 : Option Addr) (c1 : Nat) (v : Value) (l : List Int) (w0 W : World) : Prop where
  below : Below base w0 W
  hb : base ≤ d
  hw : base ≤ W.heap.size
  c0 : W.cell? ⟨d, 0, none⟩ = some (.slice A1 0 c1)
  c2 : W.cell? ⟨d, 2, none⟩ = some v
  f2 : W.frozen? ⟨d, 2, none⟩ = false
  row : W.ownsRow base 5 1 v l.length (nums .u8 l)
  ty : ∃ cs, W.heap[d]? = some (.cells cs 46 (0, 0))
  ne : v.ownBlock ≠ some d
theorem keepD {W W' : World} {a : Addr} {v : Value} (h : W.cell? a = some v) (hb : Below W.heap.size W W') : W'.cell? a = some v := (hb.cell (World.block_lt_of_cell? W _ h)).trans h
theorem belowD (w : World) (m : Nat) (o : Obj) : Below w.heap.size w ((w.drewN m).alloc o) := below_alloc (pw_below_drewN (Below.refl _ _) m) o
theorem Dr.lt {base d : Nat} {A1 : Option Addr} {c1 : Nat} {v : Value} {l : List Int} {w0 W : World} (h : Dr base d A1 c1 v l w0 W) : d < W.heap.size := World.block_lt_of_cell? W _ h.c0
theorem Dr.more {base d : Nat} {A1 : Option Addr} {c1 : Nat} {v : Value} {l : List Int} {w0 W W2 : World} (h : Dr base d A1 c1 v l w0 W) (hb : Below W.heap.size W W2) : Dr base d A1 c1 v l w0 W2 := by
  have hlt := h.lt
  refine ⟨h.below.trans (hb.mono h.hw), h.hb, Nat.le_trans h.hw hb.size, (hb.cell hlt).trans h.c0, (hb.cell hlt).trans h.c2, ?_, pw_own_below h.row hb, h.ty.imp (fun _ e => (hb.block d hlt).trans e), h.ne⟩
  rw [← h.f2]
  exact hb.frozen hlt
/-- What is known between an append and its store. -/
structure Dp (base d : Nat) (A1 : Option Addr) (c1 : Nat) (v v1 : Value) (l : List Int) (w0 W : World) : Prop where
  below : Below base w0 W
  hb : base ≤ d
  hw : base ≤ W.heap.size
  c0 : W.cell? ⟨d, 0, none⟩ = some (.slice A1 0 c1)
  c2 : W.cell? ⟨d, 2, none⟩ = some v
  f2 : W.frozen? ⟨d, 2, none⟩ = false
  row : W.ownsRow base 5 1 v1 l.length (nums .u8 l)
  ty : ∃ cs, W.heap[d]? = some (.cells cs 46 (0, 0))
  ne : v1.ownBlock ≠ some d
theorem Dp.put {base d : Nat} {A1 : Option Addr} {c1 : Nat} {v v1 : Value} {l : List Int} {w0 W : World} (h : Dp base d A1 c1 v v1 l w0 W) : Dr base d A1 c1 v1 l w0 (W.setCell ⟨d, 2, none⟩ v1) := by
  have hv : v1.oneCell' = true := by
    obtain ⟨A, c, rfl⟩ := own_slice h.row
    rfl
  refine ⟨h.below.setCell h.hb _, h.hb, by rw [World.size_setCell]; exact h.hw, ?_, ?_, ?_, ?_, h.ty.imp' (fun cs => cs.setIfInBounds 2 v1) (fun _ e => heap_setCell_same _ _ _ _ _ _ e), h.ne⟩
  · rw [World.cell?_setCell_other _ _ _ _ (by intro e; injection e with _ e; exact absurd e (by decide))]
    exact h.c0
  · exact World.cell?_setCell_same' _ _ _ (by rw [h.c2]; rfl)
  · rw [World.frozen?_setCell]
    exact h.f2
  · refine own_move h.row (fun k hk => ?_)
    exact Below.heap_setCell _ _ _ k (fun e => h.ne (by rw [hk]; exact congrArg some e))
/-- An append onto the row that is written: what is known behind it. -/
theorem Dr.grow {base d : Nat} {A1 : Option Addr} {c1 : Nat} {v v1 : Value} {l l2 : List Int} {w0 W W1 : World} (h : Dr base d A1 c1 v l w0 W) (hB : Below base w0 W1) (hrow : W1.ownsRow base 5 1 v1 l2.length (nums .u8 l2)) (hg : W.grownBy W1 v.ownBlock) : Dp base d A1 c1 v v1 l2 w0 W1 := by
  have hlt := h.lt
  have hne : some d ≠ v.ownBlock := fun e => h.ne e.symm
  have hblk : W1.heap[d]? = W.heap[d]? := hg.block d hlt hne
  refine ⟨hB, h.hb, Nat.le_trans h.hw hg.size, hg.cell h.c0 hne, hg.cell h.c2 hne, ?_, hrow, h.ty.imp (fun _ e => hblk.trans e), ?_⟩
  · rw [← h.f2]
    unfold World.frozen?
    dsimp only
    rw [hblk]
  · intro e
    obtain ⟨cs, h1⟩ := h.ty
    obtain ⟨cs2, h2⟩ := own_typed hrow d e
    rw [hblk, h1] at h2
    injection h2 with h2
    injection h2 with _ h3
    exact absurd h3 (by decide)
/-- append of some bytes of a row that was just built. -/
theorem dr_append {ops : Array Oper} {rest : List Oper} {o : Oper} {a : Act} {Q : Exit → Act → World → Prop} (hg : o.guard = none) (s x : Operand) (hop : o.op = Op.call { callee := Callee.builtin Builtin.append, args := #[s, x], argTypes := #[23, 23] })
    {base d : Nat} {A1 : Option Addr} {c1 : Nat} {v : Value} {l : List Int} {w0 W : World} (h : Dr base d A1 c1 v l w0 W) (ys : List Int) (hy : 0 < ys.length) (hs : a.eval s = v) (hx : a.eval x = .slice (some ⟨W.heap.size, 0, none⟩) ys.length ys.length) (hl : l.length + ys.length ≤ 140737488355328)
    (hK : ∀ (A2 : Option Addr) (c2 : Nat) (l2 : List Int) (W1 : World), l2 = l ++ ys → Dp base d A1 c1 v (.slice A2 l2.length c2) l2 w0 W1 → wpList Tryd.prog ops Q rest (a.put o.dst (.slice A2 l2.length c2)) W1) : wpList Tryd.prog ops Q (o :: rest) a (W.alloc (.cells (nums .u8 ys).toArray 5)) := by
  obtain ⟨i0, hi, hzz⟩ := Option.map_eq_some_iff.1 info5
  simp only [Prod.mk.injEq] at hzz
  obtain ⟨hz0, hz1, hz2⟩ := hzz
  have h2 := h.more (below_alloc (Below.refl _ _) (.cells (nums .u8 ys).toArray 5))
  have hnl : (nums .u8 ys).length = ys.length := by simp [nums]
  refine wpList_append_own_at (W.alloc (.cells (nums .u8 ys).toArray 5)) hg s x 23 hop base 5 i0 (.int .u8 0) 1 1 Tryd.underlying23 hi hz0 hz1 hz2 rfl (by omega) v l.length (nums .u8 l) hs h2.row ⟨W.heap.size, 0, none⟩ ys.length ys.length (nums .u8 ys) hx (by rw [hnl, Nat.mul_one])
    (by
      have h3 := World.news_of_block (cs := (nums .u8 ys).toArray) (t := 5) (fr := (0, 0)) (heap_alloc_new W _)
      simpa using h3) (fun u hu => by
      simp only [nums, List.mem_map] at hu
      obtain ⟨x, _, rfl⟩ := hu
      rfl) (by simp only [maxLen]; omega) (by rw [Nat.mul_one]; exact hl) h2.hw ?_
  intro v1 W1 hown hgr _ hat
  have hrow : W1.ownsRow base 5 1 v1 (l ++ ys).length (nums .u8 (l ++ ys)) := by
    rw [List.length_append, nums_append]
    exact hown
  obtain ⟨A2, c2, rfl⟩ := own_slice hrow
  refine hK A2 c2 _ W1 rfl (h2.grow (h2.below.grown hgr (by exact h2.hw) (own_base h2.row)) hrow hgr)
/-- The same, as a step of a region that draws its order. -/
theorem dr_step {ops : Array Oper} {o : Oper} {a : Act} {K : Act → World → Prop} {Q : Exit → Act → World → Prop} {E : Prop} (hg : o.guard = none) (s x : Operand) (hop : o.op = Op.call { callee := Callee.builtin Builtin.append, args := #[s, x], argTypes := #[23, 23] })
    {base d : Nat} {A1 : Option Addr} {c1 : Nat} {v : Value} {l : List Int} {w0 W : World} (h : Dr base d A1 c1 v l w0 W) (y : Int) (hs : a.eval s = v) (hx : a.eval x = .slice (some ⟨W.heap.size, 0, none⟩) 1 1) (hl : l.length + 1 ≤ 140737488355328)
    (hK : ∀ (A2 : Option Addr) (c2 : Nat) (l2 : List Int) (W1 : World), l2 = l ++ [y] → Dp base d A1 c1 v (.slice A2 l2.length c2) l2 w0 W1 → K (a.put o.dst (.slice A2 l2.length c2)) W1) :
    if Region.wanted o (yielded ops a.tmps) = true then Oper.wp Tryd.prog o a (W.alloc (.cells #[.int .u8 y] 5)) K Q else E := by
  obtain ⟨i0, hi, hzz⟩ := Option.map_eq_some_iff.1 info5
  simp only [Prod.mk.injEq] at hzz
  obtain ⟨hz0, hz1, hz2⟩ := hzz
  have h2 := h.more (below_alloc (Below.refl _ _) (.cells #[.int .u8 y] 5))
  refine step_append_lies (W.alloc (.cells #[.int .u8 y] 5)) hg s x 23 hop base 5 i0 (.int .u8 0) 1 1 Tryd.underlying23 hi hz0 hz1 hz2 rfl (by omega) v l.length (nums .u8 l) hs h2.row ⟨W.heap.size, 0, none⟩ 1 1 [.int .u8 y] hx rfl
    (World.news_of_block (cs := #[.int .u8 y]) (t := 5) (fr := (0, 0)) (heap_alloc_new W _)) (by simp [Value.oneCell']) (by omega) (by simp only [maxLen]; omega) (by omega) h2.hw _ rfl ?_
  intro g cap W1 hown hgr hat hlt
  have hrow : W1.ownsRow base 5 1 (.slice (some ⟨g, 0, none⟩) (l ++ [y]).length cap) (l ++ [y]).length (nums .u8 (l ++ [y])) := by
    rw [List.length_append, nums_append]
    exact hown
  have h3 := h2.grow (h2.below.grown hgr (by exact h2.hw) (own_base h2.row)) hrow hgr
  have h4 := hK (some ⟨g, 0, none⟩) cap _ W1 rfl h3
  rw [List.length_append] at h4
  exact h4
theorem and15 (x : Int) (h0 : 0 ≤ x) (h1 : x < 9223372036854775808) : bits .and .i64 x 15 = x % 16 := by
  have h127 : (BitVec.ofInt 64 15).toNat = 2 ^ 4 - 1 := by decide
  have key : (BitVec.ofInt 64 x &&& BitVec.ofInt 64 15).toNat = (x % ((2 ^ 64 : Nat) : Int)).toNat % 2 ^ 4 := by
    rw [BitVec.toNat_and, BitVec.toNat_ofInt, h127, Nat.and_two_pow_sub_one_eq_mod]
  show IntKind.i64.wrap ((BitVec.ofInt 64 x &&& BitVec.ofInt 64 15).toNat : Nat) = x % 16
  rw [key, IntKind.wrap_i64]
  omega
set_option maxHeartbeats 4000000 in
set_option maxRecDepth 100000 in
theorem pick_calls (d : Nat) (A1 : Option Addr) (c1 : Nat) (n : Int) (W : World) (h : W.cell? ⟨d, 0, none⟩ = some (.slice A1 0 c1)) :
    Calls Tryd.prog 22 #[.pointer (some ⟨d, 0, none⟩), .int .i64 n] W fun e w' => e = .returned (.int .i64 0) ∧ w' = W := by
  go_enter Tryd.func22, Tryd.ntmps22
  go_wp2
  go_ret
  exact ⟨rfl, rfl⟩
set_option maxHeartbeats 4000000 in
set_option maxRecDepth 100000 in
theorem blanks_calls (d : Nat) (A1 : Option Addr) (c1 : Nat) (W : World) (h : W.cell? ⟨d, 0, none⟩ = some (.slice A1 0 c1)) :
    Calls Tryd.prog 16 #[.pointer (some ⟨d, 0, none⟩)] W fun e w' => e = .returned (.tuple #[]) ∧ w' = W := by
  have k1 := pick_calls d A1 c1 4 W h
  clear h
  go_enter Tryd.func16, Tryd.ntmps16
  go_wp2_with (go_at_call 22; (with_reducible refine k1.mono ?_); rintro e w1 ⟨rfl, rfl⟩; clear k1)
  refine wp_loop_rounds 1 ?_
  rw [rounds_succ]
  go_wp2
  go_end0
  exact ⟨rfl, rfl⟩
/-- A digit of an escape. -/
def dgt (x : Int) : Int := if x < 10 then 48 + x else 87 + x
theorem dgt_f (x : Int) (h0 : 0 ≤ x) (h1 : x < 16) : spec_digitOf.f x false = some (dgt x) := by
  unfold spec_digitOf.f dgt
  split
  · congr 1
    unfold wrap64
    omega
  · rw [if_neg Bool.false_ne_true]
    congr 1
    unfold wrap64
    omega
set_option maxHeartbeats 8000000 in
set_option maxRecDepth 100000 in
theorem unit_calls (base d : Nat) (A1 : Option Addr) (c1 : Nat) (v : Value) (l : List Int) (w0 W : World) (h : Dr base d A1 c1 v l w0 W) (x : Int) (h0 : 0 ≤ x) (h1 : x < 65536) (hl : l.length ≤ 1000000) :
    Calls Tryd.prog 34 #[.pointer (some ⟨d, 0, none⟩), .int .i64 x] W fun e w' => e = .returned (.tuple #[]) ∧ ∃ v', Dr base d A1 c1 v' (l ++ [92, 117, dgt (x / 4096 % 16), dgt (x / 256 % 16), dgt (x / 16 % 16), dgt (x % 16)]) w0 w' := by
  have g0 := h.c0
  have g2 := h.c2
  have gf := h.f2
  have HD := Aside0.mk h
  have HL := Aside0.mk hl
  clear h
  go_enter Tryd.func34, Tryd.ntmps34
  go_wp2_with (first | ((with_reducible refine gate_builtin (b := .append) (xs := #[.tmp 9, .tmp 10]) rfl ?_); at_builtin; refine dr_append rfl (.tmp 9) (.tmp 10) rfl HD.out [92, 117] (by decide) rfl rfl (by have := HL.out; simp; omega) ?_; intro Ab cb l2 W1 hl2 hp; have HP := Aside0.mk hp; have HL2 := Aside0.mk hl2; have g0b := hp.c0; have g2b := hp.c2; have gfb := hp.f2; clear hp hl2))
  have HD1 := Aside0.mk HP.out.put
  clear g0 g2 gf g0b g2b gfb
  obtain ⟨ds, hds⟩ : ∃ ds, ds = [dgt (x / 4096 % 16), dgt (x / 256 % 16), dgt (x / 16 % 16), dgt (x % 16)] := ⟨_, rfl⟩
  have HDS := Aside0.mk hds
  have p0 := dgt_f (x / 4096 % 16) (by omega) (by omega)
  have p1 := dgt_f (x / 256 % 16) (by omega) (by omega)
  have p2 := dgt_f (x / 16 % 16) (by omega) (by omega)
  have p3 := dgt_f (x % 16) (by omega) (by omega)
  have q0 := and15 (x / 4096) (by omega) (by omega)
  have q1 := and15 (x / 256) (by omega) (by omega)
  have q2 := and15 (x / 16) (by omega) (by omega)
  have q3 := and15 x h0 (by omega)
  have P0 := Aside0.mk p0
  have P1 := Aside0.mk p1
  have P2 := Aside0.mk p2
  have P3 := Aside0.mk p3
  clear hds p0 p1 p2 p3 HD hl
  go_loopw [4] (fun vk wr => ∃ (n : Nat) (v : Value) (l3 : List Int), vk = .int .i64 (12 - 4 * (n : Int)) ∧ Aside0 (n ≤ 4 ∧ l3 = l2 ++ ds.take n) ∧ Aside0 (Dr base d A1 c1 v l3 w0 wr)) (fun vk _ => (intOf vk + 4).toNat)
  case atStart => exact ⟨0, _, l2, rfl, ⟨by omega, by simp⟩, HD1⟩
  case round =>
    clear HD1 HP
    obtain ⟨n, v2, l3, rfl, HN, HD⟩ := hrel
    have hn := HN.out.1
    have hn' : n = 0 ∨ n = 1 ∨ n = 2 ∨ n = 3 ∨ n = 4 := by omega
    have g0 := HD.out.c0
    have g2 := HD.out.c2
    have gf := HD.out.f2
    have g2a := fun (m : Nat) (o : Obj) => keepD g2 (belowD wr m o)
    have k1 := fun W (h : W.cell? ⟨d, 0, none⟩ = some (.slice A1 0 c1)) => pick_calls d A1 c1 2 W h
    clear hn
    rcases hn' with rfl | rfl | rfl | rfl | rfl
    · rw [show (12 - 4 * ((0 : Nat) : Int)) = 12 from rfl]
      go_wp2
      go_region_law (first
        | (go_simp; go_at_call 22; (with_reducible refine (k1 _ ?hc).mono ?_); (case hc => exact g0); rintro e w1 ⟨rfl, rfl⟩)
        | (go_simp; go_at_call 35; (with_reducible refine (spec_digitOf.calls _ _ _ _ P0.out).mono ?_); rintro e w1 ⟨rfl, ⟨nd, rfl⟩⟩)
        | (refine dr_step rfl (.tmp 22) (.tmp 31) rfl (HD.out.more ?hb) (dgt (x / 4096 % 16)) rfl rfl ?hl ?_; (case hb => repeat (first | exact Below.refl _ _ | apply below_drew | apply pw_below_drewN)); (case hl => rw [HN.out.2, HL2.out]; have := HL.out; simp; omega); intro Ab2 cb2 l4 W2 hl4 hp; have HP := Aside0.mk hp; have HL4 := Aside0.mk hl4; have g0b := hp.c0; have g2b := hp.c2; have gfb := hp.f2; clear hp hl4))
      all_goals
        clear g0 g2 gf g2a g0b g2b gfb
        go_wp2
        go_roundw
        case rel => exact ⟨1, _, l4, rfl, ⟨by omega, by rw [HL4.out, HN.out.2, HDS.out]; simp⟩, ⟨HP.out.put⟩⟩
        case measure => simp [intOf]
    · rw [show (12 - 4 * ((1 : Nat) : Int)) = 8 from rfl]
      go_wp2
      go_region_law (first
        | (go_simp; go_at_call 22; (with_reducible refine (k1 _ ?hc).mono ?_); (case hc => exact g0); rintro e w1 ⟨rfl, rfl⟩)
        | (go_simp; go_at_call 35; (with_reducible refine (spec_digitOf.calls _ _ _ _ P1.out).mono ?_); rintro e w1 ⟨rfl, ⟨nd, rfl⟩⟩)
        | (refine dr_step rfl (.tmp 22) (.tmp 31) rfl (HD.out.more ?hb) (dgt (x / 256 % 16)) rfl rfl ?hl ?_; (case hb => repeat (first | exact Below.refl _ _ | apply below_drew | apply pw_below_drewN)); (case hl => rw [HN.out.2, HL2.out]; have := HL.out; simp; omega); intro Ab2 cb2 l4 W2 hl4 hp; have HP := Aside0.mk hp; have HL4 := Aside0.mk hl4; have g0b := hp.c0; have g2b := hp.c2; have gfb := hp.f2; clear hp hl4))
      all_goals
        clear g0 g2 gf g2a g0b g2b gfb
        go_wp2
        go_roundw
        case rel => exact ⟨2, _, l4, rfl, ⟨by omega, by rw [HL4.out, HN.out.2, HDS.out]; simp⟩, ⟨HP.out.put⟩⟩
        case measure => simp [intOf]
    · rw [show (12 - 4 * ((2 : Nat) : Int)) = 4 from rfl]
      go_wp2
      go_region_law (first
        | (go_simp; go_at_call 22; (with_reducible refine (k1 _ ?hc).mono ?_); (case hc => exact g0); rintro e w1 ⟨rfl, rfl⟩)
        | (go_simp; go_at_call 35; (with_reducible refine (spec_digitOf.calls _ _ _ _ P2.out).mono ?_); rintro e w1 ⟨rfl, ⟨nd, rfl⟩⟩)
        | (refine dr_step rfl (.tmp 22) (.tmp 31) rfl (HD.out.more ?hb) (dgt (x / 16 % 16)) rfl rfl ?hl ?_; (case hb => repeat (first | exact Below.refl _ _ | apply below_drew | apply pw_below_drewN)); (case hl => rw [HN.out.2, HL2.out]; have := HL.out; simp; omega); intro Ab2 cb2 l4 W2 hl4 hp; have HP := Aside0.mk hp; have HL4 := Aside0.mk hl4; have g0b := hp.c0; have g2b := hp.c2; have gfb := hp.f2; clear hp hl4))
      all_goals
        clear g0 g2 gf g2a g0b g2b gfb
        go_wp2
        go_roundw
        case rel => exact ⟨3, _, l4, rfl, ⟨by omega, by rw [HL4.out, HN.out.2, HDS.out]; simp⟩, ⟨HP.out.put⟩⟩
        case measure => simp [intOf]
    · rw [show (12 - 4 * ((3 : Nat) : Int)) = 0 from rfl]
      go_wp2
      go_region_law (first
        | (go_simp; go_at_call 22; (with_reducible refine (k1 _ ?hc).mono ?_); (case hc => exact g0); rintro e w1 ⟨rfl, rfl⟩)
        | (go_simp; go_at_call 35; (with_reducible refine (spec_digitOf.calls _ _ _ _ P3.out).mono ?_); rintro e w1 ⟨rfl, ⟨nd, rfl⟩⟩)
        | (refine dr_step rfl (.tmp 22) (.tmp 31) rfl (HD.out.more ?hb) (dgt (x % 16)) rfl rfl ?hl ?_; (case hb => repeat (first | exact Below.refl _ _ | apply below_drew | apply pw_below_drewN)); (case hl => rw [HN.out.2, HL2.out]; have := HL.out; simp; omega); intro Ab2 cb2 l4 W2 hl4 hp; have HP := Aside0.mk hp; have HL4 := Aside0.mk hl4; have g0b := hp.c0; have g2b := hp.c2; have gfb := hp.f2; clear hp hl4))
      all_goals
        clear g0 g2 gf g2a g0b g2b gfb
        go_wp2
        go_roundw
        case rel => exact ⟨4, _, l4, rfl, ⟨by omega, by rw [HL4.out, HN.out.2, HDS.out]; simp⟩, ⟨HP.out.put⟩⟩
        case measure => simp [intOf]
    · rw [show (12 - 4 * ((4 : Nat) : Int)) = -4 from rfl]
      go_wp2
      go_end0
      refine ⟨rfl, v2, ?_⟩
      have h9 := HD.out
      rw [HN.out.2, HL2.out, HDS.out] at h9
      simpa using h9
end Go.Proofs.YtobmnfbplmefoaaDoor.PFnJqPathOf
