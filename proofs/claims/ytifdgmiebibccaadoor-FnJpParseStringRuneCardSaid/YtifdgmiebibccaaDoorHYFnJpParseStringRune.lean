/- impl.JpParseString of one escape of a character (one unit, or two), told by hand; no condition beside those that each theorem states. -/
import Derived.Test.YtifdgmiebibccaaDoorGXFnJpParseStringRune
import Derived.Test.YtifdgmiebibccaaDoorSHFnJpParseStringRune
import Derived.Test.YtifdgmiebibccaaDoorPFnJpParseStringRunex2
import Derived.Lib.ConvBytes
import Derived.Laws.BytesArg
import Derived.Laws.CopyOwn
namespace Go.Proofs.YtifdgmiebibccaaDoor.PFnJpParseStringRune
open Go.RowKit Go.Proofs.YtifdgmiebibccaaDoorW.PrintWords Go.Proofs.YtifdgmiebibccaaDoorW.PrintLast Go.Proofs.YtifdgmiebibccaaDoorW.PrintMore
set_option linter.unusedVariables false
set_option linter.unusedSimpArgs false
/-! ### a character's bytes -/
def encN (r : Int) : List Int := if r ≤ 127 then [r] else if r ≤ 2047 then [192 + r / 64, 128 + r % 64] else if r ≤ 65535 then [224 + r / 4096, 128 + r / 64 % 64, 128 + r % 64] else [240 + r / 262144, 128 + r / 4096 % 64, 128 + r / 64 % 64, 128 + r % 64]
/-- The first bytes of a block are what the list says. -/
structure Bts (g : Nat) (l : List Int) (w : World) : Prop where
  cell : ∀ j : Nat, j < l.length → w.cell? ⟨g, j, none⟩ = some (.int .u8 (l.getD j 0))
  free : ∀ j : Nat, j < l.length → w.frozen? ⟨g, j, none⟩ = false
theorem Bts.put {g : Nat} {l : List Int} {w : World} (h : Bts g l w) (k : Nat) (hk : k < l.length) (x : Int) : Bts g (l.set k x) (w.setCell ⟨g, k, none⟩ (.int .u8 x)) := by
  refine ⟨fun j hj => ?_, fun j hj => ?_⟩
  · rw [List.length_set] at hj
    by_cases e : j = k
    · subst e
      rw [World.cell?_setCell_same' _ _ _ (by rw [h.cell j hj]; rfl)]
      simp [List.getD_eq_getElem?_getD, hj]
    · rw [World.cell?_setCell_other _ _ _ _ (by intro h2; injection h2 with _ h2; exact e h2.symm), h.cell j hj]
      simp [List.getD_eq_getElem?_getD, List.getElem?_set_ne (fun h => e h.symm)]
  · rw [List.length_set] at hj
    rw [World.frozen?_setCell]
    exact h.free j hj
theorem Bts.take {g : Nat} {l l' : List Int} {w : World} (h : Bts g (l' ++ l) w) : Bts g l' w := by
  refine ⟨fun j hj => ?_, fun j hj => h.free j (by rw [List.length_append]; omega)⟩
  rw [h.cell j (by rw [List.length_append]; omega)]
  simp [List.getD_eq_getElem?_getD, List.getElem?_append_left hj]
set_option maxHeartbeats 4000000 in
set_option maxRecDepth 100000 in
theorem enc_non (r : Int) (h0 : 127 < r) (h1 : r ≤ 1114111) (h2 : r < 55296 ∨ 57343 < r) (g n cap : Nat) (hn : 4 ≤ n) (w0 w : World) (hb : Below w0.heap.size w0 w) (hg : w0.heap.size ≤ g) (hB : Bts g [0, 0, 0, 0] w) :
    Calls Tryd.prog 21 #[.slice (some ⟨g, 0, none⟩) n cap, .int .i32 r] w fun e w' => e = .returned (.int .i64 ((encN r).length : Int)) ∧ Bts g (encN r) w' ∧ Below w0.heap.size w0 w' := by
  have c0 : w.cell? ⟨g, 0, none⟩ = some (.int .u8 0) := hB.cell 0 (by decide)
  have c1 : w.cell? ⟨g, 1, none⟩ = some (.int .u8 0) := hB.cell 1 (by decide)
  have c2 : w.cell? ⟨g, 2, none⟩ = some (.int .u8 0) := hB.cell 2 (by decide)
  have c3 : w.cell? ⟨g, 3, none⟩ = some (.int .u8 0) := hB.cell 3 (by decide)
  have f0 : w.frozen? ⟨g, 0, none⟩ = false := hB.free 0 (by decide)
  have f1 : w.frozen? ⟨g, 1, none⟩ = false := hB.free 1 (by decide)
  have f2 : w.frozen? ⟨g, 2, none⟩ = false := hB.free 2 (by decide)
  have f3 : w.frozen? ⟨g, 3, none⟩ = false := hB.free 3 (by decide)
  have e32 : IntKind.u32.wrap r = r := by rw [IntKind.wrap_u32]; omega
  have n0 : 0 < n := by omega
  have n1 : 1 < n := by omega
  have n2 : 2 < n := by omega
  have n3 : 3 < n := by omega
  have hB2 : ∀ a b : Int, Bts g [a, b] ((w.setCell ⟨g, 0, none⟩ (.int .u8 a)).setCell ⟨g, 1, none⟩ (.int .u8 b)) := fun a b => Bts.take (l := [0, 0]) ((hB.put 0 (by decide) a).put 1 (by simp) b)
  have hB3 : ∀ a b c : Int, Bts g [a, b, c] (((w.setCell ⟨g, 0, none⟩ (.int .u8 a)).setCell ⟨g, 1, none⟩ (.int .u8 b)).setCell ⟨g, 2, none⟩ (.int .u8 c)) := fun a b c => Bts.take (l := [0]) (((hB.put 0 (by decide) a).put 1 (by simp) b).put 2 (by simp) c)
  have hB4 : ∀ a b c d : Int, Bts g [a, b, c, d] ((((w.setCell ⟨g, 0, none⟩ (.int .u8 a)).setCell ⟨g, 1, none⟩ (.int .u8 b)).setCell ⟨g, 2, none⟩ (.int .u8 c)).setCell ⟨g, 3, none⟩ (.int .u8 d)) := fun a b c d => ((((hB.put 0 (by decide) a).put 1 (by simp) b).put 2 (by simp) c).put 3 (by simp) d)
  have HB2 := Aside0.mk hB2
  have HB3 := Aside0.mk hB3
  have HB4 := Aside0.mk hB4
  have HB := Aside0.mk hb
  have HG := Aside0.mk hg
  clear hB2 hB3 hB4 hB hb hg
  by_cases a1 : r ≤ 2047
  · have d1 : decide (r ≤ 2047) = true := decide_eq_true a1
    have HE := Aside0.mk (show encN r = [192 + r / 64, 128 + r % 64] by unfold encN; rw [if_neg (by omega), if_pos a1])
    go_enter Tryd.func21, Tryd.ntmps21
    go_wp2
    go_ret
    rw [HE.out]
    exact ⟨rfl, HB2.out _ _, below_set (below_set HB.out HG.out) HG.out⟩
  · have d1 : decide (r ≤ 2047) = false := decide_eq_false a1
    by_cases a2 : r ≤ 65535
    · have HE := Aside0.mk (show encN r = [224 + r / 4096, 128 + r / 64 % 64, 128 + r % 64] by unfold encN; rw [if_neg (by omega), if_neg a1, if_pos a2])
      have d2 : decide (r ≤ 65535) = true := decide_eq_true a2
      rcases h2 with h2 | h2
      · have d3 : decide (r < 55296) = true := decide_eq_true h2
        go_enter Tryd.func21, Tryd.ntmps21
        go_wp2
        go_ret
        rw [HE.out]
        exact ⟨rfl, HB3.out _ _ _, below_set (below_set (below_set HB.out HG.out) HG.out) HG.out⟩
      · have d3 : decide (r < 55296) = false := decide_eq_false (by omega)
        have d4 : decide (57343 < r) = true := decide_eq_true h2
        go_enter Tryd.func21, Tryd.ntmps21
        go_wp2
        go_ret
        rw [HE.out]
        exact ⟨rfl, HB3.out _ _ _, below_set (below_set (below_set HB.out HG.out) HG.out) HG.out⟩
    · have HE := Aside0.mk (show encN r = [240 + r / 262144, 128 + r / 4096 % 64, 128 + r / 64 % 64, 128 + r % 64] by unfold encN; rw [if_neg (by omega), if_neg a1, if_neg a2])
      have d2 : decide (r ≤ 65535) = false := decide_eq_false a2
      have d3 : decide (r < 55296) = false := decide_eq_false (by omega)
      have d4 : decide (57343 < r) = true := decide_eq_true (by omega)
      have d5 : decide (r > 65535) = true := decide_eq_true (by omega)
      have d6 : decide (r ≤ 1114111) = true := decide_eq_true h1
      go_enter Tryd.func21, Tryd.ntmps21
      go_wp2
      go_ret
      rw [HE.out]
      exact ⟨rfl, HB4.out _ _ _ _, below_set (below_set (below_set (below_set HB.out HG.out) HG.out) HG.out) HG.out⟩
set_option maxHeartbeats 4000000 in
set_option maxRecDepth 100000 in
theorem enc_calls (r : Int) (h0 : 0 ≤ r) (h1 : r ≤ 1114111) (h2 : r < 55296 ∨ 57343 < r) (g n cap : Nat) (hn : 4 ≤ n) (w0 w : World) (hb : Below w0.heap.size w0 w) (hg : w0.heap.size ≤ g) (hB : Bts g [0, 0, 0, 0] w) :
    Calls Tryd.prog 17 #[.slice (some ⟨g, 0, none⟩) n cap, .int .i32 r] w fun e w' => e = .returned (.int .i64 ((encN r).length : Int)) ∧ Bts g (encN r) w' ∧ Below w0.heap.size w0 w' := by
  have e32 : IntKind.u32.wrap r = r := by rw [IntKind.wrap_u32]; omega
  by_cases a0 : r ≤ 127
  · have d1 : decide (r ≤ 127) = true := decide_eq_true a0
    have c0 : w.cell? ⟨g, 0, none⟩ = some (.int .u8 0) := hB.cell 0 (by decide)
    have f0 : w.frozen? ⟨g, 0, none⟩ = false := hB.free 0 (by decide)
    have n0 : 0 < n := by omega
    have HE := Aside0.mk (show encN r = [r] by unfold encN; rw [if_pos a0])
    have HB1 := Aside0.mk (show Bts g [r] (w.setCell ⟨g, 0, none⟩ (.int .u8 r)) from Bts.take (l := [0, 0, 0]) (hB.put 0 (by decide) r))
    have HB := Aside0.mk hb
    have HG := Aside0.mk hg
    clear hB hb hg
    go_enter Tryd.func17, Tryd.ntmps17
    go_wp2
    go_ret
    rw [HE.out]
    exact ⟨rfl, HB1.out, below_set HB.out HG.out⟩
  · have d1 : decide (r ≤ 127) = false := decide_eq_false a0
    have hc := enc_non r (by omega) h1 h2 g n cap hn w0 w hb hg hB
    clear hB hb hg h0 h1 h2
    go_enter Tryd.func17, Tryd.ntmps17
    go_wp2_with (go_at_call 21; (with_reducible refine hc.mono ?_); rintro e w' ⟨rfl, HB, HW⟩; have H1 := Aside0.mk HB; have H2 := Aside0.mk HW; clear HB HW)
    go_ret
    exact ⟨rfl, H1.out, H2.out⟩
theorem Bts.below {g : Nat} {l : List Int} {w w1 : World} (h : Bts g l w) (hg : g < w.heap.size) (hb : Below w.heap.size w w1) : Bts g l w1 := by
  have hh : w1.heap[g]? = w.heap[g]? := hb.block g hg
  refine ⟨fun j hj => (hb.cell hg).trans (h.cell j hj), fun j hj => ?_⟩
  rw [← h.free j hj]
  unfold World.frozen?
  dsimp only
  rw [hh]
theorem Bts.fresh (w : World) (cs : Array Value) (t : TypeId) (h0 : cs[0]? = some (.int .u8 0)) (h1 : cs[1]? = some (.int .u8 0)) (h2 : cs[2]? = some (.int .u8 0)) (h3 : cs[3]? = some (.int .u8 0)) : Bts w.heap.size [0, 0, 0, 0] (w.alloc (.cells cs t)) := by
  have h := heap_alloc_new w (.cells cs t)
  refine ⟨fun j hj => ?_, fun j hj => blk_frozen h j⟩
  rw [blk_cell h]
  have hj' : j = 0 ∨ j = 1 ∨ j = 2 ∨ j = 3 := by simp at hj; omega
  rcases hj' with rfl | rfl | rfl | rfl
  · exact h0
  · exact h1
  · exact h2
  · exact h3
theorem below_alloc_ (w : World) (o : Obj) : Below w.heap.size w (w.alloc o) := by
  repeat (first | exact Below.refl _ _ | apply below_alloc)
theorem keep_ {W W' : World} {a : Addr} {v : Value} (h : W.cell? a = some v) (hb : Below W.heap.size W W') : W'.cell? a = some v := (hb.cell (World.block_lt_of_cell? W _ h)).trans h
/-! ### one escape -/
abbrev cfgV : Value := .agg #[.bool false, .bool false, .int .i64 0]
set_option maxHeartbeats 4000000 in
set_option maxRecDepth 100000 in
theorem one_calls (k : Nat) (l : List Int) (r m : Int) (hd : jsonparser_decodeUnicodeEscape.f k l = some (r, m)) (hm : m = 6 ∨ m = 12) (h0 : 0 ≤ r) (h1 : r ≤ 1114111) (h2 : r < 55296 ∨ 57343 < r) (b g c cap n : Nat) (hl : l.length = n) (hc : n ≤ c) (hn : 4 ≤ n)
    (w0 w : World) (hr : Kd.C (Kd.int .u8) w (some ⟨b, 0, none⟩) l.length l) (x0 : w.cell? ⟨b, 0, none⟩ = some (.int .u8 92)) (x1 : w.cell? ⟨b, 1, none⟩ = some (.int .u8 117)) (hb : Below w0.heap.size w0 w) (hg : w0.heap.size ≤ g) (hg2 : g < w.heap.size) (hB : Bts g [0, 0, 0, 0] w) :
    Calls Tryd.prog 14 #[cfgV, .slice (some ⟨b, 0, none⟩) n c, .slice (some ⟨g, 0, none⟩) n cap] w fun e w' => e = .returned (.tuple #[.int .i64 m, .int .i64 ((encN r).length : Int)]) ∧ Bts g (encN r) w' ∧ Below w0.heap.size w0 w' := by
  have k1 := fun (W : World) (hW : Below w.heap.size w W) => jsonparser_decodeUnicodeEscape.calls k (some ⟨b, 0, none⟩) c l r m W (Kd.C_below hr hW) (by omega) hd
  rw [hl] at k1
  have k2 := fun (W : World) (hW : Below w.heap.size w W) => enc_calls r h0 h1 h2 g n cap hn w0 W (below_step hb hW) hg (hB.below hg2 hW)
  have m1 : (m == -1) = false := beq_eq_false_iff_ne.2 (by omega)
  have n2 : decide ((n : Int) < 2) = false := decide_eq_false (by omega)
  have n0 : 0 < n := by omega
  have n1 : 1 < n := by omega
  have HA := Aside0.mk (fun o => below_alloc_ w o)
  have y0 := fun o => keep_ x0 (below_alloc_ w o)
  have y1 := fun o => keep_ x1 (below_alloc_ w o)
  clear hr hB hd hm h0 h1 h2 hl hc hn hb hg x0 x1
  dsimp only [cfgV]
  go_enter Tryd.func14, Tryd.ntmps14
  go_wp2_with (first | (go_at_call 16; (with_reducible refine (k1 _ (HA.out _)).mono ?_); rintro e w1 ⟨rfl, HD⟩; have H1 := Aside0.mk (below_step (HA.out _) HD.below); clear HD) | (go_at_call 17; (with_reducible refine (k2 _ H1.out).mono ?_); rintro e w2 ⟨rfl, HB, HW⟩; have H2 := Aside0.mk HB; have H3 := Aside0.mk HW; clear HB HW))
  go_ret2
  exact ⟨rfl, H2.out, H3.out⟩
theorem indexByte_zero (l : List Int) (h : 0 < l.length) (h92 : rd l 0 = 92) : Lib.indexByte (Lib.bytesOf l) (92 : Int).toNat.toUInt8 = 0 := by
  cases l with
  | nil => simp at h
  | cons a t =>
    have ha : a = 92 := h92
    subst ha
    rfl
set_option maxHeartbeats 4000000 in
set_option maxRecDepth 100000 in
theorem un_calls (k : Nat) (l : List Int) (r m : Int) (hd : jsonparser_decodeUnicodeEscape.f k l = some (r, m)) (hm : m = 6 ∨ m = 12) (h0 : 0 ≤ r) (h1 : r ≤ 1114111) (h2 : r < 55296 ∨ 57343 < r) (b g c n : Nat) (hl : l.length = n) (hmn : m = (n : Int)) (hc : n ≤ c)
    (w0 w : World) (hr : Kd.C (Kd.int .u8) w (some ⟨b, 0, none⟩) l.length l) (hcs : ∀ i, i < n → w.cell? ⟨b, 0 + i, none⟩ = some (.int .u8 (l.getD i 0))) (x0 : rd l 0 = 92) (x1 : rd l 1 = 117) (hb : Below w0.heap.size w0 w) (hg : w0.heap.size ≤ g) (hg2 : g < w.heap.size) (hB : Bts g [0, 0, 0, 0] w) :
    Calls Tryd.prog 12 #[cfgV, .slice (some ⟨b, 0, none⟩) n c, .slice (some ⟨g, 0, none⟩) 64 64] w fun e w' => e = .returned (.tuple #[.slice (some ⟨g, 0, none⟩) (encN r).length 64, .nilIface]) ∧ Bts g (encN r) w' ∧ Below w0.heap.size w0 w' := by
  have z0 : w.cell? ⟨b, 0, none⟩ = some (.int .u8 92) := (hcs 0 (by omega)).trans (by rw [← x0]; rfl)
  have z1 : w.cell? ⟨b, 1, none⟩ = some (.int .u8 117) := (hcs 1 (by omega)).trans (by rw [← x1]; rfl)
  have k0 := fun o => Tryd.bytes_IndexByte b 0 n c l 92 (w.alloc o) hl (fun i hi => keep_ (hcs i hi) (below_alloc_ w o))
  rw [indexByte_zero l (by omega) x0] at k0
  have k1 := fun o => one_calls k l r m hd hm h0 h1 h2 b g c 64 n hl hc (by omega) w0 (w.alloc o) (Kd.C_below hr (below_alloc_ w o)) (keep_ z0 (below_alloc_ w o)) (keep_ z1 (below_alloc_ w o)) (below_step hb (below_alloc_ w o)) hg (Nat.lt_of_lt_of_le hg2 (below_alloc_ w o).size) (hB.below hg2 (below_alloc_ w o))
  have k3 : ∀ o c2 W, Calls Tryd.prog 13 #[.slice (some ⟨b, o, none⟩) 0 c2, .int .u8 92] W fun e w' => e = .returned (.int .i64 (-1)) ∧ w' = W := fun o c2 W => Tryd.bytes_IndexByte b o 0 c2 [] 92 W rfl (fun i hi => absurd hi (Nat.not_lt_zero _))
  have q0 : n ≤ 64 := by omega
  have hn : 0 < n := by omega
  have q1 : decide ((64 : Int) < (n : Int)) = false := decide_eq_false (by omega)
  have q2 : (m == -1) = false := beq_eq_false_iff_ne.2 (by omega)
  have hE : (encN r).length ≤ 4 := by unfold encN; split <;> (try split) <;> (try split) <;> simp
  have q3 : (encN r).length ≤ n := by omega
  generalize hlen : (encN r).length = el at k1 hE q3 ⊢
  have hne : n - (n - el) = el := by omega
  subst hmn
  clear hd hm h0 h1 h2 hl hr hcs x0 x1 hb hg hg2 hB z0 z1
  dsimp only [cfgV] at k1 ⊢
  have HI := Aside0.mk (show (Tryd.prog.info? 5).map (·.size) = some 1 by kernel_rfl)
  go_enter Tryd.func12, Tryd.ntmps12
  go_wp2_with (first | (go_at_call 13; (with_reducible refine (k0 _).mono ?_); rintro e w1 ⟨rfl, rfl⟩) | ((with_reducible refine gate_builtin (b := .copy) (xs := #[.tmp 30, .tmp 33]) rfl ?_); refine wpList_copy_nothing rfl (.tmp 30) (.tmp 33) 28 28 rfl 5 Tryd.underlying28 HI.out _ _ _ _ _ _ rfl rfl ?hn ?_; (case hn => exact Nat.zero_min _)))
  go_loopw [1, 9] (fun vi vb wr => vi = .slice (some ⟨b, 0, none⟩) n c ∧ vb = .slice (some ⟨g, 0, none⟩) n 64 ∧ wr = w.alloc (.cells #[.bool false, .bool false, .int .i64 0] 40)) (fun _ _ _ => 0)
  case atStart => exact ⟨rfl, rfl, rfl⟩
  case round =>
    obtain ⟨rfl, rfl, rfl⟩ := hrel
    go_wp2_with (first | (go_at_call 14; (with_reducible refine (k1 _).mono ?_); rintro e w1 ⟨rfl, HB, HW⟩; have H2 := Aside0.mk HB; have H3 := Aside0.mk HW; clear HB HW k0 k1) | (go_at_call 13; (with_reducible refine (k3 _ _ _).mono ?_); rintro e w2 ⟨rfl, rfl⟩) | ((with_reducible refine gate_builtin (b := .copy) (xs := #[.tmp 61, .tmp 62]) rfl ?_); refine wpList_copy_nothing rfl (.tmp 61) (.tmp 62) 28 28 rfl 5 Tryd.underlying28 HI.out _ _ _ _ _ _ rfl rfl ?hn ?_; (case hn => exact Nat.zero_min _)))
    all_goals
      go_ret2
      refine ⟨?_, H2.out, H3.out⟩
      first | rfl | (rw [hne]; done) | (simp [hne]; done)
set_option maxHeartbeats 4000000 in
set_option maxRecDepth 100000 in
theorem unescape_calls (k : Nat) (l : List Int) (r m : Int) (hd : jsonparser_decodeUnicodeEscape.f k l = some (r, m)) (hm : m = 6 ∨ m = 12) (h0 : 0 ≤ r) (h1 : r ≤ 1114111) (h2 : r < 55296 ∨ 57343 < r) (b g c n : Nat) (hl : l.length = n) (hmn : m = (n : Int)) (hc : n ≤ c)
    (w0 w : World) (hG : Glob w) (hr : Kd.C (Kd.int .u8) w (some ⟨b, 0, none⟩) l.length l) (hcs : ∀ i, i < n → w.cell? ⟨b, 0 + i, none⟩ = some (.int .u8 (l.getD i 0))) (x0 : rd l 0 = 92) (x1 : rd l 1 = 117) (hb : Below w0.heap.size w0 w) (hg : w0.heap.size ≤ g) (hg2 : g < w.heap.size) (hB : Bts g [0, 0, 0, 0] w) :
    Calls Tryd.prog 9 #[.slice (some ⟨b, 0, none⟩) n c, .slice (some ⟨g, 0, none⟩) 64 64] w fun e w' => e = .returned (.tuple #[.slice (some ⟨g, 0, none⟩) (encN r).length 64, .nilIface]) ∧ Bts g (encN r) w' ∧ Below w0.heap.size w0 w' := by
  have k1 := un_calls k l r m hd hm h0 h1 h2 b g c n hl hmn hc w0 w hr hcs x0 x1 hb hg hg2 hB
  have g0 := hG.e1_0
  have g1 := hG.e1_1
  have g2 := hG.e1_2
  generalize hlen : (encN r).length = el at k1 ⊢
  clear hd hm h0 h1 h2 hl hmn hc hG hr hcs x0 x1 hb hg hg2 hB
  dsimp only [cfgV] at k1
  go_enter Tryd.func9, Tryd.ntmps9
  go_wp2_with (first | (go_at_call 12; (with_reducible refine k1.mono ?_); rintro e w1 ⟨rfl, HB, HW⟩; have H2 := Aside0.mk HB; have H3 := Aside0.mk HW; clear HB HW k1))
  go_ret2
  exact ⟨rfl, H2.out, H3.out⟩
theorem Bts.done {P : Program} {g : Nat} {l : List Int} {w : World} (h : Bts g l w) (src e : TypeId) (hs : P.underlying src = some (.slice e)) (he : P.underlying e = some (.int .u8)) (dst : TypeId) (hd : P.underlying dst = some .string) (n cap : Nat) (hn : l.length = n) :
    (convert src dst (.slice (some ⟨g, 0, none⟩) n cap)).run P w = .ok (.string (strOfNums l)) w := by
  refine run_convert_bytes_arg w src e hs he g 0 n cap _ hn (fun i hi => ?_) dst hd
  rw [Nat.zero_add, h.cell i (by omega)]
set_option maxHeartbeats 4000000 in
set_option maxRecDepth 100000 in
theorem parse_calls (k : Nat) (l : List Int) (r m : Int) (hd : jsonparser_decodeUnicodeEscape.f k l = some (r, m)) (hm : m = 6 ∨ m = 12) (h0 : 0 ≤ r) (h1 : r ≤ 1114111) (h2 : r < 55296 ∨ 57343 < r) (b c n : Nat) (hl : l.length = n) (hmn : m = (n : Int)) (hc : n ≤ c)
    (w : World) (hG : Glob w) (hr : Kd.C (Kd.int .u8) w (some ⟨b, 0, none⟩) l.length l) (hcs : ∀ i, i < n → w.cell? ⟨b, 0 + i, none⟩ = some (.int .u8 (l.getD i 0))) (x0 : rd l 0 = 92) (x1 : rd l 1 = 117) :
    Calls Tryd.prog 7 #[.slice (some ⟨b, 0, none⟩) n c] w fun e w' => e = .returned (.tuple #[.string (strOfNums (encN r)), .nilIface]) ∧ Below w.heap.size w w' := by
  have k1 := fun o => unescape_calls k l r m hd hm h0 h1 h2 b w.heap.size c n hl hmn hc w (w.alloc o) (hG.below (below_alloc_ w o)) (Kd.C_below hr (below_alloc_ w o)) (fun i hi => keep_ (hcs i hi) (below_alloc_ w o)) x0 x1 (below_alloc_ w o) (Nat.le_refl _) (blk_lt (heap_alloc_new w o))
  have hcv := fun (W : World) (h : Bts w.heap.size (encN r) W) => Bts.done (P := Tryd.prog) h 28 5 Tryd.underlying28 Tryd.underlying5 9 Tryd.underlying9 (encN r).length 64 rfl
  generalize hlen : (encN r).length = el at k1 hcv
  clear hd hm h0 h1 h2 hl hmn hc hG hr hcs x0 x1
  go_enter Tryd.func7, Tryd.ntmps7
  go_wp2_with (first | (go_at_call 9; (with_reducible refine (k1 _ ?hB).mono ?_); (case hB => exact Bts.fresh _ _ _ rfl rfl rfl rfl); rintro e w1 ⟨rfl, HB, HW⟩; have hcv1 := hcv w1 HB; have H3 := Aside0.mk HW; clear HB HW k1 hcv))
  go_ret2
  exact ⟨rfl, H3.out⟩
/-! ### the thin call -/
def impl_JpParseString.f (a0 : ByteArray) : Option (ByteArray × Bool) := match jsonparser_decodeUnicodeEscape.f 9 (bytesOf a0) with
  | some (r, m) => if m = (a0.size : Int) ∧ (m = 6 ∨ m = 12) ∧ rd (bytesOf a0) 0 = 92 ∧ rd (bytesOf a0) 1 = 117 ∧ 0 ≤ r ∧ r ≤ 1114111 ∧ (r < 55296 ∨ 57343 < r) then some (strOfNums (encN r), true) else none
  | none => none
set_option maxHeartbeats 4000000 in
set_option maxRecDepth 100000 in
theorem impl_JpParseString.calls (a0 : ByteArray) (r1 : ByteArray) (r2 : Bool) (w : World) (h : impl_JpParseString.f a0 = some (r1, r2)) (hG : Glob w) :
    Calls Tryd.prog 5 #[.string a0] w fun e w' => e = .returned (.tuple #[.string r1, .bool r2]) ∧ Below w.heap.size w w' := by
  unfold impl_JpParseString.f at h
  split at h
  · rename_i r m hd
    split at h
    · rename_i hh
      obtain ⟨hmn, hm, x0, x1, h0, h1, h2⟩ := hh
      simp only [Option.some.injEq, Prod.mk.injEq] at h
      obtain ⟨rfl, rfl⟩ := h
      have hz : a0.size ≤ 9223372036854775807 := by omega
      have kb := fun W => print_bytes (P := Tryd.prog) 9 28 5 Tryd.underlying9 Tryd.underlying28 Tryd.underlying5 a0 W
      have hcap : a0.size ≤ grownCap w a0.size 0 5 := grownCap_ge _ _ _ _
      have hl : (bytesOf a0).length = a0.size := bytesOf_length a0
      have hrd := bytes_reads w 5 a0 hz
      have hr : Kd.C (Kd.int .u8) (Lib.bytesWorld w 5 a0) (some ⟨w.heap.size, 0, none⟩) (bytesOf a0).length (bytesOf a0) := by
        rw [hl]
        exact Kd.C_of_reads (d := 0) (h1 := fun _ => rfl) hrd
      have hcs : ∀ i, i < a0.size → (Lib.bytesWorld w 5 a0).cell? ⟨w.heap.size, 0 + i, none⟩ = some (.int .u8 ((bytesOf a0).getD i 0)) := fun i hi => by
        rw [Nat.zero_add, Lib.bytesWorld_cell w 5 a0 i hi]
        have h' : i < a0.data.toList.length := by rw [Array.length_toList]; exact hi
        simp [bytesOf, List.getD_eq_getElem?_getD, List.getElem?_eq_getElem h']
      have hB := bytes_below (Below.refl w.heap.size w) (Nat.le_refl _) 5 a0
      have k1 := parse_calls 9 (bytesOf a0) r m hd hm h0 h1 h2 w.heap.size (grownCap w a0.size 0 5) a0.size hl hmn hcap (Lib.bytesWorld w 5 a0) (hG.below hB) hr hcs x0 x1
      have HB := Aside0.mk hB
      clear hz hcap hl hrd hr hcs hB hmn hm x0 x1 h0 h1 h2 hG hd
      go_enter Tryd.func5, Tryd.ntmps5
      go_wp2_with (first | (go_at_call 7; (with_reducible refine k1.mono ?_); rintro e w1 ⟨rfl, HW⟩; have H3 := Aside0.mk HW; clear HW k1))
      go_ret2
      exact ⟨rfl, below_step HB.out H3.out⟩
    · cases h
  · cases h
end Go.Proofs.YtifdgmiebibccaaDoor.PFnJpParseStringRune
