/- impl.JqUint and impl.JpGetInt of the text {"n":digits} and the key n, told by hand; no condition beside those that each theorem states. -/
import Derived.Test.YtmkceaepdanmiaaDoorGXFnJqUintInt
import Derived.Test.YtmkceaepdanmiaaDoorPFnJqUintIntx2
import Derived.Test.YtmkceaepdanmiaaDoorPFnJqUintIntx3
import Derived.Test.YtmkceaepdanmiaaDoorPFnJqUintIntx4
import Derived.Lib.ConvBytes
import Derived.Laws.BytesArg
import Derived.Deep.RegionHeld3
namespace Go.Proofs.YtmkceaepdanmiaaDoor.PFnJqUintInt
open Go.RowKit Go.Proofs.YtmkceaepdanmiaaDoorW.PrintWords Go.Proofs.YtmkceaepdanmiaaDoorW.PrintLast Go.Proofs.YtmkceaepdanmiaaDoorW.PrintMore
set_option linter.unusedVariables false
set_option linter.unusedSimpArgs false
theorem below_alloc_ (w : World) (o : Obj) : Below w.heap.size w (w.alloc o) := by
  repeat (first | exact Below.refl _ _ | apply below_alloc)
theorem keep_ {W W' : World} {a : Addr} {v : Value} (h : W.cell? a = some v) (hb : Below W.heap.size W W') : W'.cell? a = some v := (hb.cell (World.block_lt_of_cell? W _ h)).trans h
/-- The text's bytes: the head, the digits, the end. -/
def body (ds : List Int) : List Int := 123 :: 34 :: 110 :: 34 :: 58 :: (ds ++ [125])
/-- A row that holds them from its begin on. -/
structure Holds (b : Nat) (l : List Int) (w : World) : Prop where
  cell : ∀ i, i < l.length → w.cell? ⟨b, i, none⟩ = some (.int .u8 (l.getD i 0))
theorem Holds.more {b : Nat} {l : List Int} {w w' : World} (h : Holds b l w) (hb : Below w.heap.size w w') : Holds b l w' := ⟨fun i hi => keep_ (h.cell i hi) hb⟩
theorem Holds.reads {b : Nat} {l : List Int} {w : World} (h : Holds b l w) (o : Nat) (t : List Int) (he : ∃ z, l.drop o = t ++ z) (hz : l.length ≤ 9223372036854775807) : Kd.C (Kd.int .u8) w (some ⟨b, o, none⟩) t.length t := by
  obtain ⟨z, he⟩ := he
  refine Kd.C_of_reads (d := 0) (h1 := fun _ => rfl) ?_
  have hlen : t.length ≤ (l.drop o).length := by rw [he, List.length_append]; omega
  rw [List.length_drop] at hlen
  refine ⟨rfl, by omega, fun hn => ⟨_, rfl, fun j hj => ?_⟩⟩
  have h1 : o + j < l.length := by omega
  have h2 := h.cell (o + j) h1
  have h3 : l.getD (o + j) 0 = t.getD j 0 := by
    have e1 : (l.drop o)[j]? = l[o + j]? := by rw [List.getElem?_drop]
    rw [List.getD_eq_getElem?_getD, List.getD_eq_getElem?_getD, ← e1, he, List.getElem?_append_left hj]
  rw [← h3]
  have e : (⟨b, o, none⟩ : Addr).add j = ⟨b, o + j, none⟩ := by simp [Addr.add]
  rw [e]
  exact h2
set_option maxHeartbeats 4000000 in
set_option maxRecDepth 100000 in
theorem equal_calls (p b c : Nat) (w : World) (h1 : w.cell? ⟨p, 0, none⟩ = some (.slice (some ⟨b, 2, none⟩) 1 c)) (h2 : w.cell? ⟨b, 2, none⟩ = some (.int .u8 110)) :
    Calls Tryd.prog 29 #[.pointer (some ⟨p, 0, none⟩), .string ⟨#[110]⟩] w fun e w' => e = .returned (.bool true) ∧ Below w.heap.size w w' := by
  have hcv : (convert 30 9 (.slice (some ⟨b, 2, none⟩) 1 c)).run Tryd.prog w = .ok (.string ⟨#[110]⟩) w := by
    refine (run_convert_bytes_arg w 30 5 Tryd.underlying30 Tryd.underlying5 b 2 1 c [110] rfl (fun i hi => ?_) 9 Tryd.underlying9).trans rfl
    obtain rfl : i = 0 := by omega
    exact h2
  go_enter Tryd.func29, Tryd.ntmps29
  go_wp2
  go_ret
  exact ⟨rfl, Below.refl _ _⟩
abbrev cfgV : Value := .agg #[.bool false, .bool false, .int .i64 0]
/-- What the search looks at: the text, the key, and its own two blocks. -/
structure Sk (b n c kb ko : Nat) (kp : Option Nat) (ds : List Int) (w0 W : World) : Prop where
  below : Below w0.heap.size w0 W
  glob : Glob W
  text : Holds b (body ds) W
  key : W.cell? ⟨kb, ko, kp⟩ = some (.string ⟨#[110]⟩)
  cfg0 : W.cell? ⟨w0.heap.size, 0, none⟩ = some (.bool false)
  cfg1 : W.cell? ⟨w0.heap.size, 1, none⟩ = some (.bool false)
  cfg2 : W.cell? ⟨w0.heap.size, 2, none⟩ = some (.int .i64 0)
  data : W.cell? ⟨w0.heap.size + 1, 0, none⟩ = some (.slice (some ⟨b, 0, none⟩) n c)
theorem Sk.more {b n c kb ko : Nat} {kp : Option Nat} {ds : List Int} {w0 W W' : World} (h : Sk b n c kb ko kp ds w0 W) (hb : Below W.heap.size W W') : Sk b n c kb ko kp ds w0 W' :=
  ⟨below_step h.below hb, h.glob.below hb, h.text.more hb, keep_ h.key hb, keep_ h.cfg0 hb, keep_ h.cfg1 hb, keep_ h.cfg2 hb, keep_ h.data hb⟩
theorem Sk.drew {b n c kb ko : Nat} {kp : Option Nat} {ds : List Int} {w0 W : World} (h : Sk b n c kb ko kp ds w0 W) : Sk b n c kb ko kp ds w0 W.drew := h.more (Below.refl _ _).drew
theorem Sk.cells {b n c kb ko : Nat} {kp : Option Nat} {ds : List Int} {w0 W : World} (h : Sk b n c kb ko kp ds w0 W) : W.cell? ⟨w0.heap.size, 0, none⟩ = some (.bool false) ∧ W.cell? ⟨w0.heap.size, 1, none⟩ = some (.bool false) ∧ W.cell? ⟨w0.heap.size, 2, none⟩ = some (.int .i64 0) ∧ W.cell? ⟨w0.heap.size + 1, 0, none⟩ = some (.slice (some ⟨b, 0, none⟩) n c) ∧ Aside0 (Sk b n c kb ko kp ds w0 W) := ⟨h.cfg0, h.cfg1, h.cfg2, h.data, ⟨h⟩⟩
theorem Sk.start {b n c kb ko : Nat} {kp : Option Nat} {ds : List Int} {w0 : World} (hG : Glob w0) (ht : Holds b (body ds) w0) (hk : w0.cell? ⟨kb, ko, kp⟩ = some (.string ⟨#[110]⟩)) (t1 t2 : TypeId) (o3 : Obj) :
    Sk b n c kb ko kp ds w0 (((w0.alloc (.cells #[.bool false, .bool false, .int .i64 0] t1)).alloc (.cells #[.slice (some ⟨b, 0, none⟩) n c] t2)).alloc o3) := by
  have h1 := below_alloc_ w0 (.cells #[.bool false, .bool false, .int .i64 0] t1)
  have h2 := below_alloc_ (w0.alloc (.cells #[.bool false, .bool false, .int .i64 0] t1)) (.cells #[.slice (some ⟨b, 0, none⟩) n c] t2)
  have h3 := below_alloc_ ((w0.alloc (.cells #[.bool false, .bool false, .int .i64 0] t1)).alloc (.cells #[.slice (some ⟨b, 0, none⟩) n c] t2)) o3
  have k1 := heap_alloc_new w0 (.cells #[.bool false, .bool false, .int .i64 0] t1)
  have k2 := heap_alloc_new (w0.alloc (.cells #[.bool false, .bool false, .int .i64 0] t1)) (.cells #[.slice (some ⟨b, 0, none⟩) n c] t2)
  rw [Go.Deep.nblk_alloc] at k2
  have hb := below_step (below_step h1 h2) h3
  refine ⟨hb, hG.below hb, ht.more hb, keep_ hk hb, ?_, ?_, ?_, ?_⟩
  · exact keep_ (keep_ ((blk_cell k1 0).trans rfl) h2) h3
  · exact keep_ (keep_ ((blk_cell k1 1).trans rfl) h2) h3
  · exact keep_ (keep_ ((blk_cell k1 2).trans rfl) h2) h3
  · exact keep_ ((blk_cell k2 0).trans rfl) h3
theorem new_cell (w : World) (v : Value) (t : TypeId) : (w.alloc (.cells #[v] t)).cell? ⟨w.heap.size, 0, none⟩ = some v := by
  have h := heap_alloc_new w (.cells #[v] t)
  unfold World.cell?
  dsimp only
  rw [h]
  rfl
set_option maxHeartbeats 8000000 in
set_option maxRecDepth 100000 in
theorem search_calls (ks kn : Nat) (ds : List Int) (b n c kb ko kc : Nat) (kp : Option Nat) (w : World) (hn : n = ds.length + 6) (hz : n ≤ 1000) (hc : n ≤ c) (hG : Glob w) (ht : Holds b (body ds) w) (hk : w.cell? ⟨kb, ko, kp⟩ = some (.string ⟨#[110]⟩))
    (hse : jsonparser_stringEndConfig.f ks false false 0 (110 :: 34 :: 58 :: (ds ++ [125])) 34 = some (2, false)) (hnt : jsonparser_nextTokenConfig.f kn false false 0 (58 :: (ds ++ [125])) = some 0) :
    Calls Tryd.prog 18 #[cfgV, .slice (some ⟨b, 0, none⟩) n c, .slice (some ⟨kb, ko, kp⟩) 1 kc] w fun e w' => e = .returned (.int .i64 5) ∧ Below w.heap.size w w' := by
  have hl : (body ds).length = n := by rw [hn]; simp [body]
  have k1 : ∀ W, Sk b n c kb ko kp ds w W → Calls Tryd.prog 27 #[cfgV, .slice (some ⟨b, 2, none⟩) (n - 2) (c - 2), .int .u8 34] W fun e w' => e = .returned (.tuple #[.int .i64 2, .bool false]) ∧ Below W.heap.size W w' := by
    intro W hW
    have h := jsonparser_stringEndConfig.calls ks false false 0 (some ⟨b, 2, none⟩) (c - 2) (110 :: 34 :: 58 :: (ds ++ [125])) 34 2 false W (hW.text.reads 2 _ ⟨[], by simp [body]⟩ (by omega)) (by simp; omega) hse hW.glob
    rwa [show (110 :: 34 :: 58 :: (ds ++ [125])).length = n - 2 from by simp; omega] at h
  have k2 : ∀ W, Sk b n c kb ko kp ds w W → Calls Tryd.prog 19 #[cfgV, .slice (some ⟨b, 4, none⟩) (n - 4) (c - 4)] W fun e w' => e = .returned (.int .i64 0) ∧ Below W.heap.size W w' := by
    intro W hW
    have h := jsonparser_nextTokenConfig.calls kn false false 0 (some ⟨b, 4, none⟩) (c - 4) (58 :: (ds ++ [125])) 0 W (hW.text.reads 4 _ ⟨[], by simp [body]⟩ (by omega)) (by simp; omega) hnt
    rwa [show (58 :: (ds ++ [125])).length = n - 4 from by simp; omega] at h
  have HS := Aside0.mk (fun t1 t2 o3 => Sk.start (n := n) (c := c) hG ht hk t1 t2 o3)
  have HK1 := Aside0.mk k1
  have HK2 := Aside0.mk k2
  have HL := Aside0.mk hl
  have n6 : 6 ≤ n := by omega
  have HN := Aside0.mk hn
  clear hG ht hk hse hnt k1 k2 hl hn
  dsimp only [cfgV]
  go_enter Tryd.func18, Tryd.ntmps18
  go_wp2
  go_loopw [7, 8, 9, 12] (fun vk vl vi vm wr => ∃ i : Nat, i < 2 ∧ vk = .int .i64 0 ∧ vl = .int .i64 i ∧ vi = .int .i64 i ∧ vm = .bool true ∧ Aside0 (Sk b n c kb ko kp ds w wr)) (fun _ _ vi _ _ => 2 - (intOf vi).toNat)
  case atStart => exact ⟨0, by omega, rfl, rfl, rfl, rfl, ⟨HS.out _ _ _⟩⟩
  case round =>
    obtain ⟨i, hi, rfl, rfl, rfl, rfl, HW⟩ := hrel
    have g0 := HW.out.data
    have g1 := HW.out.cfg0
    have g2 := HW.out.cfg1
    have g3 := HW.out.cfg2
    have gk := HW.out.key
    have x0 : wr.cell? ⟨b, 0, none⟩ = some (.int .u8 123) := HW.out.text.cell 0 (by rw [HL.out]; omega)
    have x1 : wr.cell? ⟨b, 1, none⟩ = some (.int .u8 34) := HW.out.text.cell 1 (by rw [HL.out]; omega)
    have x2 : wr.cell? ⟨b, 2, none⟩ = some (.int .u8 110) := HW.out.text.cell 2 (by rw [HL.out]; omega)
    have x4 : wr.cell? ⟨b, 4, none⟩ = some (.int .u8 58) := HW.out.text.cell 4 (by rw [HL.out]; omega)
    have d0 : decide ((0 : Int) < (n : Int)) = true := decide_eq_true (by omega)
    have d1 : decide ((1 : Int) < (n : Int)) = true := decide_eq_true (by omega)
    have e0 : decide ((n : Int) ≤ 0) = false := decide_eq_false (by omega)
    have e1 : decide ((n : Int) ≤ 1) = false := decide_eq_false (by omega)
    have f0 : decide ((0 : Int) ≥ (n : Int)) = false := decide_eq_false (by omega)
    have f1 : decide ((1 : Int) ≥ (n : Int)) = false := decide_eq_false (by omega)
    have l0 : 0 < n := by omega
    have l1 : 1 < n := by omega
    have l2 : 2 ≤ n := by omega
    have l4 : 4 < n := by omega
    have l4' : 4 ≤ n := by omega
    have m2 : (2 : Int) ≤ (n : Int) := by omega
    have m4 : (4 : Int) ≤ (n : Int) := by omega
    have p2 : c ≠ 2 := by omega
    have p4 : c ≠ 4 := by omega
    have hi' : i = 0 ∨ i = 1 := by omega
    clear hi
    rcases hi' with rfl | rfl
    · go_wp2
      go_loopw [9] (fun vi wr2 => vi = .int .i64 ((0 : Nat) : Int) ∧ wr2 = wr) (fun _ _ => 0)
      case atStart => exact ⟨rfl, rfl⟩
      case round =>
        obtain ⟨rfl, rfl⟩ := hrel
        go_wp2
        go_roundw
        case rel => exact ⟨1, by omega, rfl, rfl, rfl, rfl, HW⟩
        case measure => simp [intOf]
    · go_wp2
      go_loopw [9] (fun vi wr2 => vi = .int .i64 ((1 : Nat) : Int) ∧ wr2 = wr) (fun _ _ => 0)
      case atStart => exact ⟨rfl, rfl⟩
      case round =>
        obtain ⟨rfl, rfl⟩ := hrel
        go_wp2
        go_region_held3 (fun w' => w'.cell? ⟨w.heap.size, 0, none⟩ = some (.bool false) ∧ w'.cell? ⟨w.heap.size, 1, none⟩ = some (.bool false) ∧ w'.cell? ⟨w.heap.size, 2, none⟩ = some (.int .i64 0) ∧ w'.cell? ⟨w.heap.size + 1, 0, none⟩ = some (.slice (some ⟨b, 0, none⟩) n c) ∧ Aside0 (Sk b n c kb ko kp ds w w'))
          (first | exact HW.out.cells | exact HW.out.drew.cells | exact HW1.out.cells | exact HW1.out.drew.cells)
          (first | (go_at_call 27; (with_reducible refine (HK1.out _ HW.out.drew).mono ?_); rintro e w1 ⟨rfl, HB⟩; have HW1 := Aside0.mk (HW.out.drew.more HB); clear HB))
        clear HW g0 g1 g2 g3 gk x0 x1 x2 x4
        have g0 := HW1.out.data
        have g1 := HW1.out.cfg0
        have g2 := HW1.out.cfg1
        have g3 := HW1.out.cfg2
        go_wp2
        go_region_held3 (fun w' => w'.cell? ⟨w.heap.size, 0, none⟩ = some (.bool false) ∧ w'.cell? ⟨w.heap.size, 1, none⟩ = some (.bool false) ∧ w'.cell? ⟨w.heap.size, 2, none⟩ = some (.int .i64 0) ∧ w'.cell? ⟨w.heap.size + 1, 0, none⟩ = some (.slice (some ⟨b, 0, none⟩) n c) ∧ Aside0 (Sk b n c kb ko kp ds w w'))
          (first | exact HW1.out.cells | exact HW1.out.drew.cells | exact HW2.out.cells | exact HW2.out.drew.cells)
          (first | (go_at_call 19; (with_reducible refine (HK2.out _ HW1.out.drew).mono ?_); rintro e w2 ⟨rfl, HB⟩; have HW2 := Aside0.mk (HW1.out.drew.more HB); clear HB))
        clear HW1 g0 g1 g2 g3
        have g0 := HW2.out.data
        have x4 : w2.cell? ⟨b, 4, none⟩ = some (.int .u8 58) := HW2.out.text.cell 4 (by rw [HL.out]; omega)
        have x2 : w2.cell? ⟨b, 2, none⟩ = some (.int .u8 110) := HW2.out.text.cell 2 (by rw [HL.out]; omega)
        have gk := fun o => keep_ HW2.out.key (below_alloc_ w2 o)
        have X2 := Aside0.mk (fun o => keep_ x2 (below_alloc_ w2 o))
        clear x2
        go_wp2_with (go_at_call 29; (with_reducible refine (equal_calls _ b _ _ (new_cell _ _ _) (X2.out _)).mono ?_); rintro e w3 ⟨rfl, HB⟩; have HW3 := Aside0.mk (below_step (below_step HW2.out.below (below_alloc_ _ _)) HB); clear HB)
        go_ret
        exact ⟨rfl, HW3.out⟩
end Go.Proofs.YtmkceaepdanmiaaDoor.PFnJqUintInt
