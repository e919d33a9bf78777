/- impl.JqUint and impl.JpGetInt of the text {"n":digits} and the key n, behind the search; no condition beside those that each theorem states. -/
import Derived.Test.YtmkceaepdanmiaaDoorHJFnJqUintInt
import Derived.Test.YtmkceaepdanmiaaDoorSHFnJqUintInt
import Derived.Outline
namespace Go.Proofs.YtmkceaepdanmiaaDoor.PFnJqUintInt
open Go.RowKit Go.Proofs.YtmkceaepdanmiaaDoorW.PrintWords Go.Proofs.YtmkceaepdanmiaaDoorW.PrintLast Go.Proofs.YtmkceaepdanmiaaDoorW.PrintMore
set_option linter.unusedVariables false
set_option linter.unusedSimpArgs false
theorem results_tmp4 {fn : Func} {t u v x : Tmp} (h : fn.results = #[.tmp t, .tmp u, .tmp v, .tmp x]) (tmps : Array Value) (P : Program) (w : World) :
    (results fn tmps).run P w = .ok (.tuple #[tmps.getD t undef, tmps.getD u undef, tmps.getD v undef, tmps.getD x undef]) w := by
  simp [results, h]
theorem results_tmp5 {fn : Func} {t u v x y : Tmp} (h : fn.results = #[.tmp t, .tmp u, .tmp v, .tmp x, .tmp y]) (tmps : Array Value) (P : Program) (w : World) :
    (results fn tmps).run P w = .ok (.tuple #[tmps.getD t undef, tmps.getD u undef, tmps.getD v undef, tmps.getD x undef, tmps.getD y undef]) w := by
  simp [results, h]
set_option maxHeartbeats 8000000 in
set_option maxRecDepth 100000 in
theorem type_calls (ke : Nat) (ds : List Int) (d0 : Int) (dt : List Int) (hd : ds = d0 :: dt) (h48 : 48 ≤ d0) (h57 : d0 ≤ 57) (b n c : Nat) (w : World) (hn : n = ds.length + 6) (hz : n ≤ 1000) (hc : n ≤ c) (ht : Holds b (body ds) w)
    (hte : jsonparser_tokenEnd.f ke (ds ++ [125]) = some (ds.length : Int)) :
    Calls Tryd.prog 20 #[cfgV, .slice (some ⟨b, 0, none⟩) n c, .int .i64 5] w fun e w' => e = .returned (.tuple #[.slice (some ⟨b, 5, none⟩) ds.length (c - 5), .int .i64 2, .int .i64 (5 + (ds.length : Int)), .nilIface]) ∧ Below w.heap.size w w' := by
  have hl : (body ds).length = n := by rw [hn]; simp [body]
  have k1 : ∀ W, Below w.heap.size w W → Calls Tryd.prog 34 #[.slice (some ⟨b, 5, none⟩) (n - 5) (c - 5)] W fun e w' => e = .returned (.int .i64 (ds.length : Int)) ∧ Below W.heap.size W w' := by
    intro W hW
    have h := jsonparser_tokenEnd.calls ke (some ⟨b, 5, none⟩) (c - 5) (ds ++ [125]) (ds.length : Int) W ((ht.more hW).reads 5 _ ⟨[], by simp [body]⟩ (by omega)) (by simp; omega) hte
    have e5 : (ds ++ [(125 : Int)]).length = n - 5 := by simp; omega
    rw [e5] at h
    exact h.mono (fun e w' hh => ⟨hh.1, hh.2.below⟩)
  have x5 : w.cell? ⟨b, 5, none⟩ = some (.int .u8 d0) := (ht.cell 5 (by rw [hl]; omega)).trans (by rw [hd]; rfl)
  have X5 := fun o => keep_ x5 (below_alloc_ w o)
  have HA := Aside0.mk (fun o => below_alloc_ w o)
  obtain ⟨m, hm⟩ : ∃ m, ds.length = m := ⟨_, rfl⟩
  have hn6 : 6 < n := by rw [hn, hd]; simp
  rw [hm] at k1 hn ⊢
  have m5 : (5 : Int) ≤ (n : Int) := by omega
  have m5' : 5 ≤ n := by omega
  have m5'' : 5 < n := by omega
  have p5 : c ≠ 5 := by omega
  have q0 : (m : Int) ≤ 1000 := by omega
  have q1 : 5 + m ≤ c := by omega
  have q1' : 5 + m ≤ n := by omega
  have q2 : 5 ≤ 5 + m := by omega
  clear hte ht hd hl hn hm hn6
  have hdd : d0 = 48 ∨ d0 = 49 ∨ d0 = 50 ∨ d0 = 51 ∨ d0 = 52 ∨ d0 = 53 ∨ d0 = 54 ∨ d0 = 55 ∨ d0 = 56 ∨ d0 = 57 := by omega
  dsimp only [cfgV]
  clear h48 h57
  rcases hdd with rfl | rfl | rfl | rfl | rfl | rfl | rfl | rfl | rfl | rfl
  all_goals
    go_enter Tryd.func20, Tryd.ntmps20
    go_wp2_with (go_at_call 34; (with_reducible refine (k1 _ (HA.out _)).mono ?_); rintro e w1 ⟨rfl, HB⟩; have HW1 := Aside0.mk (below_step (HA.out _) HB); have x5b := keep_ (X5 _) HB; clear HB)
    refine bodyPost_ret (results_tmp4 rfl _ _ _) rfl ?_
    exact ⟨by simp, HW1.out⟩
/-- What the parts' own functions tell of the digits. -/
structure Fit (ks kn km ke : Nat) (ds : List Int) : Prop where
  se : jsonparser_stringEndConfig.f ks false false 0 (110 :: 34 :: 58 :: (ds ++ [125])) 34 = some (2, false)
  nt : jsonparser_nextTokenConfig.f kn false false 0 (58 :: (ds ++ [125])) = some 0
  nt2 : jsonparser_nextTokenConfig.f km false false 0 (ds ++ [125]) = some 0
  te : jsonparser_tokenEnd.f ke (ds ++ [125]) = some (ds.length : Int)
  d0 : ∃ d0 dt, ds = d0 :: dt ∧ 48 ≤ d0 ∧ d0 ≤ 57
/-- What is looked at behind the search: the text, the key and the configuration's own block. -/
structure Sg (b kb ko : Nat) (kp : Option Nat) (ds : List Int) (w0 W : World) : Prop where
  below : Below w0.heap.size w0 W
  glob : Glob W
  text : Holds b (body ds) W
  key : W.cell? ⟨kb, ko, kp⟩ = some (.string ⟨#[110]⟩)
  cfg0 : W.cell? ⟨w0.heap.size, 0, none⟩ = some (.bool false)
  cfg1 : W.cell? ⟨w0.heap.size, 1, none⟩ = some (.bool false)
  cfg2 : W.cell? ⟨w0.heap.size, 2, none⟩ = some (.int .i64 0)
theorem Sg.more {b kb ko : Nat} {kp : Option Nat} {ds : List Int} {w0 W W' : World} (h : Sg b kb ko kp ds w0 W) (hb : Below W.heap.size W W') : Sg b kb ko kp ds w0 W' :=
  ⟨below_step h.below hb, h.glob.below hb, h.text.more hb, keep_ h.key hb, keep_ h.cfg0 hb, keep_ h.cfg1 hb, keep_ h.cfg2 hb⟩
theorem Sg.drew {b kb ko : Nat} {kp : Option Nat} {ds : List Int} {w0 W : World} (h : Sg b kb ko kp ds w0 W) : Sg b kb ko kp ds w0 W.drew := h.more (Below.refl _ _).drew
theorem Sg.cells {b kb ko : Nat} {kp : Option Nat} {ds : List Int} {w0 W : World} (h : Sg b kb ko kp ds w0 W) : W.cell? ⟨w0.heap.size, 0, none⟩ = some (.bool false) ∧ W.cell? ⟨w0.heap.size, 1, none⟩ = some (.bool false) ∧ W.cell? ⟨w0.heap.size, 2, none⟩ = some (.int .i64 0) ∧ Aside0 (Sg b kb ko kp ds w0 W) := ⟨h.cfg0, h.cfg1, h.cfg2, ⟨h⟩⟩
theorem Sg.start {b kb ko : Nat} {kp : Option Nat} {ds : List Int} {w0 : World} (hG : Glob w0) (ht : Holds b (body ds) w0) (hk : w0.cell? ⟨kb, ko, kp⟩ = some (.string ⟨#[110]⟩)) (t1 : TypeId) :
    Sg b kb ko kp ds w0 (w0.alloc (.cells #[.bool false, .bool false, .int .i64 0] t1)) := by
  have h1 := below_alloc_ w0 (.cells #[.bool false, .bool false, .int .i64 0] t1)
  have k1 := heap_alloc_new w0 (.cells #[.bool false, .bool false, .int .i64 0] t1)
  exact ⟨h1, hG.below h1, ht.more h1, keep_ hk h1, (blk_cell k1 0).trans rfl, (blk_cell k1 1).trans rfl, (blk_cell k1 2).trans rfl⟩
set_option maxHeartbeats 8000000 in
set_option maxRecDepth 100000 in
theorem getc_calls (ks kn km ke : Nat) (ds : List Int) (hf : Fit ks kn km ke ds) (b n c kb ko kc : Nat) (kp : Option Nat) (w : World) (hn : n = ds.length + 6) (hz : n ≤ 1000) (hc : n ≤ c) (hG : Glob w) (ht : Holds b (body ds) w) (hk : w.cell? ⟨kb, ko, kp⟩ = some (.string ⟨#[110]⟩)) :
    Calls Tryd.prog 15 #[cfgV, .slice (some ⟨b, 0, none⟩) n c, .slice (some ⟨kb, ko, kp⟩) 1 kc] w fun e w' => e = .returned (.tuple #[.slice (some ⟨b, 5, none⟩) ds.length ds.length, .int .i64 2, .int .i64 5, .int .i64 (5 + (ds.length : Int)), .nilIface]) ∧ Below w.heap.size w w' := by
  obtain ⟨d0, dt, hd, h48, h57⟩ := hf.d0
  have k1 : ∀ W, Sg b kb ko kp ds w W → Calls Tryd.prog 18 #[cfgV, .slice (some ⟨b, 0, none⟩) n c, .slice (some ⟨kb, ko, kp⟩) 1 kc] W fun e w' => e = .returned (.int .i64 5) ∧ Below W.heap.size W w' :=
    fun W hW => search_calls ks kn ds b n c kb ko kc kp W hn hz hc hW.glob hW.text hW.key hf.se hf.nt
  have k2 : ∀ W, Sg b kb ko kp ds w W → Calls Tryd.prog 19 #[cfgV, .slice (some ⟨b, 5, none⟩) (n - 5) (c - 5)] W fun e w' => e = .returned (.int .i64 0) ∧ Below W.heap.size W w' := by
    intro W hW
    have h := jsonparser_nextTokenConfig.calls km false false 0 (some ⟨b, 5, none⟩) (c - 5) (ds ++ [125]) 0 W (hW.text.reads 5 _ ⟨[], by simp [body]⟩ (by simp [body]; omega)) (by simp; omega) hf.nt2
    have e5 : (ds ++ [(125 : Int)]).length = n - 5 := by simp; omega
    rwa [e5] at h
  have k3 : ∀ W, Sg b kb ko kp ds w W → Calls Tryd.prog 20 #[cfgV, .slice (some ⟨b, 0, none⟩) n c, .int .i64 5] W fun e w' => e = .returned (.tuple #[.slice (some ⟨b, 5, none⟩) ds.length (c - 5), .int .i64 2, .int .i64 (5 + (ds.length : Int)), .nilIface]) ∧ Below W.heap.size W w' :=
    fun W hW => type_calls ke ds d0 dt hd h48 h57 b n c W hn hz hc hW.text hf.te
  have HS := Aside0.mk (fun t1 => Sg.start hG ht hk t1)
  obtain ⟨m, hm⟩ : ∃ m, ds.length = m := ⟨_, rfl⟩
  rw [hm] at hn k3 ⊢
  have HK1 := Aside0.mk k1
  have HK2 := Aside0.mk k2
  have HK3 := Aside0.mk k3
  have m5 : (5 : Int) ≤ (n : Int) := by omega
  have m5' : 5 ≤ n := by omega
  have p5 : c ≠ 5 := by omega
  have pm : m ≤ c - 5 := by omega
  have q0 : (m : Int) ≤ 1000 := by omega
  clear hG ht hk k1 k2 k3 hn hz hc hm hd h48 h57 hf
  dsimp only [cfgV]
  go_enter Tryd.func15, Tryd.ntmps15
  have s0 := HS.out 53
  have HW := Aside0.mk s0
  have g1 := s0.cfg0
  have g2 := s0.cfg1
  have g3 := s0.cfg2
  clear s0
  go_wp2_with (go_at_call 18; (with_reducible refine (HK1.out _ HW.out).mono ?_); rintro e w1 ⟨rfl, HB⟩; have HW1 := Aside0.mk (HW.out.more HB); clear HB)
  clear g1 g2 g3
  have g1 := HW1.out.cfg0
  have g2 := HW1.out.cfg1
  have g3 := HW1.out.cfg2
  go_region_held3 (fun w' => w'.cell? ⟨w.heap.size, 0, none⟩ = some (.bool false) ∧ w'.cell? ⟨w.heap.size, 1, none⟩ = some (.bool false) ∧ w'.cell? ⟨w.heap.size, 2, none⟩ = some (.int .i64 0) ∧ Aside0 (Sg b kb ko kp ds w w'))
    (first | exact HW1.out.cells | exact HW1.out.drew.cells | exact HW2.out.cells | exact HW2.out.drew.cells)
    (first | (go_at_call 19; (with_reducible refine (HK2.out _ HW1.out.drew).mono ?_); rintro e w2 ⟨rfl, HB⟩; have HW2 := Aside0.mk (HW1.out.drew.more HB); clear HB))
  clear g1 g2 g3
  have g1 := HW2.out.cfg0
  have g2 := HW2.out.cfg1
  have g3 := HW2.out.cfg2
  go_wp2_with (go_at_call 20; (with_reducible refine (HK3.out _ HW2.out).mono ?_); rintro e w3 ⟨rfl, HB⟩; have HW3 := Aside0.mk (HW2.out.more HB); clear HB)
  refine bodyPost_ret (results_tmp5 rfl _ _ _) rfl ?_
  exact ⟨by simp, HW3.out.below⟩
end Go.Proofs.YtmkceaepdanmiaaDoor.PFnJqUintInt
