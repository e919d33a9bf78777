/- impl.JqUint and impl.JpGetInt of the text {"n":digits} and the key n, told by hand; no condition beside those that each theorem states. -/
import Derived.Test.YtmkceaepdanmiaaDoorHKFnJqUintInt
namespace Go.Proofs.YtmkceaepdanmiaaDoor.PFnJqUintInt
open Go.RowKit Go.Proofs.YtmkceaepdanmiaaDoorW.PrintWords Go.Proofs.YtmkceaepdanmiaaDoorW.PrintLast Go.Proofs.YtmkceaepdanmiaaDoorW.PrintMore
set_option linter.unusedVariables false
set_option linter.unusedSimpArgs false
/-- What is asked of the text and the key ahead of a Get. -/
structure Ask (ks kn km ke : Nat) (ds : List Int) (b n c kb ko : Nat) (kp : Option Nat) (w : World) : Prop where
  fit : Fit ks kn km ke ds
  hn : n = ds.length + 6
  hz : n ≤ 1000
  hc : n ≤ c
  glob : Glob w
  text : Holds b (body ds) w
  key : w.cell? ⟨kb, ko, kp⟩ = some (.string ⟨#[110]⟩)
theorem Ask.more {ks kn km ke : Nat} {ds : List Int} {b n c kb ko : Nat} {kp : Option Nat} {w w' : World} (h : Ask ks kn km ke ds b n c kb ko kp w) (hb : Below w.heap.size w w') : Ask ks kn km ke ds b n c kb ko kp w' :=
  ⟨h.fit, h.hn, h.hz, h.hc, h.glob.below hb, h.text.more hb, keep_ h.key hb⟩
section
variable {ks kn km ke : Nat} {ds : List Int} {b n c kb ko : Nat} {kp : Option Nat} {w : World}
set_option maxHeartbeats 8000000 in
set_option maxRecDepth 100000 in
theorem get5_calls (h : Ask ks kn km ke ds b n c kb ko kp w) (kc : Nat) :
    Calls Tryd.prog 9 #[.slice (some ⟨b, 0, none⟩) n c, .slice (some ⟨kb, ko, kp⟩) 1 kc] w fun e w' => e = .returned (.tuple #[.slice (some ⟨b, 5, none⟩) ds.length ds.length, .int .i64 2, .int .i64 5, .int .i64 (5 + (ds.length : Int)), .nilIface]) ∧ Below w.heap.size w w' := by
  have k1 := getc_calls ks kn km ke ds h.fit b n c kb ko kc kp w h.hn h.hz h.hc h.glob h.text h.key
  obtain ⟨m, hm⟩ : ∃ m, ds.length = m := ⟨_, rfl⟩
  rw [hm] at k1 ⊢
  have g0 := h.glob.e4_0
  have g1 := h.glob.e4_1
  have g2 := h.glob.e4_2
  clear h hm
  dsimp only [cfgV] at k1
  go_enter Tryd.func9, Tryd.ntmps9
  go_wp2_with (go_at_call 15; (with_reducible refine k1.mono ?_); rintro e w1 ⟨rfl, HB⟩; have HW1 := Aside0.mk HB; clear HB k1)
  refine bodyPost_ret (results_tmp5 rfl _ _ _) rfl ?_
  exact ⟨rfl, HW1.out⟩
set_option maxHeartbeats 8000000 in
set_option maxRecDepth 100000 in
theorem get4_calls (h : Ask ks kn km ke ds b n c kb ko kp w) (kc : Nat) :
    Calls Tryd.prog 13 #[.slice (some ⟨b, 0, none⟩) n c, .slice (some ⟨kb, ko, kp⟩) 1 kc] w fun e w' => e = .returned (.tuple #[.slice (some ⟨b, 5, none⟩) ds.length ds.length, .int .i64 2, .int .i64 (5 + (ds.length : Int)), .nilIface]) ∧ Below w.heap.size w w' := by
  have k1 := get5_calls h kc
  obtain ⟨m, hm⟩ : ∃ m, ds.length = m := ⟨_, rfl⟩
  rw [hm] at k1 ⊢
  clear h hm
  go_enter Tryd.func13, Tryd.ntmps13
  go_wp2_with (go_at_call 9; (with_reducible refine k1.mono ?_); rintro e w1 ⟨rfl, HB⟩; have HW1 := Aside0.mk HB; clear HB k1)
  refine bodyPost_ret (results_tmp4 rfl _ _ _) rfl ?_
  exact ⟨rfl, HW1.out⟩
/-- The digits as a row that is only read. -/
theorem Holds.V (h : Holds b (body ds) w) (hz : ds.length ≤ 1000) : Kd.V (Kd.int .u8) 5 w w.heap.size (fun k => k = b) (.slice (some ⟨b, 5, none⟩) ds.length ds.length) ds := by
  refine Kd.V_mk (Nat.le_refl _) (fun W' hW => ?_)
  refine (show Holds b (body ds) W' from ⟨fun i hi => ?_⟩).reads 5 ds ⟨[125], by simp [body]⟩ (by simp [body]; omega)
  have hc := h.cell i hi
  rw [← hc]
  exact World.cell?_of_block (hW b rfl (World.block_lt_of_cell? w _ hc))
theorem Holds.conv (h : Holds b (body ds) w) : (convert 30 9 (.slice (some ⟨b, 5, none⟩) ds.length ds.length)).run Tryd.prog w = .ok (.string (strOfNums ds)) w := by
  refine (run_convert_bytes_arg w 30 5 Tryd.underlying30 Tryd.underlying5 b 5 ds.length ds.length ds rfl (fun i hi => ?_) 9 Tryd.underlying9)
  rw [h.cell (5 + i) (by simp [body]; omega)]
  congr 2
  simp [body, List.getD_eq_getElem?_getD, show 5 + i = i + 1 + 1 + 1 + 1 + 1 by omega, List.getElem?_append_left hi]
set_option maxHeartbeats 8000000 in
set_option maxRecDepth 100000 in
theorem uint_calls (h : Ask ks kn km ke ds b n c kb ko kp w) (kc kp2 : Nat) (v : Int) (z : Bool) (hp : jsonparser_parseInt.f kp2 ds = some (v, true, z)) (h0 : 0 ≤ v) (h1 : v ≤ 9223372036854775807) :
    Calls Tryd.prog 7 #[.slice (some ⟨b, 0, none⟩) n c, .slice (some ⟨kb, ko, kp⟩) 1 kc] w fun e w' => e = .returned (.tuple #[.int .u64 v, .nilIface]) ∧ Below w.heap.size w w' := by
  have k1 := get5_calls h kc
  have hz := h.hz
  have hn := h.hn
  have k2 := fun W (hW : Below w.heap.size w W) => jsonparser_parseInt.calls kp2 (fun k => k = b) (some ⟨b, 5, none⟩) ds.length ds v true z W ((h.text.more hW).V (by omega)) hp
  obtain ⟨m, hm⟩ : ∃ m, ds.length = m := ⟨_, rfl⟩
  rw [hm] at k1 k2
  have d0 : decide (v < 0) = false := decide_eq_false (by omega)
  have u0 : IntKind.u64.wrap v = v := by rw [IntKind.wrap_u64]; omega
  clear h hm hz hn hp
  go_enter Tryd.func7, Tryd.ntmps7
  go_wp2_with (first | (go_at_call 9; (with_reducible refine k1.mono ?_); rintro e w1 ⟨rfl, HB⟩; have HW1 := Aside0.mk HB; clear HB k1) | (go_at_call 11; (with_reducible refine (k2 _ HW1.out).mono ?_); rintro e w2 ⟨rfl, HB⟩; have HW2 := Aside0.mk (below_step HW1.out HB); clear HB k2))
  go_ret2
  exact ⟨rfl, HW2.out⟩
set_option maxHeartbeats 8000000 in
set_option maxRecDepth 100000 in
theorem uint_over_calls (h : Ask ks kn km ke ds b n c kb ko kp w) (kc kp2 : Nat) (v : Int) (z : Bool) (hp : jsonparser_parseInt.f kp2 ds = some (v, false, z)) (u : Nat) (hu : Lib.parseUintB 64 (strOfNums ds).data.toList = .ok u) :
    Calls Tryd.prog 7 #[.slice (some ⟨b, 0, none⟩) n c, .slice (some ⟨kb, ko, kp⟩) 1 kc] w fun e w' => e = .returned (.tuple #[.int .u64 u, .nilIface]) ∧ Below w.heap.size w w' := by
  have k1 := get5_calls h kc
  have hz := h.hz
  have hn := h.hn
  have k2 := fun W (hW : Below w.heap.size w W) => jsonparser_parseInt.calls kp2 (fun k => k = b) (some ⟨b, 5, none⟩) ds.length ds v false z W ((h.text.more hW).V (by omega)) hp
  have hcv := fun W (hW : Below w.heap.size w W) => (h.text.more hW).conv
  have hsz : (strOfNums ds).size ≤ 9223372036854775806 := by rw [strOfNums_size]; omega
  have k3 := fun W => Tryd.strconv_ParseUint_10_at64_ok (strOfNums ds) hsz u hu W
  obtain ⟨m, hm⟩ : ∃ m, ds.length = m := ⟨_, rfl⟩
  rw [hm] at k1 k2 hcv
  generalize strOfNums ds = s at k3 hcv
  clear h hm hz hn hp hu hsz
  go_enter Tryd.func7, Tryd.ntmps7
  go_wp2_with (first | (go_at_call 9; (with_reducible refine k1.mono ?_); rintro e w1 ⟨rfl, HB⟩; have HW1 := Aside0.mk HB; clear HB k1) | (go_at_call 11; (with_reducible refine (k2 _ HW1.out).mono ?_); rintro e w2 ⟨rfl, HB⟩; have HW2 := Aside0.mk (below_step HW1.out HB); clear HB k2; have hcv2 := hcv _ HW2.out; clear hcv) | (go_at_call 12; (with_reducible refine (k3 _).mono ?_); rintro e w3 ⟨rfl, HB⟩; have HW3 := Aside0.mk (show Below w.heap.size w w3 from HB.elim (fun hh => hh ▸ HW2.out) (fun hh => by rw [hh]; exact bytes_below HW2.out HW2.out.size _ _)); clear HB k3))
  go_ret2
  exact ⟨rfl, HW3.out⟩
set_option maxHeartbeats 8000000 in
set_option maxRecDepth 100000 in
theorem pint_calls (kp2 : Nat) (v : Int) (z : Bool) (hp : jsonparser_parseInt.f kp2 ds = some (v, true, z)) (ht : Holds b (body ds) w) (hz : ds.length ≤ 1000) :
    Calls Tryd.prog 14 #[.slice (some ⟨b, 5, none⟩) ds.length ds.length] w fun e w' => e = .returned (.tuple #[.int .i64 v, .nilIface]) ∧ Below w.heap.size w w' := by
  have k2 := jsonparser_parseInt.calls kp2 (fun k => k = b) (some ⟨b, 5, none⟩) ds.length ds v true z w (ht.V hz) hp
  obtain ⟨m, hm⟩ : ∃ m, ds.length = m := ⟨_, rfl⟩
  rw [hm] at k2 ⊢
  clear ht hm hz hp
  go_enter Tryd.func14, Tryd.ntmps14
  go_wp2_with (go_at_call 11; (with_reducible refine k2.mono ?_); rintro e w2 ⟨rfl, HB⟩; have HW2 := Aside0.mk HB; clear HB k2)
  go_ret2
  exact ⟨rfl, HW2.out⟩
/-- An error that is not nil. -/
def SomeErr (v : Int) (w : World) (e : Ending) (w' : World) : Prop := ∃ te pe, e = .returned (.tuple #[.int .i64 v, .iface te pe]) ∧ Below w.heap.size w w'
set_option maxHeartbeats 8000000 in
set_option maxRecDepth 100000 in
theorem pint_over_calls (kp2 : Nat) (v : Int) (hp : jsonparser_parseInt.f kp2 ds = some (v, false, true)) (hG : Glob w) (ht : Holds b (body ds) w) (hz : ds.length ≤ 1000) :
    Calls Tryd.prog 14 #[.slice (some ⟨b, 5, none⟩) ds.length ds.length] w (SomeErr 0 w) := by
  have k2 := jsonparser_parseInt.calls kp2 (fun k => k = b) (some ⟨b, 5, none⟩) ds.length ds v false true w (ht.V hz) hp
  obtain ⟨te, pe, hE⟩ := hG.e3
  obtain ⟨m, hm⟩ : ∃ m, ds.length = m := ⟨_, rfl⟩
  rw [hm] at k2 ⊢
  clear ht hm hz hp hG
  have HE := Aside0.mk hE
  clear hE
  go_enter Tryd.func14, Tryd.ntmps14
  go_wp2_with (go_at_call 11; (with_reducible refine k2.mono ?_); rintro e w2 ⟨rfl, HB⟩; have HW2 := Aside0.mk HB; have hE := keep_ HE.out HB; clear HB k2)
  go_quiet (fail)
  go_wp2
  go_ret2
  exact ⟨te, pe, rfl, pw_below_drewN HW2.out _⟩
set_option maxHeartbeats 8000000 in
set_option maxRecDepth 100000 in
theorem int_calls (h : Ask ks kn km ke ds b n c kb ko kp w) (kc kp2 : Nat) (v : Int) (z : Bool) (hp : jsonparser_parseInt.f kp2 ds = some (v, true, z)) :
    Calls Tryd.prog 8 #[.slice (some ⟨b, 0, none⟩) n c, .slice (some ⟨kb, ko, kp⟩) 1 kc] w fun e w' => e = .returned (.tuple #[.int .i64 v, .nilIface]) ∧ Below w.heap.size w w' := by
  have k1 := get4_calls h kc
  have hz := h.hz
  have hn := h.hn
  have k2 := fun W (hW : Below w.heap.size w W) => pint_calls kp2 v z hp (h.text.more hW) (by omega)
  obtain ⟨m, hm⟩ : ∃ m, ds.length = m := ⟨_, rfl⟩
  rw [hm] at k1 k2
  clear h hm hz hn hp
  go_enter Tryd.func8, Tryd.ntmps8
  go_wp2_with (first | (go_at_call 13; (with_reducible refine k1.mono ?_); rintro e w1 ⟨rfl, HB⟩; have HW1 := Aside0.mk HB; clear HB k1) | (go_at_call 14; (with_reducible refine (k2 _ HW1.out).mono ?_); rintro e w2 ⟨rfl, HB⟩; have HW2 := Aside0.mk (below_step HW1.out HB); clear HB k2))
  go_ret2
  exact ⟨rfl, HW2.out⟩
set_option maxHeartbeats 8000000 in
set_option maxRecDepth 100000 in
theorem int_over_calls (h : Ask ks kn km ke ds b n c kb ko kp w) (kc kp2 : Nat) (v : Int) (hp : jsonparser_parseInt.f kp2 ds = some (v, false, true)) :
    Calls Tryd.prog 8 #[.slice (some ⟨b, 0, none⟩) n c, .slice (some ⟨kb, ko, kp⟩) 1 kc] w (SomeErr 0 w) := by
  have k1 := get4_calls h kc
  have hz := h.hz
  have hn := h.hn
  have k2 := fun W (hW : Below w.heap.size w W) => pint_over_calls kp2 v hp (h.glob.below hW) (h.text.more hW) (by omega)
  obtain ⟨m, hm⟩ : ∃ m, ds.length = m := ⟨_, rfl⟩
  rw [hm] at k1 k2
  clear h hm hz hn hp
  go_enter Tryd.func8, Tryd.ntmps8
  go_wp2_with (first | (go_at_call 13; (with_reducible refine k1.mono ?_); rintro e w1 ⟨rfl, HB⟩; have HW1 := Aside0.mk HB; clear HB k1) | (go_at_call 14; (with_reducible refine (k2 _ HW1.out).mono ?_); rintro e w2 ⟨te, pe, rfl, HB⟩; have HW2 := Aside0.mk (below_step HW1.out HB); clear HB k2))
  go_ret2
  exact ⟨te, pe, rfl, HW2.out⟩
end
/-! ### the thin calls -/
def digs (a0 : ByteArray) : List Int := ((bytesOf a0).drop 5).dropLast
open Classical in
/-- What a function with rounds tells at last. -/
noncomputable def lim {α : Type} (g : Nat → Option α) : Option α := if h : ∃ k, g k ≠ none then g h.choose else none
theorem lim_some {α : Type} {g : Nat → Option α} {r : α} (h : lim g = some r) : ∃ k, g k = some r := by
  unfold lim at h
  split at h
  · exact ⟨_, h⟩
  · cases h
theorem lim_of {α : Type} {g : Nat → Option α} {r : α} (hg : ∀ k, LeO (g k) (g (k + 1))) (h : Ev g r) : lim g = some r := by
  obtain ⟨K, hK⟩ := h
  unfold lim
  have he : ∃ k, g k ≠ none := ⟨K, by rw [hK K (Nat.le_refl _)]; exact Option.some_ne_none _⟩
  rw [dif_pos he]
  have h1 := he.choose_spec
  cases h2 : g he.choose with
  | none => exact absurd h2 h1
  | some r0 =>
    have h3 := at_rounds hg (Nat.le_max_left he.choose K) h2
    rw [hK _ (Nat.le_max_right _ _)] at h3
    exact h3.symm
def Form (a0 : ByteArray) (a1 : List ByteArray) : Prop := a1 = [⟨#[110]⟩] ∧ bytesOf a0 = body (digs a0) ∧ (digs a0).length ≤ 900 ∧ ∃ ks kn km ke, Fit ks kn km ke (digs a0)
open Classical in
noncomputable def impl_JqUint.f (a0 : ByteArray) (a1 : List ByteArray) : Option (Int × Bool) := if Form a0 a1 then (match lim (fun k => jsonparser_parseInt.f k (digs a0)) with
  | some (v, true, _) => if 0 ≤ v ∧ v ≤ 9223372036854775807 then some (v, true) else none
  | some (_, false, _) => (match Lib.parseUintB 64 (strOfNums (digs a0)).data.toList with
    | .ok u => some (u, true)
    | _ => none)
  | none => none) else none
open Classical in
noncomputable def impl_JpGetInt.f (a0 : ByteArray) (a1 : List ByteArray) : Option (Int × Bool) := if Form a0 a1 then (match lim (fun k => jsonparser_parseInt.f k (digs a0)) with
  | some (v, true, _) => some (v, true)
  | some (_, false, true) => some (0, false)
  | _ => none) else none
theorem ask_of (a0 : ByteArray) (hb : bytesOf a0 = body (digs a0)) (hl : (digs a0).length ≤ 900) {ks kn km ke : Nat} (hf : Fit ks kn km ke (digs a0)) (A1 : Option Addr) (w : World) (hr1 : Kd.C Kd.string w A1 [(⟨#[110]⟩ : ByteArray)].length [(⟨#[110]⟩ : ByteArray)]) (hG : Glob w) :
    ∃ kb ko kp, A1 = some ⟨kb, ko, kp⟩ ∧ Ask ks kn km ke (digs a0) w.heap.size a0.size (grownCap w a0.size 0 5) kb ko kp (Lib.bytesWorld w 5 a0) := by
  obtain ⟨⟨kb, ko, kp⟩, hA, hc⟩ := Kd.at_string hr1 0 (by omega) (by simp)
  have hB := bytes_below (Below.refl w.heap.size w) (Nat.le_refl _) 5 a0
  have hl2 : (bytesOf a0).length = a0.size := bytesOf_length a0
  have hn : a0.size = (digs a0).length + 6 := by rw [← hl2, hb]; simp [body]
  refine ⟨kb, ko, kp, hA, hf, hn, by omega, grownCap_ge _ _ _ _, hG.below hB, ⟨fun i hi => ?_⟩, keep_ hc hB⟩
  rw [← hb] at hi ⊢
  rw [hl2] at hi
  rw [Lib.bytesWorld_cell w 5 a0 i hi]
  have h' : i < a0.data.toList.length := by rw [Array.length_toList]; exact hi
  simp [bytesOf, List.getD_eq_getElem?_getD, List.getElem?_eq_getElem h']
set_option maxHeartbeats 8000000 in
set_option maxRecDepth 100000 in
theorem impl_JqUint.calls (a0 : ByteArray) (A1 : Option Addr) (c1 : Nat) (l1 : List ByteArray) (r1 : Int) (r2 : Bool) (w : World) (hr1 : Kd.C Kd.string w A1 l1.length l1) (hc1 : l1.length ≤ c1) (h : impl_JqUint.f a0 l1 = some (r1, r2)) (hG : Glob w) :
    Calls Tryd.prog 5 #[.string a0, .slice A1 l1.length c1] w fun e w' => e = .returned (.tuple #[.int .u64 r1, .bool r2]) ∧ Below w.heap.size w w' := by
  have kb := fun W => print_bytes (P := Tryd.prog) 9 30 5 Tryd.underlying9 Tryd.underlying30 Tryd.underlying5 a0 W
  unfold impl_JqUint.f at h
  split at h
  · rename_i hh
    obtain ⟨rfl, hb, hl, ks, kn, km, ke, hf⟩ := hh
    obtain ⟨kb1, ko, kp, rfl, hask⟩ := ask_of a0 hb hl hf A1 w hr1 hG
    have key : r2 = true ∧ Calls Tryd.prog 7 #[.slice (some ⟨w.heap.size, 0, none⟩) a0.size (grownCap w a0.size 0 5), .slice (some ⟨kb1, ko, kp⟩) 1 c1] (Lib.bytesWorld w 5 a0) fun e w' => e = .returned (.tuple #[.int .u64 r1, .nilIface]) ∧ Below (Lib.bytesWorld w 5 a0).heap.size (Lib.bytesWorld w 5 a0) w' := by
      split at h
      · rename_i v z hp
        obtain ⟨k0, hp⟩ := lim_some hp
        split at h
        · rename_i hv
          simp only [Option.some.injEq, Prod.mk.injEq] at h
          obtain ⟨rfl, rfl⟩ := h
          exact ⟨rfl, uint_calls hask c1 k0 v z hp hv.1 hv.2⟩
        · cases h
      · rename_i v z hp
        obtain ⟨k0, hp⟩ := lim_some hp
        split at h
        · rename_i u hu
          simp only [Option.some.injEq, Prod.mk.injEq] at h
          obtain ⟨rfl, rfl⟩ := h
          exact ⟨rfl, uint_over_calls hask c1 k0 v z hp u hu⟩
        · cases h
      · cases h
    obtain ⟨rfl, k1⟩ := key
    have HB := Aside0.mk (bytes_below (Below.refl w.heap.size w) (Nat.le_refl _) 5 a0)
    rw [show [(⟨#[110]⟩ : ByteArray)].length = 1 from rfl]
    clear hask h hb hl hf hr1 hG hc1
    go_enter Tryd.func5, Tryd.ntmps5
    go_wp2_with (first | (go_at_call 7; (with_reducible refine k1.mono ?_); rintro e w1 ⟨rfl, HW⟩; have H3 := Aside0.mk HW; clear HW k1))
    go_ret2
    exact ⟨rfl, below_step HB.out H3.out⟩
  · cases h
set_option maxHeartbeats 8000000 in
set_option maxRecDepth 100000 in
theorem impl_JpGetInt.calls (a0 : ByteArray) (A1 : Option Addr) (c1 : Nat) (l1 : List ByteArray) (r1 : Int) (r2 : Bool) (w : World) (hr1 : Kd.C Kd.string w A1 l1.length l1) (hc1 : l1.length ≤ c1) (h : impl_JpGetInt.f a0 l1 = some (r1, r2)) (hG : Glob w) :
    Calls Tryd.prog 6 #[.string a0, .slice A1 l1.length c1] w fun e w' => e = .returned (.tuple #[.int .i64 r1, .bool r2]) ∧ Below w.heap.size w w' := by
  have kb := fun W => print_bytes (P := Tryd.prog) 9 30 5 Tryd.underlying9 Tryd.underlying30 Tryd.underlying5 a0 W
  unfold impl_JpGetInt.f at h
  split at h
  · rename_i hh
    obtain ⟨rfl, hb, hl, ks, kn, km, ke, hf⟩ := hh
    obtain ⟨kb1, ko, kp, rfl, hask⟩ := ask_of a0 hb hl hf A1 w hr1 hG
    have HB := Aside0.mk (bytes_below (Below.refl w.heap.size w) (Nat.le_refl _) 5 a0)
    rw [show [(⟨#[110]⟩ : ByteArray)].length = 1 from rfl]
    split at h
    · rename_i v z hp
      obtain ⟨k0, hp⟩ := lim_some hp
      simp only [Option.some.injEq, Prod.mk.injEq] at h
      obtain ⟨rfl, rfl⟩ := h
      have k1 := int_calls hask c1 k0 v z hp
      clear hask hb hl hf hr1 hG hc1 hp
      go_enter Tryd.func6, Tryd.ntmps6
      go_wp2_with (first | (go_at_call 8; (with_reducible refine k1.mono ?_); rintro e w1 ⟨rfl, HW⟩; have H3 := Aside0.mk HW; clear HW k1))
      go_ret2
      exact ⟨rfl, below_step HB.out H3.out⟩
    · rename_i v hp
      obtain ⟨k0, hp⟩ := lim_some hp
      simp only [Option.some.injEq, Prod.mk.injEq] at h
      obtain ⟨rfl, rfl⟩ := h
      have k1 := int_over_calls hask c1 k0 v hp
      clear hask hb hl hf hr1 hG hc1 hp
      go_enter Tryd.func6, Tryd.ntmps6
      go_wp2_with (first | (go_at_call 8; (with_reducible refine k1.mono ?_); rintro e w1 ⟨te, pe, rfl, HW⟩; have H3 := Aside0.mk HW; clear HW k1))
      go_ret2
      exact ⟨rfl, below_step HB.out H3.out⟩
    · cases h
  · cases h
end Go.Proofs.YtmkceaepdanmiaaDoor.PFnJqUintInt
