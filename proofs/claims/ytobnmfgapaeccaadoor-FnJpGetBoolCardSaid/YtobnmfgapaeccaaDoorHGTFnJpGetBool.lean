/- internalGetConfig with keys, Get; no condition beside those that each theorem states. -/
import Derived.Test.YtobnmfgapaeccaaDoorHSKFnJpGetBool
import Derived.Test.YtobnmfgapaeccaaDoorHEFnJpGetBool
import Derived.Test.YtobnmfgapaeccaaDoorPFnJpGetBoolx17
namespace Go.Proofs.YtobnmfgapaeccaaDoor.PFnJpGetBool
open Go.RowKit Go.Proofs.YtobnmfgapaeccaaDoorW.PrintWords Go.Proofs.YtobnmfgapaeccaaDoorW.PrintLast Go.Proofs.YtobnmfgapaeccaaDoorW.PrintMore
set_option linter.unusedVariables false
set_option linter.unusedSimpArgs false
/-- searchKeysConfig, with keys or without. -/
theorem search_all : ∀ (N : Nat) (keys : List ByteArray), keys.length < N → ∀ (s : ByteArray) (e a : Nat) (r : Option Nat), SR s e keys 0 0 a true r → (keys = [] → r = some a) → ∀ (b c kb ko kc : Nat) (kA : Option Addr) (w : World), e ≤ s.size → s.size ≤ 2147483647 → a ≤ e → e - a ≤ c → (∀ k ∈ keys, k.size ≤ 2147483647) → keys.length ≤ kc → True → (keys ≠ [] → kA = some ⟨kb, ko, none⟩) → Glob w → Tx b s w → Ky kb ko keys w →
      Calls Tryd.prog 40 #[cfgV, .slice (some ⟨b, a, none⟩) (e - a) c, .slice kA keys.length kc] w fun e' w' => e' = .returned (.int .i64 (ret a r)) ∧ Below w.heap.size w w' := by
  intro N
  induction N with
  | zero => intro keys h; exact absurd h (Nat.not_lt_zero _)
  | succ N ih =>
    intro keys hl s e a r hsr hnil b c kb ko kc kA w he hz hae hc hks hkc hkz hkA hG hT hK
    by_cases h0 : keys = []
    · subst h0
      obtain rfl := hnil rfl
      exact search_nil b a (e - a) c kc kA w
    · obtain rfl := hkA h0
      have hpos : 0 < keys.length := List.length_pos_iff.2 h0
      exact search_step keys.length (fun keys2 h2 => ih keys2 (Nat.lt_of_lt_of_le h2 (Nat.le_of_lt_succ hl))) keys rfl hpos s e a r hsr b c kb ko kc w he hz hae hc hks hkc hkz hG hT hK
/-- Where keys lead, and the value there. -/
structure GK (s : ByteArray) (keys : List ByteArray) (q x y : Nat) (kd : Int) : Prop where
  sr : SR s s.size keys 0 0 0 true (some q)
  nil : keys = [] → q = 0
  gv : GV s s.size q x y kd
/-- What is looked at: the text, and the configuration's own block. -/
structure Tk (b : Nat) (s : ByteArray) (kb ko : Nat) (keys : List ByteArray) (w0 W : World) : Prop where
  tq : Tq b s w0 W
  key : Ky kb ko keys W
theorem Tk.more {b : Nat} {s : ByteArray} {kb ko : Nat} {keys : List ByteArray} {w0 W W' : World} (h : Tk b s kb ko keys w0 W) (hb : Below W.heap.size W W') : Tk b s kb ko keys w0 W' := ⟨h.tq.more hb, h.key.more hb⟩
theorem Tk.drew {b : Nat} {s : ByteArray} {kb ko : Nat} {keys : List ByteArray} {w0 W : World} (h : Tk b s kb ko keys w0 W) : Tk b s kb ko keys w0 W.drew := h.more (Below.refl _ _).drew
set_option maxHeartbeats 4000000 in
set_option maxRecDepth 100000 in
theorem getk_other {s : ByteArray} {keys : List ByteArray} {q x y : Nat} {kd : Int} (h : GK s keys q x y kd) (hk0 : keys ≠ []) (hk : kd ≠ 1) (b c kb ko kc : Nat) (w : World) (hz : s.size ≤ 2147483647) (hc : s.size ≤ c) (hks : ∀ k ∈ keys, k.size ≤ 2147483647) (hkc : keys.length ≤ kc) (hG : Glob w) (hT : Tx b s w) (hK : Ky kb ko keys w) :
    Calls Tryd.prog 36 #[cfgV, .slice (some ⟨b, 0, none⟩) s.size c, .slice (some ⟨kb, ko, none⟩) keys.length kc] w fun e' w' => e' = .returned (.tuple #[.slice (some ⟨b, x, none⟩) (y - x) (y - x), .int .i64 kd, .int .i64 (x : Int), .int .i64 (y : Int), .nilIface]) ∧ Below w.heap.size w w' := by
  have HW := Aside0.mk (show Tk b s kb ko keys w (w.alloc (.cells #[.bool false, .bool false, .int .i64 0] 76)) from ⟨Tq.start hG hT 76, hK.more (below_alloc_ _ _)⟩)
  obtain ⟨kn, hnt⟩ := h.gv.nt
  have ax := h.gv.ax
  have xy := h.gv.xy
  have ye := h.gv.ye
  have HK1 := Aside0.mk (show ∀ W, Tk b s kb ko keys w W → _ from fun W hW => search_all (keys.length + 1) keys (Nat.lt_succ_self _) s s.size 0 (some q) h.sr (fun hh => by rw [h.nil hh]) b c kb ko kc (some ⟨kb, ko, none⟩) W (Nat.le_refl _) hz (Nat.zero_le _) hc hks hkc trivial (fun _ => rfl) hW.tq.glob hW.tq.text hW.key)
  rw [show ret 0 (some q) = (q : Int) from rfl, Nat.sub_zero] at HK1
  have HK2 := Aside0.mk (show ∀ W, Tk b s kb ko keys w W → _ from fun W hW => next_calls hnt b (c - q) W (Nat.le_refl _) hz (by omega) hW.tq.text)
  have HK3 := Aside0.mk (show ∀ W, Tk b s kb ko keys w W → _ from fun W hW => type_calls h.gv.tv b 0 c W (Nat.zero_le _) xy ye (Nat.le_refl _) hz hc hW.tq.glob hW.tq.text)
  obtain ⟨n, hn⟩ : ∃ n, s.size = n := ⟨_, rfl⟩
  obtain ⟨o, ho⟩ : ∃ o, x - q = o := ⟨_, rfl⟩
  obtain ⟨m, hm⟩ : ∃ m, y - x = m := ⟨_, rfl⟩
  obtain ⟨N, hN⟩ : ∃ N, keys.length = N := ⟨_, rfl⟩
  have hN0 : 0 < N := by rw [← hN]; exact List.length_pos_iff.2 hk0
  rw [hn, hN] at HK1
  rw [hn, ho] at HK2
  rw [hn, Nat.sub_zero, Nat.sub_zero, Nat.sub_zero, hm] at HK3
  rw [hn, hm, hN]
  have n0 : decide ((N : Int) > 0) = true := decide_eq_true (by omega)
  have n0' : decide (0 < N) = true := decide_eq_true hN0
  have m0 : (o : Int) ≠ -1 := by omega
  have m1 : ((o : Int) == -1) = false := beq_eq_false_iff_ne.2 m0
  have m3 : ((q : Int) == -1) = false := beq_eq_false_iff_ne.2 (by omega)
  have p1 : (q : Int) ≤ (n : Int) := by omega
  have p2 : q ≤ n := by omega
  have p3 : c ≠ q := by omega
  have pm : m ≤ c - x := by omega
  have q0 : (m : Int) ≤ ((c - x : Nat) : Int) := by omega
  have kd1 : (kd == 1) = false := beq_eq_false_iff_ne.2 hk
  have m2 : IntKind.i64.wrap ((q : Int) + (o : Int)) = (x : Int) := by rw [IntKind.wrap_i64]; omega
  clear hnt hT hG hK hn ho hm hk h ax xy ye hz hc hks hkc hk0 hN
  dsimp only [cfgV]
  go_enter Tryd.func36, Tryd.ntmps36
  have g1 := HW.out.tq.cfg0
  have g2 := HW.out.tq.cfg1
  have g3 := HW.out.tq.cfg2
  go_wp2_with (go_at_call 40; (with_reducible refine (HK1.out _ HW.out).mono ?_); rintro e' w1 ⟨rfl, HB⟩; have HW1 := Aside0.mk (HW.out.more HB); clear HB)
  clear g1 g2 g3
  have g1 := HW1.out.tq.cfg0
  have g2 := HW1.out.tq.cfg1
  have g3 := HW1.out.tq.cfg2
  go_region_held3 (fun w' => w'.cell? ⟨w.heap.size, 0, none⟩ = some (.bool false) ∧ w'.cell? ⟨w.heap.size, 1, none⟩ = some (.bool false) ∧ w'.cell? ⟨w.heap.size, 2, none⟩ = some (.int .i64 0) ∧ Aside0 (Tq b s w w'))
    (first | exact HW1.out.tq.cells | exact HW1.out.drew.tq.cells | exact HW2.out.tq.cells | exact HW2.out.drew.tq.cells)
    (first | (go_at_call 41; (with_reducible refine (HK2.out _ HW1.out.drew).mono ?_); rintro e' w2 ⟨rfl, HB⟩; have HW2 := Aside0.mk (HW1.out.drew.more HB); clear HB))
  clear g1 g2 g3
  have g1 := HW2.out.tq.cfg0
  have g2 := HW2.out.tq.cfg1
  have g3 := HW2.out.tq.cfg2
  go_wp2_with (go_at_call 42; (with_reducible refine (HK3.out _ HW2.out).mono ?_); rintro e' w3 ⟨rfl, HB⟩; have HW3 := Aside0.mk (HW2.out.more HB); clear HB)
  refine bodyPost_ret (results_tmp5 rfl _ _ _) rfl ?_
  exact ⟨by simp, HW3.out.tq.below⟩
set_option maxHeartbeats 4000000 in
set_option maxRecDepth 100000 in
theorem getk_str {s : ByteArray} {keys : List ByteArray} {q x y : Nat} (h : GK s keys q x y 1) (hk0 : keys ≠ []) (b c kb ko kc : Nat) (w : World) (hz : s.size ≤ 2147483647) (hc : s.size ≤ c) (hks : ∀ k ∈ keys, k.size ≤ 2147483647) (hkc : keys.length ≤ kc) (hG : Glob w) (hT : Tx b s w) (hK : Ky kb ko keys w) :
    Calls Tryd.prog 36 #[cfgV, .slice (some ⟨b, 0, none⟩) s.size c, .slice (some ⟨kb, ko, none⟩) keys.length kc] w fun e' w' => e' = .returned (.tuple #[.slice (some ⟨b, x + 1, none⟩) (y - x - 2) (y - x - 2), .int .i64 1, .int .i64 (x : Int), .int .i64 (y : Int), .nilIface]) ∧ Below w.heap.size w w' := by
  have HW := Aside0.mk (show Tk b s kb ko keys w (w.alloc (.cells #[.bool false, .bool false, .int .i64 0] 76)) from ⟨Tq.start hG hT 76, hK.more (below_alloc_ _ _)⟩)
  have h2 := h.gv.two
  obtain ⟨kn, hnt⟩ := h.gv.nt
  have ax := h.gv.ax
  have xy := h.gv.xy
  have ye := h.gv.ye
  have HK1 := Aside0.mk (show ∀ W, Tk b s kb ko keys w W → _ from fun W hW => search_all (keys.length + 1) keys (Nat.lt_succ_self _) s s.size 0 (some q) h.sr (fun hh => by rw [h.nil hh]) b c kb ko kc (some ⟨kb, ko, none⟩) W (Nat.le_refl _) hz (Nat.zero_le _) hc hks hkc trivial (fun _ => rfl) hW.tq.glob hW.tq.text hW.key)
  rw [show ret 0 (some q) = (q : Int) from rfl, Nat.sub_zero] at HK1
  have HK2 := Aside0.mk (show ∀ W, Tk b s kb ko keys w W → _ from fun W hW => next_calls hnt b (c - q) W (Nat.le_refl _) hz (by omega) hW.tq.text)
  have HK3 := Aside0.mk (show ∀ W, Tk b s kb ko keys w W → _ from fun W hW => type_calls h.gv.tv b 0 c W (Nat.zero_le _) xy ye (Nat.le_refl _) hz hc hW.tq.glob hW.tq.text)
  obtain ⟨n, hn⟩ : ∃ n, s.size = n := ⟨_, rfl⟩
  obtain ⟨o, ho⟩ : ∃ o, x - q = o := ⟨_, rfl⟩
  obtain ⟨m, hm⟩ : ∃ m, y - x - 2 = m := ⟨_, rfl⟩
  have hm2 : y - x = m + 2 := by omega
  obtain ⟨N, hN⟩ : ∃ N, keys.length = N := ⟨_, rfl⟩
  have hN0 : 0 < N := by rw [← hN]; exact List.length_pos_iff.2 hk0
  rw [hn, hN] at HK1
  rw [hn, ho] at HK2
  rw [hn, Nat.sub_zero, Nat.sub_zero, Nat.sub_zero, hm2] at HK3
  rw [hn, hm, hN]
  have n0 : decide ((N : Int) > 0) = true := decide_eq_true (by omega)
  have n0' : decide (0 < N) = true := decide_eq_true hN0
  have m0 : (o : Int) ≠ -1 := by omega
  have m1 : ((o : Int) == -1) = false := beq_eq_false_iff_ne.2 m0
  have m3 : ((q : Int) == -1) = false := beq_eq_false_iff_ne.2 (by omega)
  have p1 : (q : Int) ≤ (n : Int) := by omega
  have p2 : q ≤ n := by omega
  have p3 : c ≠ q := by omega
  have pm : m ≤ c - x - 1 := by omega
  have q0 : (m : Int) ≤ ((c - x - 1 : Nat) : Int) := by omega
  have q1 : (m : Int) + 1 ≤ ((c - x : Nat) : Int) := by omega
  have q2 : m + 1 ≤ c - x := by omega
  have q3 : c - x ≠ 1 := by omega
  obtain ⟨m2, m4, m5⟩ : IntKind.i64.wrap ((q : Int) + (o : Int)) = (x : Int) ∧ IntKind.i64.wrap (((m + 2 : Nat) : Int) - 1) = ((m + 1 : Nat) : Int) ∧ IntKind.i64.wrap ((m : Int) + 2 - 1) = ((m + 1 : Nat) : Int) := by
    refine ⟨?_, ?_, ?_⟩ <;> (rw [IntKind.wrap_i64]; omega)
  clear hnt hT hG hK hn ho hm h ax xy ye hz hc hks hkc hk0 hN h2 hm2
  dsimp only [cfgV]
  go_enter Tryd.func36, Tryd.ntmps36
  have g1 := HW.out.tq.cfg0
  have g2 := HW.out.tq.cfg1
  have g3 := HW.out.tq.cfg2
  go_wp2_with (go_at_call 40; (with_reducible refine (HK1.out _ HW.out).mono ?_); rintro e' w1 ⟨rfl, HB⟩; have HW1 := Aside0.mk (HW.out.more HB); clear HB)
  clear g1 g2 g3
  have g1 := HW1.out.tq.cfg0
  have g2 := HW1.out.tq.cfg1
  have g3 := HW1.out.tq.cfg2
  go_region_held3 (fun w' => w'.cell? ⟨w.heap.size, 0, none⟩ = some (.bool false) ∧ w'.cell? ⟨w.heap.size, 1, none⟩ = some (.bool false) ∧ w'.cell? ⟨w.heap.size, 2, none⟩ = some (.int .i64 0) ∧ Aside0 (Tq b s w w'))
    (first | exact HW1.out.tq.cells | exact HW1.out.drew.tq.cells | exact HW2.out.tq.cells | exact HW2.out.drew.tq.cells)
    (first | (go_at_call 41; (with_reducible refine (HK2.out _ HW1.out.drew).mono ?_); rintro e' w2 ⟨rfl, HB⟩; have HW2 := Aside0.mk (HW1.out.drew.more HB); clear HB))
  clear g1 g2 g3
  have g1 := HW2.out.tq.cfg0
  have g2 := HW2.out.tq.cfg1
  have g3 := HW2.out.tq.cfg2
  go_wp2_with (go_at_call 42; (with_reducible refine (HK3.out _ HW2.out).mono ?_); rintro e' w3 ⟨rfl, HB⟩; have HW3 := Aside0.mk (HW2.out.more HB); clear HB)
  refine bodyPost_ret (results_tmp5 rfl _ _ _) rfl ?_
  exact ⟨by simp, HW3.out.tq.below⟩
/-- Get, with keys or without. -/
theorem getk_calls {s : ByteArray} {keys : List ByteArray} {q x y : Nat} {kd : Int} (h : GK s keys q x y kd) (b c kb ko kc : Nat) (kA : Option Addr) (w : World) (hz : s.size ≤ 2147483647) (hc : s.size ≤ c) (hks : ∀ k ∈ keys, k.size ≤ 2147483647) (hkc : keys.length ≤ kc) (hkA : keys ≠ [] → kA = some ⟨kb, ko, none⟩) (hG : Glob w) (hT : Tx b s w) (hK : Ky kb ko keys w) :
    Calls Tryd.prog 36 #[cfgV, .slice (some ⟨b, 0, none⟩) s.size c, .slice kA keys.length kc] w fun e' w' => e' = .returned (.tuple #[vsl b x y kd, .int .i64 kd, .int .i64 (x : Int), .int .i64 (y : Int), .nilIface]) ∧ Below w.heap.size w w' := by
  by_cases h0 : keys = []
  · obtain rfl := h.nil h0
    have g := get0_calls h.gv b c kc kA w (Nat.le_refl _) hz (by omega) hG hT
    rw [Nat.sub_zero, Nat.sub_zero, Nat.sub_zero] at g
    rw [h0]
    exact g
  · obtain rfl := hkA h0
    unfold vsl
    by_cases hk : kd = 1
    · subst hk
      rw [if_pos rfl]
      exact getk_str h h0 b c kb ko kc w hz hc hks hkc hG hT hK
    · rw [if_neg hk]
      exact getk_other h h0 hk b c kb ko kc w hz hc hks hkc hG hT hK
end Go.Proofs.YtobnmfgapaeccaaDoor.PFnJpGetBool/- Get and GetBoolean; no condition beside those that each theorem states. -/
namespace Go.Proofs.YtobnmfgapaeccaaDoor.PFnJpGetBool
open Go.RowKit Go.Proofs.YtobnmfgapaeccaaDoorW.PrintWords Go.Proofs.YtobnmfgapaeccaaDoorW.PrintLast Go.Proofs.YtobnmfgapaeccaaDoorW.PrintMore
set_option linter.unusedVariables false
set_option linter.unusedSimpArgs false
/-- What is asked at a call with a text and keys. -/
structure Qk (b c kb ko kc : Nat) (kA : Option Addr) (s : ByteArray) (keys : List ByteArray) (W : World) : Prop where
  hz : s.size ≤ 2147483647
  hc : s.size ≤ c
  hks : ∀ k ∈ keys, k.size ≤ 2147483647
  hkc : keys.length ≤ kc
  hkA : keys ≠ [] → kA = some ⟨kb, ko, none⟩
  glob : Glob W
  text : Tx b s W
  key : Ky kb ko keys W
theorem Qk.more {b c kb ko kc : Nat} {kA : Option Addr} {s : ByteArray} {keys : List ByteArray} {W W' : World} (h : Qk b c kb ko kc kA s keys W) (hb : Below W.heap.size W W') : Qk b c kb ko kc kA s keys W' := ⟨h.hz, h.hc, h.hks, h.hkc, h.hkA, h.glob.below hb, h.text.more hb, h.key.more hb⟩
set_option maxHeartbeats 2000000 in
set_option maxRecDepth 100000 in
theorem iget_calls {s : ByteArray} {keys : List ByteArray} {q x y : Nat} {kd : Int} (h : GK s keys q x y kd) (b c kb ko kc : Nat) (kA : Option Addr) (w : World) (hQ : Qk b c kb ko kc kA s keys w) :
    Calls Tryd.prog 27 #[.slice (some ⟨b, 0, none⟩) s.size c, .slice kA keys.length kc] w fun e' w' => e' = .returned (.tuple #[vsl b x y kd, .int .i64 kd, .int .i64 (x : Int), .int .i64 (y : Int), .nilIface]) ∧ Below w.heap.size w w' := by
  have K1 := getk_calls h b c kb ko kc kA w hQ.hz hQ.hc hQ.hks hQ.hkc hQ.hkA hQ.glob hQ.text hQ.key
  have g0 := hQ.glob.e2_0
  have g1 := hQ.glob.e2_1
  have g2 := hQ.glob.e2_2
  obtain ⟨v, hv⟩ : ∃ v, vsl b x y kd = v := ⟨_, rfl⟩
  obtain ⟨n, hn⟩ : ∃ n, s.size = n := ⟨_, rfl⟩
  obtain ⟨N, hN⟩ : ∃ N, keys.length = N := ⟨_, rfl⟩
  rw [hv, hn, hN] at K1
  rw [hv, hn, hN]
  have HK := Aside0.mk K1
  dsimp only [cfgV] at HK
  clear K1 h hQ hv hn hN
  go_enter Tryd.func27, Tryd.ntmps27
  go_wp2_with (go_at_call 36; (with_reducible refine HK.out.mono ?_); rintro e' w3 ⟨rfl, HB⟩; have HW3 := Aside0.mk HB; clear HB)
  refine bodyPost_ret (results_tmp5 rfl _ _ _) rfl ?_
  exact ⟨by simp, HW3.out⟩
set_option maxHeartbeats 2000000 in
set_option maxRecDepth 100000 in
theorem get_calls {s : ByteArray} {keys : List ByteArray} {q x y : Nat} {kd : Int} (h : GK s keys q x y kd) (b c kb ko kc : Nat) (kA : Option Addr) (w : World) (hQ : Qk b c kb ko kc kA s keys w) :
    Calls Tryd.prog 16 #[.slice (some ⟨b, 0, none⟩) s.size c, .slice kA keys.length kc] w fun e' w' => e' = .returned (.tuple #[vsl b x y kd, .int .i64 kd, .int .i64 (y : Int), .nilIface]) ∧ Below w.heap.size w w' := by
  have K1 := iget_calls h b c kb ko kc kA w hQ
  obtain ⟨v, hv⟩ : ∃ v, vsl b x y kd = v := ⟨_, rfl⟩
  obtain ⟨n, hn⟩ : ∃ n, s.size = n := ⟨_, rfl⟩
  obtain ⟨N, hN⟩ : ∃ N, keys.length = N := ⟨_, rfl⟩
  rw [hv, hn, hN] at K1
  rw [hv, hn, hN]
  have HK := Aside0.mk K1
  clear K1 h hQ hv hn hN
  go_enter Tryd.func16, Tryd.ntmps16
  go_wp2_with (go_at_call 27; (with_reducible refine HK.out.mono ?_); rintro e' w3 ⟨rfl, HB⟩; have HW3 := Aside0.mk HB; clear HB)
  refine bodyPost_ret (results_tmp4 rfl _ _ _) rfl ?_
  exact ⟨by simp, HW3.out⟩
set_option maxHeartbeats 2000000 in
set_option maxRecDepth 100000 in
/-- GetBoolean where true or false stands. -/
theorem bool_yes {s : ByteArray} {keys : List ByteArray} {q x y : Nat} (h : GK s keys q x y 5) (bv : Bool) (hv : win s x y = if bv = true then [116, 114, 117, 101] else [102, 97, 108, 115, 101]) (b c kb ko kc : Nat) (kA : Option Addr) (w : World) (hQ : Qk b c kb ko kc kA s keys w) :
    Calls Tryd.prog 11 #[.slice (some ⟨b, 0, none⟩) s.size c, .slice kA keys.length kc] w fun e' w' => e' = .returned (.tuple #[.bool bv, .nilIface]) ∧ Below w.heap.size w w' := by
  have K1 := get_calls h b c kb ko kc kA w hQ
  have hye := h.gv.ye
  have K2 : ∀ W, Below w.heap.size w W → Calls Tryd.prog 18 #[.slice (some ⟨b, x, none⟩) (y - x) (y - x)] W fun e' w' => e' = .returned (.tuple #[.bool bv, .nilIface]) ∧ Below W.heap.size W w' := by
    intro W hW
    have hq := hQ.more hW
    have hf : PPB_.f (win s x y) = some (bv, none) := by
      rw [hv]
      cases bv <;> simp [PPB_.f, ByteArray.toList_eq, strOfNums_data]
    have g := PPB_.calls (some ⟨b, x, none⟩) (y - x) (win s x y) bv none W ((hq.text.hd x y hye).reads (by rw [win_len]; have := hQ.hz; omega)) (by rw [win_len]; exact Nat.le_refl _) hf hq.glob
    rw [win_len] at g
    refine g.mono ?_
    rintro e' w' ⟨ev, rfl, hD⟩
    exact ⟨rfl, hD.below⟩
  rw [show vsl b x y 5 = .slice (some ⟨b, x, none⟩) (y - x) (y - x) from if_neg (by decide)] at K1
  obtain ⟨m, hm⟩ : ∃ m, y - x = m := ⟨_, rfl⟩
  obtain ⟨n, hn⟩ : ∃ n, s.size = n := ⟨_, rfl⟩
  obtain ⟨N, hN⟩ : ∃ N, keys.length = N := ⟨_, rfl⟩
  rw [hm, hn, hN] at K1
  rw [hm] at K2
  rw [hn, hN]
  have HK := Aside0.mk K1
  have HK2 := Aside0.mk K2
  clear K1 K2 h hQ hv hn hN hm hye
  go_enter Tryd.func11, Tryd.ntmps11
  go_wp2_with (first | (go_at_call 16; (with_reducible refine HK.out.mono ?_); rintro e' w3 ⟨rfl, HB⟩; have HW3 := Aside0.mk HB; clear HB) | (go_at_call 18; (with_reducible refine (HK2.out _ HW3.out).mono ?_); rintro e' w4 ⟨rfl, HB⟩; have HW4 := Aside0.mk (below_step HW3.out HB); clear HB))
  go_ret2
  exact ⟨by simp, HW4.out⟩
set_option maxHeartbeats 2000000 in
set_option maxRecDepth 100000 in
/-- GetBoolean where another value stands. -/
theorem bool_no {s : ByteArray} {keys : List ByteArray} {q x y : Nat} {kd : Int} (h : GK s keys q x y kd) (hk : kd ≠ 5) (b c kb ko kc : Nat) (kA : Option Addr) (w : World) (hQ : Qk b c kb ko kc kA s keys w) :
    Calls Tryd.prog 11 #[.slice (some ⟨b, 0, none⟩) s.size c, .slice kA keys.length kc] w fun e' w' => (∃ te pe, e' = .returned (.tuple #[.bool false, .iface te pe])) ∧ Below w.heap.size w w' := by
  have K1 := get_calls h b c kb ko kc kA w hQ
  have hkb : (kd != 5) = true := bne_iff_ne.2 hk
  obtain ⟨v, hv⟩ : ∃ v, vsl b x y kd = v := ⟨_, rfl⟩
  obtain ⟨n, hn⟩ : ∃ n, s.size = n := ⟨_, rfl⟩
  obtain ⟨N, hN⟩ : ∃ N, keys.length = N := ⟨_, rfl⟩
  rw [hv, hn, hN] at K1
  rw [hn, hN]
  have HK := Aside0.mk K1
  have HG := Aside0.mk hQ.glob
  clear K1 h hQ hv hn hN hk
  by_cases h6 : kd = 6
  · subst h6
    go_enter Tryd.func11, Tryd.ntmps11
    go_wp2_with (go_at_call 16; (with_reducible refine HK.out.mono ?_); rintro e' w3 ⟨rfl, HB⟩; have HW3 := Aside0.mk HB; have HG3 := Aside0.mk (HG.out.below HB).e0; clear HB)
    obtain ⟨te, pe, hne⟩ := HG3.out
    go_wp2
    go_region
    all_goals (try go_wp2)
    all_goals go_ret2
    all_goals exact ⟨⟨te, pe, by simp⟩, by first | exact HW3.out | exact HW3.out.drew⟩
  · have h6b : (kd == 6) = false := beq_eq_false_iff_ne.2 h6
    go_enter Tryd.func11, Tryd.ntmps11
    go_wp2_with (first | (go_at_call 16; (with_reducible refine HK.out.mono ?_); rintro e' w3 ⟨rfl, HB⟩; have HW3 := Aside0.mk HB; clear HB) | (go_at_call 17; (with_reducible refine (errors_New.calls _ _ _ rfl).mono ?_); rintro e' w4 ⟨ev, rfl, HB⟩; have HW4 := Aside0.mk (below_step HW3.out HB); clear HB))
    go_ret2
    exact ⟨⟨ev.1, ev.2, by simp [errX]⟩, HW4.out⟩
end Go.Proofs.YtobnmfgapaeccaaDoor.PFnJpGetBool