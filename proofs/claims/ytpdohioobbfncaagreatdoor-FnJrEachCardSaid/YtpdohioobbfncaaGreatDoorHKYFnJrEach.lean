/- internalGetConfig with keys, Get; no condition beside those that each theorem states. -/
import Derived.Test.YtpdohioobbfncaaGreatDoorHSKFnJrEach
import Derived.Test.YtpdohioobbfncaaGreatDoorJAFnJrEach
namespace Go.Proofs.YtpdohioobbfncaaGreatDoor.PFnJrEach
open Go.RowKit Go.Proofs.YtpdohioobbfncaaGreatDoorW.PrintWords Go.Proofs.YtpdohioobbfncaaGreatDoorW.PrintLast Go.Proofs.YtpdohioobbfncaaGreatDoorW.PrintMore
set_option linter.unusedVariables false
set_option linter.unusedSimpArgs false
/-- searchKeysConfig, with keys or without. -/
theorem search_all : ∀ (N : Nat) (keys : List ByteArray), keys.length < N → ∀ (s : ByteArray) (e a : Nat) (r : Option Nat), SR s e keys 0 0 a true r → (keys = [] → r = some a) → ∀ (b c kb ko kc : Nat) (kA : Option Addr) (w : World), e ≤ s.size → s.size ≤ 2147483647 → a ≤ e → e - a ≤ c → (∀ k ∈ keys, k.size ≤ 2147483647) → keys.length ≤ kc → True → (keys ≠ [] → kA = some ⟨kb, ko, none⟩) → Glob w → Tx b s w → Ky kb ko keys w →
      Calls Tryz.prog 49 #[cfgV, .slice (some ⟨b, a, none⟩) (e - a) c, .slice kA keys.length kc] w fun e' w' => e' = .returned (.int .i64 (ret a r)) ∧ Below w.heap.size w w' := by
  intro N
  induction N with
  | zero => intro keys h; exact absurd h (Nat.not_lt_zero _)
  | succ N ih =>
    intro keys hl s e a r hsr hnil b c kb ko kc kA w he hz hae hc hks hkc hkz hkA hG hT hK
    by_cases h0 : keys = []
    · subst h0
      obtain rfl := hnil rfl
      exact search_nil b a (e - a) c kc kA w
    · obtain rfl := hkA h0
      have hpos : 0 < keys.length := List.length_pos_iff.2 h0
      exact search_step keys.length (fun keys2 h2 => ih keys2 (Nat.lt_of_lt_of_le h2 (Nat.le_of_lt_succ hl))) keys rfl hpos s e a r hsr b c kb ko kc w he hz hae hc hks hkc hkz hG hT hK
/-- Where keys lead, and the value there. -/
structure GK (s : ByteArray) (keys : List ByteArray) (q x y : Nat) (kd : Int) : Prop where
  sr : SR s s.size keys 0 0 0 true (some q)
  nil : keys = [] → q = 0
  gv : GV s s.size q x y kd
/-- What is looked at: the text, and the configuration's own block. -/
structure Tk (b : Nat) (s : ByteArray) (kb ko : Nat) (keys : List ByteArray) (w0 W : World) : Prop where
  tq : Tq b s w0 W
  key : Ky kb ko keys W
theorem Tk.more {b : Nat} {s : ByteArray} {kb ko : Nat} {keys : List ByteArray} {w0 W W' : World} (h : Tk b s kb ko keys w0 W) (hb : Below W.heap.size W W') : Tk b s kb ko keys w0 W' := ⟨h.tq.more hb, h.key.more hb⟩
theorem Tk.drew {b : Nat} {s : ByteArray} {kb ko : Nat} {keys : List ByteArray} {w0 W : World} (h : Tk b s kb ko keys w0 W) : Tk b s kb ko keys w0 W.drew := h.more (Below.refl _ _).drew
set_option maxHeartbeats 4000000 in
set_option maxRecDepth 100000 in
theorem getk_other {s : ByteArray} {keys : List ByteArray} {q x y : Nat} {kd : Int} (h : GK s keys q x y kd) (hk0 : keys ≠ []) (hk : kd ≠ 1) (b c kb ko kc : Nat) (w : World) (hz : s.size ≤ 2147483647) (hc : s.size ≤ c) (hks : ∀ k ∈ keys, k.size ≤ 2147483647) (hkc : keys.length ≤ kc) (hG : Glob w) (hT : Tx b s w) (hK : Ky kb ko keys w) :
    Calls Tryz.prog 51 #[cfgV, .slice (some ⟨b, 0, none⟩) s.size c, .slice (some ⟨kb, ko, none⟩) keys.length kc] w fun e' w' => e' = .returned (.tuple #[.slice (some ⟨b, x, none⟩) (y - x) (y - x), .int .i64 kd, .int .i64 (x : Int), .int .i64 (y : Int), .nilIface]) ∧ Below w.heap.size w w' := by
  have HW := Aside0.mk (show Tk b s kb ko keys w (w.alloc (.cells #[.bool false, .bool false, .int .i64 0] 72)) from ⟨Tq.start hG hT 72, hK.more (below_alloc_ _ _)⟩)
  obtain ⟨kn, hnt⟩ := h.gv.nt
  have ax := h.gv.ax
  have xy := h.gv.xy
  have ye := h.gv.ye
  have HK1 := Aside0.mk (show ∀ W, Tk b s kb ko keys w W → _ from fun W hW => search_all (keys.length + 1) keys (Nat.lt_succ_self _) s s.size 0 (some q) h.sr (fun hh => by rw [h.nil hh]) b c kb ko kc (some ⟨kb, ko, none⟩) W (Nat.le_refl _) hz (Nat.zero_le _) hc hks hkc trivial (fun _ => rfl) hW.tq.glob hW.tq.text hW.key)
  rw [show ret 0 (some q) = (q : Int) from rfl, Nat.sub_zero] at HK1
  have HK2 := Aside0.mk (show ∀ W, Tk b s kb ko keys w W → _ from fun W hW => next_calls hnt b (c - q) W (Nat.le_refl _) hz (by omega) hW.tq.text)
  have HK3 := Aside0.mk (show ∀ W, Tk b s kb ko keys w W → _ from fun W hW => type_calls h.gv.tv b 0 c W (Nat.zero_le _) xy ye (Nat.le_refl _) hz hc hW.tq.glob hW.tq.text)
  obtain ⟨n, hn⟩ : ∃ n, s.size = n := ⟨_, rfl⟩
  obtain ⟨o, ho⟩ : ∃ o, x - q = o := ⟨_, rfl⟩
  obtain ⟨m, hm⟩ : ∃ m, y - x = m := ⟨_, rfl⟩
  obtain ⟨N, hN⟩ : ∃ N, keys.length = N := ⟨_, rfl⟩
  have hN0 : 0 < N := by rw [← hN]; exact List.length_pos_iff.2 hk0
  rw [hn, hN] at HK1
  rw [hn, ho] at HK2
  rw [hn, Nat.sub_zero, Nat.sub_zero, Nat.sub_zero, hm] at HK3
  rw [hn, hm, hN]
  have n0 : decide ((N : Int) > 0) = true := decide_eq_true (by omega)
  have n0' : decide (0 < N) = true := decide_eq_true hN0
  have m0 : (o : Int) ≠ -1 := by omega
  have m1 : ((o : Int) == -1) = false := beq_eq_false_iff_ne.2 m0
  have m3 : ((q : Int) == -1) = false := beq_eq_false_iff_ne.2 (by omega)
  have p1 : (q : Int) ≤ (n : Int) := by omega
  have p2 : q ≤ n := by omega
  have p3 : c ≠ q := by omega
  have pm : m ≤ c - x := by omega
  have q0 : (m : Int) ≤ ((c - x : Nat) : Int) := by omega
  have kd1 : (kd == 1) = false := beq_eq_false_iff_ne.2 hk
  have m2 : IntKind.i64.wrap ((q : Int) + (o : Int)) = (x : Int) := by rw [IntKind.wrap_i64]; omega
  clear hnt hT hG hK hn ho hm hk h ax xy ye hz hc hks hkc hk0 hN
  dsimp only [cfgV]
  go_enter Tryz.func51, Tryz.ntmps51
  have g1 := HW.out.tq.cfg0
  have g2 := HW.out.tq.cfg1
  have g3 := HW.out.tq.cfg2
  go_wp2_with (go_at_call 49; (with_reducible refine (HK1.out _ HW.out).mono ?_); rintro e' w1 ⟨rfl, HB⟩; have HW1 := Aside0.mk (HW.out.more HB); clear HB)
  clear g1 g2 g3
  have g1 := HW1.out.tq.cfg0
  have g2 := HW1.out.tq.cfg1
  have g3 := HW1.out.tq.cfg2
  go_region_held3 (fun w' => w'.cell? ⟨w.heap.size, 0, none⟩ = some (.bool false) ∧ w'.cell? ⟨w.heap.size, 1, none⟩ = some (.bool false) ∧ w'.cell? ⟨w.heap.size, 2, none⟩ = some (.int .i64 0) ∧ Aside0 (Tq b s w w'))
    (first | exact HW1.out.tq.cells | exact HW1.out.drew.tq.cells | exact HW2.out.tq.cells | exact HW2.out.drew.tq.cells)
    (first | (go_at_call 48; (with_reducible refine (HK2.out _ HW1.out.drew).mono ?_); rintro e' w2 ⟨rfl, HB⟩; have HW2 := Aside0.mk (HW1.out.drew.more HB); clear HB))
  clear g1 g2 g3
  have g1 := HW2.out.tq.cfg0
  have g2 := HW2.out.tq.cfg1
  have g3 := HW2.out.tq.cfg2
  go_wp2_with (go_at_call 70; (with_reducible refine (HK3.out _ HW2.out).mono ?_); rintro e' w3 ⟨rfl, HB⟩; have HW3 := Aside0.mk (HW2.out.more HB); clear HB)
  refine bodyPost_ret (results_tmp5 rfl _ _ _) rfl ?_
  exact ⟨by simp, HW3.out.tq.below⟩
set_option maxHeartbeats 4000000 in
set_option maxRecDepth 100000 in
theorem getk_str {s : ByteArray} {keys : List ByteArray} {q x y : Nat} (h : GK s keys q x y 1) (hk0 : keys ≠ []) (b c kb ko kc : Nat) (w : World) (hz : s.size ≤ 2147483647) (hc : s.size ≤ c) (hks : ∀ k ∈ keys, k.size ≤ 2147483647) (hkc : keys.length ≤ kc) (hG : Glob w) (hT : Tx b s w) (hK : Ky kb ko keys w) :
    Calls Tryz.prog 51 #[cfgV, .slice (some ⟨b, 0, none⟩) s.size c, .slice (some ⟨kb, ko, none⟩) keys.length kc] w fun e' w' => e' = .returned (.tuple #[.slice (some ⟨b, x + 1, none⟩) (y - x - 2) (y - x - 2), .int .i64 1, .int .i64 (x : Int), .int .i64 (y : Int), .nilIface]) ∧ Below w.heap.size w w' := by
  have HW := Aside0.mk (show Tk b s kb ko keys w (w.alloc (.cells #[.bool false, .bool false, .int .i64 0] 72)) from ⟨Tq.start hG hT 72, hK.more (below_alloc_ _ _)⟩)
  have h2 := h.gv.two
  obtain ⟨kn, hnt⟩ := h.gv.nt
  have ax := h.gv.ax
  have xy := h.gv.xy
  have ye := h.gv.ye
  have HK1 := Aside0.mk (show ∀ W, Tk b s kb ko keys w W → _ from fun W hW => search_all (keys.length + 1) keys (Nat.lt_succ_self _) s s.size 0 (some q) h.sr (fun hh => by rw [h.nil hh]) b c kb ko kc (some ⟨kb, ko, none⟩) W (Nat.le_refl _) hz (Nat.zero_le _) hc hks hkc trivial (fun _ => rfl) hW.tq.glob hW.tq.text hW.key)
  rw [show ret 0 (some q) = (q : Int) from rfl, Nat.sub_zero] at HK1
  have HK2 := Aside0.mk (show ∀ W, Tk b s kb ko keys w W → _ from fun W hW => next_calls hnt b (c - q) W (Nat.le_refl _) hz (by omega) hW.tq.text)
  have HK3 := Aside0.mk (show ∀ W, Tk b s kb ko keys w W → _ from fun W hW => type_calls h.gv.tv b 0 c W (Nat.zero_le _) xy ye (Nat.le_refl _) hz hc hW.tq.glob hW.tq.text)
  obtain ⟨n, hn⟩ : ∃ n, s.size = n := ⟨_, rfl⟩
  obtain ⟨o, ho⟩ : ∃ o, x - q = o := ⟨_, rfl⟩
  obtain ⟨m, hm⟩ : ∃ m, y - x - 2 = m := ⟨_, rfl⟩
  have hm2 : y - x = m + 2 := by omega
  obtain ⟨N, hN⟩ : ∃ N, keys.length = N := ⟨_, rfl⟩
  have hN0 : 0 < N := by rw [← hN]; exact List.length_pos_iff.2 hk0
  rw [hn, hN] at HK1
  rw [hn, ho] at HK2
  rw [hn, Nat.sub_zero, Nat.sub_zero, Nat.sub_zero, hm2] at HK3
  rw [hn, hm, hN]
  have n0 : decide ((N : Int) > 0) = true := decide_eq_true (by omega)
  have n0' : decide (0 < N) = true := decide_eq_true hN0
  have m0 : (o : Int) ≠ -1 := by omega
  have m1 : ((o : Int) == -1) = false := beq_eq_false_iff_ne.2 m0
  have m3 : ((q : Int) == -1) = false := beq_eq_false_iff_ne.2 (by omega)
  have p1 : (q : Int) ≤ (n : Int) := by omega
  have p2 : q ≤ n := by omega
  have p3 : c ≠ q := by omega
  have pm : m ≤ c - x - 1 := by omega
  have q0 : (m : Int) ≤ ((c - x - 1 : Nat) : Int) := by omega
  have q1 : (m : Int) + 1 ≤ ((c - x : Nat) : Int) := by omega
  have q2 : m + 1 ≤ c - x := by omega
  have q3 : c - x ≠ 1 := by omega
  obtain ⟨m2, m4, m5⟩ : IntKind.i64.wrap ((q : Int) + (o : Int)) = (x : Int) ∧ IntKind.i64.wrap (((m + 2 : Nat) : Int) - 1) = ((m + 1 : Nat) : Int) ∧ IntKind.i64.wrap ((m : Int) + 2 - 1) = ((m + 1 : Nat) : Int) := by
    refine ⟨?_, ?_, ?_⟩ <;> (rw [IntKind.wrap_i64]; omega)
  clear hnt hT hG hK hn ho hm h ax xy ye hz hc hks hkc hk0 hN h2 hm2
  dsimp only [cfgV]
  go_enter Tryz.func51, Tryz.ntmps51
  have g1 := HW.out.tq.cfg0
  have g2 := HW.out.tq.cfg1
  have g3 := HW.out.tq.cfg2
  go_wp2_with (go_at_call 49; (with_reducible refine (HK1.out _ HW.out).mono ?_); rintro e' w1 ⟨rfl, HB⟩; have HW1 := Aside0.mk (HW.out.more HB); clear HB)
  clear g1 g2 g3
  have g1 := HW1.out.tq.cfg0
  have g2 := HW1.out.tq.cfg1
  have g3 := HW1.out.tq.cfg2
  go_region_held3 (fun w' => w'.cell? ⟨w.heap.size, 0, none⟩ = some (.bool false) ∧ w'.cell? ⟨w.heap.size, 1, none⟩ = some (.bool false) ∧ w'.cell? ⟨w.heap.size, 2, none⟩ = some (.int .i64 0) ∧ Aside0 (Tq b s w w'))
    (first | exact HW1.out.tq.cells | exact HW1.out.drew.tq.cells | exact HW2.out.tq.cells | exact HW2.out.drew.tq.cells)
    (first | (go_at_call 48; (with_reducible refine (HK2.out _ HW1.out.drew).mono ?_); rintro e' w2 ⟨rfl, HB⟩; have HW2 := Aside0.mk (HW1.out.drew.more HB); clear HB))
  clear g1 g2 g3
  have g1 := HW2.out.tq.cfg0
  have g2 := HW2.out.tq.cfg1
  have g3 := HW2.out.tq.cfg2
  go_wp2_with (go_at_call 70; (with_reducible refine (HK3.out _ HW2.out).mono ?_); rintro e' w3 ⟨rfl, HB⟩; have HW3 := Aside0.mk (HW2.out.more HB); clear HB)
  refine bodyPost_ret (results_tmp5 rfl _ _ _) rfl ?_
  exact ⟨by simp, HW3.out.tq.below⟩
/-- Get, with keys or without. -/
theorem getk_calls {s : ByteArray} {keys : List ByteArray} {q x y : Nat} {kd : Int} (h : GK s keys q x y kd) (b c kb ko kc : Nat) (kA : Option Addr) (w : World) (hz : s.size ≤ 2147483647) (hc : s.size ≤ c) (hks : ∀ k ∈ keys, k.size ≤ 2147483647) (hkc : keys.length ≤ kc) (hkA : keys ≠ [] → kA = some ⟨kb, ko, none⟩) (hG : Glob w) (hT : Tx b s w) (hK : Ky kb ko keys w) :
    Calls Tryz.prog 51 #[cfgV, .slice (some ⟨b, 0, none⟩) s.size c, .slice kA keys.length kc] w fun e' w' => e' = .returned (.tuple #[vsl b x y kd, .int .i64 kd, .int .i64 (x : Int), .int .i64 (y : Int), .nilIface]) ∧ Below w.heap.size w w' := by
  by_cases h0 : keys = []
  · obtain rfl := h.nil h0
    have g := get0_calls h.gv b c kc kA w (Nat.le_refl _) hz (by omega) hG hT
    rw [Nat.sub_zero, Nat.sub_zero, Nat.sub_zero] at g
    rw [h0]
    exact g
  · obtain rfl := hkA h0
    unfold vsl
    by_cases hk : kd = 1
    · subst hk
      rw [if_pos rfl]
      exact getk_str h h0 b c kb ko kc w hz hc hks hkc hG hT hK
    · rw [if_neg hk]
      exact getk_other h h0 hk b c kb ko kc w hz hc hks hkc hG hT hK
end Go.Proofs.YtpdohioobbfncaaGreatDoor.PFnJrEach/- A row of keys and a text as jsonparser is handed them; no condition beside those that each theorem states. -/
namespace Go.Proofs.YtpdohioobbfncaaGreatDoor.PFnJrEach
open Go.RowKit Go.Proofs.YtpdohioobbfncaaGreatDoor.JFnJrEach Go.Proofs.YtpdohioobbfncaaGreatDoorW.PrintWords Go.Proofs.YtpdohioobbfncaaGreatDoorW.PrintLast Go.Proofs.YtpdohioobbfncaaGreatDoorW.PrintMore
set_option linter.unusedVariables false
set_option linter.unusedSimpArgs false
/-- What is asked at a call with a text and keys. -/
structure Qk (b c kb ko kc : Nat) (kA : Option Addr) (s : ByteArray) (keys : List ByteArray) (W : World) : Prop where
  hz : s.size ≤ 2147483647
  hc : s.size ≤ c
  hks : ∀ k ∈ keys, k.size ≤ 2147483647
  hkc : keys.length ≤ kc
  hkA : keys ≠ [] → kA = some ⟨kb, ko, none⟩
  glob : Glob W
  text : Tx b s W
  key : Ky kb ko keys W
theorem Qk.more {b c kb ko kc : Nat} {kA : Option Addr} {s : ByteArray} {keys : List ByteArray} {W W' : World} (h : Qk b c kb ko kc kA s keys W) (hb : Below W.heap.size W W') : Qk b c kb ko kc kA s keys W' := ⟨h.hz, h.hc, h.hks, h.hkc, h.hkA, h.glob.below hb, h.text.more hb, h.key.more hb⟩
theorem ky_of {A : Option Addr} {keys : List ByteArray} {w : World} (h : Kd.C Kd.string w A keys.length keys) : ∃ kb ko, (keys ≠ [] → A = some ⟨kb, ko, none⟩) ∧ Ky kb ko keys w := by
  by_cases h0 : keys = []
  · subst h0
    exact ⟨0, 0, fun hh => absurd rfl hh, ⟨fun j hj => absurd hj (Nat.not_lt_zero _)⟩⟩
  · have hp := List.length_pos_iff.2 h0
    obtain ⟨⟨kb, ko, sp⟩, hA, hc⟩ := Kd.at_string h 0 (by omega) (by omega)
    have hsp : sp = none := by
      cases sp with
      | none => rfl
      | some x =>
        have h1 := cell_spot (b := ((⟨kb, ko, some x⟩ : Addr).add 0).block) (o := ((⟨kb, ko, some x⟩ : Addr).add 0).off) (sp := ((⟨kb, ko, some x⟩ : Addr).add 0).spot) hc
        simp [Addr.add] at h1
    subst hsp
    refine ⟨kb, ko, fun _ => hA, ⟨fun j hj => ?_⟩⟩
    obtain ⟨ad, hA2, hc2⟩ := Kd.at_string h (j : Int) (by omega) (by omega)
    rw [hA] at hA2
    obtain rfl := Option.some.inj hA2
    rw [Int.toNat_natCast] at hc2
    rw [show (⟨kb, ko + j, none⟩ : Addr) = (⟨kb, ko, none⟩ : Addr).add j by simp [Addr.add], hc2]
    unfold rdOf
    rw [Int.toNat_natCast]
theorem tx_of (s : ByteArray) (w : World) : Tx w.heap.size s (Lib.bytesWorld w 5 s) := by
  refine ⟨fun i hi => ?_⟩
  rw [Lib.bytesWorld_cell w 5 s i hi, bt_getD, Int.toNat_natCast]
end Go.Proofs.YtpdohioobbfncaaGreatDoor.PFnJrEach