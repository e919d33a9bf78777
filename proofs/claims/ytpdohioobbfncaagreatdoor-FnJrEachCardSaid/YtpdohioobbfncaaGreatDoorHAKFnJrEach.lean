/- arrayEachConfig where keys lead, with a call back that does nothing, told by hand; no condition beside those that each theorem states. -/
import Derived.Test.YtpdohioobbfncaaGreatDoorHKYFnJrEach
import Derived.Deep.LoopGhost
import Derived.Deep.DeepCutAuto
namespace Go.Proofs.YtpdohioobbfncaaGreatDoor.PFnJrEach
open Go.RowKit Go.Proofs.YtpdohioobbfncaaGreatDoorW.PrintWords Go.Proofs.YtpdohioobbfncaaGreatDoorW.PrintLast Go.Proofs.YtpdohioobbfncaaGreatDoorW.PrintMore
set_option linter.unusedVariables false
set_option linter.unusedSimpArgs false
/-- What is asked at a call of arrayEachConfig. -/
structure Aq (s : ByteArray) (keys : List ByteArray) (n0 q0 p : Nat) : Prop where
  sr : SR s s.size keys 0 0 0 true (some q0)
  nil : keys = [] → q0 = 0 ∧ n0 = p
  nta : NT s s.size 0 n0
  nas : n0 < s.size
  nt : NT s s.size q0 p
  qp : q0 ≤ p
  ps : p < s.size
/-- Where the walk over the elements stands. -/
structure La (b : Nat) (s : ByteArray) (f o gk : Nat) (w0 W : World) : Prop where
  tq : Tq b s w0 W
  el : ∃ r, EL s s.size o r f
  gk : s.size - o ≤ gk
set_option maxHeartbeats 8000000 in
set_option maxRecDepth 100000 in
theorem aeach_calls {s : ByteArray} {keys : List ByteArray} {n0 q0 p : Nat} {els : List (Nat × Nat × Int)} {f : Nat} (h : Aq s keys n0 q0 p) (hv : bt s (p : Int) ≠ 91 ∨ AE s s.size p els f) (kf : Nat) (cap : Array Value) (b c kb ko kc : Nat) (kA : Option Addr) (w : World)
    (hQ : Qk b c kb ko kc kA s keys w) (hkf : ∀ (args : Array Value) (W : World), (callFunc kf args).run Tryz.prog W = .ok (.enter kf args) W)
    (hcb : ∀ (v0 v1 v2 v3 : Value) W, Calls Tryz.prog kf (#[v0, v1, v2, v3] ++ cap) W fun e' W' => e' = .returned (.tuple #[]) ∧ Below W.heap.size W W') :
    Calls Tryz.prog 33 #[cfgV, .slice (some ⟨b, 0, none⟩) s.size c, .func (.func kf) #[] cap, .slice kA keys.length kc] w fun e' w' => ((bt s (p : Int) ≠ 91 ∧ ∃ i te pe, e' = .returned (.tuple #[.int .i64 i, .iface te pe]) ∧ w'.cell? ⟨7, 0, none⟩ = some (.iface te pe)) ∨ (bt s (p : Int) = 91 ∧ ∃ i, e' = .returned (.tuple #[.int .i64 i, .nilIface]))) ∧ Below w.heap.size w w' := by
  have hz := hQ.hz
  have hc := hQ.hc
  have hps := h.ps
  have hqp := h.qp
  have hn0 := h.nas
  have HKF := Aside0.mk hkf
  have HCB := Aside0.mk hcb
  have NX : ∀ a x, NT s s.size a x → ∀ W, Tq b s w W → Calls Tryz.prog 48 #[cfgV, .slice (some ⟨b, a, none⟩) (s.size - a) (c - a)] W fun e' w' => e' = .returned (.int .i64 ((x - a : Nat) : Int)) ∧ Below W.heap.size W w' := by
    rintro a x ⟨k, hk⟩ W hW
    exact next_calls hk b (c - a) W (Nat.le_refl _) hz (by omega) hW.text
  have HNX := Aside0.mk NX
  have HBY := Aside0.mk (show ∀ q : Nat, q < s.size → ∀ W, Tq b s w W → W.cell? ⟨b, q, none⟩ = some (.int .u8 (bt s (q : Int))) from fun q hq W hW => hW.text.cell q hq)
  have KS := Aside0.mk (show ∀ W, Tq b s w W → _ from fun W hW => search_all (keys.length + 1) keys (Nat.lt_succ_self _) s s.size 0 (some q0) h.sr (fun hh => by rw [(h.nil hh).1]) b c kb ko kc kA W (Nat.le_refl _) hz (Nat.zero_le _) (by omega) hQ.hks hQ.hkc trivial hQ.hkA hW.glob hW.text (hQ.key.more hW.below))
  rw [show ret 0 (some q0) = (q0 : Int) from rfl, Nat.sub_zero] at KS
  have K0 := Aside0.mk (show ∀ W, Tq b s w W → _ from fun W hW => HNX.out 0 n0 h.nta W hW)
  have K1 := Aside0.mk (show ∀ W, Tq b s w W → _ from fun W hW => HNX.out q0 p h.nt W hW)
  have B0 := Aside0.mk (show ∀ W, Tq b s w W → _ from fun W hW => HBY.out n0 hn0 W hW)
  have B1 := Aside0.mk (show ∀ W, Tq b s w W → _ from fun W hW => HBY.out p hps W hW)
  have HW0 := Aside0.mk (Tq.start hQ.glob hQ.text 72)
  have HN0 := Aside0.mk (show keys.length = 0 → q0 = 0 ∧ n0 = p from fun hh => h.nil (List.eq_nil_of_length_eq_zero hh))
  obtain ⟨n, hn⟩ : ∃ n, s.size = n := ⟨_, rfl⟩
  obtain ⟨N, hN⟩ : ∃ N, keys.length = N := ⟨_, rfl⟩
  obtain ⟨o1, ho1⟩ : ∃ o1, p - q0 = o1 := ⟨_, rfl⟩
  obtain ⟨p5, hp5⟩ : ∃ p5, p + 1 = p5 := ⟨_, rfl⟩
  have HSN := Aside0.mk hn
  rw [hn, hN] at KS
  rw [hN] at HN0
  rw [hn, Nat.sub_zero, Nat.sub_zero, Nat.sub_zero] at K0
  rw [hn, ho1] at K1
  rw [hn, hN]
  rw [hn] at hz hc hps hn0
  have p1 : (q0 : Int) ≤ (n : Int) := by omega
  have p2 : q0 ≤ n := by omega
  have p3 : c ≠ q0 := by omega
  have p4 : (p : Int) < (n : Int) := by omega
  have p6 : ((n : Int) == 0) = false := beq_eq_false_iff_ne.2 (by omega)
  have p6' : (n == 0) = false := beq_eq_false_iff_ne.2 (by omega)
  have p7 : ((n0 : Int) == -1) = false := beq_eq_false_iff_ne.2 (by omega)
  have p8 : (n0 : Int) < (n : Int) := by omega
  have m1 : ((o1 : Int) == -1) = false := beq_eq_false_iff_ne.2 (by omega)
  have m3 : ((q0 : Int) == -1) = false := beq_eq_false_iff_ne.2 (by omega)
  obtain ⟨m2, m4⟩ : IntKind.i64.wrap ((q0 : Int) + (o1 : Int)) = (p : Int) ∧ IntKind.i64.wrap ((p : Int) + 1) = (p5 : Int) := by
    refine ⟨?_, ?_⟩ <;> (rw [IntKind.wrap_i64]; omega)
  have HQ1 := Aside0.mk (And.intro hps (And.intro hz hc))
  have HP5 := Aside0.mk hp5
  clear h hQ hkf hcb NX hn hN ho1 hz hc hqp hp5
  dsimp only [cfgV]
  rcases hv with hne | hae
  · have c1 : (bt s (p : Int) != 91) = true := bne_iff_ne.2 hne
    have HNE := Aside0.mk hne
    obtain ⟨cz, hcz⟩ : ∃ cz, bt s (p : Int) = cz := ⟨_, rfl⟩
    rw [hcz] at c1 B1
    obtain ⟨cy, hcy⟩ : ∃ cy, bt s (n0 : Int) = cy := ⟨_, rfl⟩
    rw [hcy] at B0
    have HC := Aside0.mk (show N = 0 → (cy != 91) = true from fun hh => by have h2 := (HN0.out hh).2; rw [← hcy, h2, hcz]; exact c1)
    clear hne hcz hcy
    go_enter Tryz.func33, Tryz.ntmps33
    have g1 := HW0.out.cfg0
    have g2 := HW0.out.cfg1
    have g3 := HW0.out.cfg2
    by_cases hN : N = 0
    · have c2 := HC.out hN
      obtain ⟨rfl, rfl⟩ := HN0.out hN
      subst hN
      go_wp2_with (go_at_call 48; (with_reducible refine (K0.out _ HW0.out).mono ?_); rintro e' w1 ⟨rfl, HB⟩; have HW1 := Aside0.mk (HW0.out.more HB); have x0 := B0.out _ HW1.out; have ge := HW1.out.glob.e7; clear HB)
      obtain ⟨te, pe, hge⟩ := ge
      go_region
      all_goals (try go_wp2)
      all_goals go_ret2
      all_goals exact ⟨.inl ⟨HNE.out, _, te, pe, rfl, by first | exact hge | simpa using hge⟩, by first | exact HW1.out.below | exact HW1.out.drew.below⟩
    · have n0' : decide ((N : Int) > 0) = true := decide_eq_true (by omega)
      have n1' : decide (0 < N) = true := decide_eq_true (by omega)
      have n2' : ((N : Int) == 0) = false := beq_eq_false_iff_ne.2 (by omega)
      have n3' : (N == 0) = false := beq_eq_false_iff_ne.2 hN
      go_wp2_with (first | (go_at_call 48; (with_reducible refine (K0.out _ HW0.out).mono ?_); rintro e' w1 ⟨rfl, HB⟩; have HW1 := Aside0.mk (HW0.out.more HB); have x0 := B0.out _ HW1.out; have h1_ := HW1.out.cfg0; have h2_ := HW1.out.cfg1; have h3_ := HW1.out.cfg2; clear HB) | (go_at_call 49; (with_reducible refine (KS.out _ HW1.out).mono ?_); rintro e' w2 ⟨rfl, HB⟩; have HW2 := Aside0.mk (HW1.out.more HB); clear HB))
      clear g1 g2 g3
      have g1 := HW2.out.cfg0
      have g2 := HW2.out.cfg1
      have g3 := HW2.out.cfg2
      go_region_held3 (fun w' => w'.cell? ⟨w.heap.size, 0, none⟩ = some (.bool false) ∧ w'.cell? ⟨w.heap.size, 1, none⟩ = some (.bool false) ∧ w'.cell? ⟨w.heap.size, 2, none⟩ = some (.int .i64 0) ∧ Aside0 (Tq b s w w'))
        (first | exact HW2.out.cells | exact HW2.out.drew.cells | exact HW3.out.cells | exact HW3.out.drew.cells)
        (first | (go_at_call 48; (with_reducible refine (K1.out _ HW2.out.drew).mono ?_); rintro e' wq ⟨rfl, HB⟩; have HW3 := Aside0.mk (HW2.out.drew.more HB); clear HB))
      clear g1 g2 g3
      have g1 := HW3.out.cfg0
      have g2 := HW3.out.cfg1
      have g3 := HW3.out.cfg2
      have x1 := B1.out _ HW3.out
      obtain ⟨te, pe, hge⟩ := HW3.out.glob.e7
      go_wp2
      go_region
      all_goals (try go_wp2)
      all_goals go_ret2
      all_goals exact ⟨.inl ⟨HNE.out, _, te, pe, rfl, by first | exact hge | simpa using hge⟩, by first | exact HW3.out.below | exact HW3.out.drew.below⟩
  · obtain ⟨_, _, ho, q, nq, hq1, hq2, hel⟩ := hae
    have HO := Aside0.mk ho
    have HO0 := Aside0.mk (show N = 0 → bt s (n0 : Int) = 91 from fun hh => by rw [(HN0.out hh).2]; exact ho)
    rw [ho] at B1
    obtain ⟨qo, hqo⟩ : ∃ qo, q - (p + 1) = qo := ⟨_, rfl⟩
    have hsn := HSN.out
    have hp5 := HP5.out
    have K2 := Aside0.mk (show ∀ W, Tq b s w W → _ from fun W hW => HNX.out (p + 1) q nq W hW)
    rw [hsn, hqo, hp5] at K2
    have B2 := Aside0.mk (show ∀ W, Tq b s w W → _ from fun W hW => HBY.out q hq2 W hW)
    obtain ⟨hps, hz, hc⟩ := HQ1.out
    rw [hsn] at hq2
    have q1 : (p5 : Int) ≤ (n : Int) := by omega
    have q2 : p5 ≤ n := by omega
    have q3 : c ≠ p5 := by omega
    have q4 : (q : Int) < (n : Int) := by omega
    have q4' : q < n := by omega
    have q5 : ((qo : Int) == -1) = false := beq_eq_false_iff_ne.2 (by omega)
    have q7 : IntKind.i64.wrap ((p5 : Int) + (qo : Int)) = (q : Int) := by
      clear m2 m4
      rw [IntKind.wrap_i64]
      omega
    clear ho nq hsn hqo hp5 hps hz hc hq1
    go_enter Tryz.func33, Tryz.ntmps33
    have g1 := HW0.out.cfg0
    have g2 := HW0.out.cfg1
    have g3 := HW0.out.cfg2
    go_upto_region 6 with (first | (go_at_call 48; (with_reducible refine (K0.out _ HW0.out).mono ?_); rintro e' w1 ⟨rfl, HB⟩; have HW1 := Aside0.mk (HW0.out.more HB); have x0 := B0.out _ HW1.out; have h1_ := HW1.out.cfg0; have h2_ := HW1.out.cfg1; have h3_ := HW1.out.cfg2; clear HB))
    go_cut [37] (fun v37 wc => v37 = .bool false ∧ Aside0 (Tq b s w wc))
    case first =>
      by_cases hN : N = 0
      · have h91 := HO0.out hN
        rw [h91] at x0
        subst hN
        go_wp2
        go_meet
        case rel => exact ⟨by simp, HW1⟩
      · have n2' : ((N : Int) == 0) = false := beq_eq_false_iff_ne.2 (by omega)
        have n3' : (N == 0) = false := beq_eq_false_iff_ne.2 hN
        go_wp2
        go_meet
        case rel => exact ⟨by simp, HW1⟩
    clear x0
    obtain ⟨rfl, HW2⟩ := hcut
    clear g1 g2 g3
    have g1 := HW2.out.cfg0
    have g2 := HW2.out.cfg1
    have g3 := HW2.out.cfg2
    go_upto_if 43 with (fail)
    go_cut [8] (fun v8 wc => v8 = .int .i64 (p5 : Int) ∧ Aside0 (Tq b s w wc))
    case first =>
      by_cases hN : N = 0
      · obtain ⟨rfl, rfl⟩ := HN0.out hN
        subst hN
        go_wp2
        go_meet
        case rel => exact ⟨by first | rfl | exact congrArg (Value.int .i64) m4 | (have h := m4; rw [IntKind.wrap_i64] at h; simp <;> (unfold wrap64 <;> omega)), HW2⟩
      · have n0' : decide ((N : Int) > 0) = true := decide_eq_true (by omega)
        have n1' : decide (0 < N) = true := decide_eq_true (by omega)
        go_wp2_with (first | (go_at_call 49; (with_reducible refine (KS.out _ HW2.out).mono ?_); rintro e' w2 ⟨rfl, HB⟩; have HW3 := Aside0.mk (HW2.out.more HB); clear HB))
        clear g1 g2 g3
        have g1 := HW3.out.cfg0
        have g2 := HW3.out.cfg1
        have g3 := HW3.out.cfg2
        go_region_held3 (fun w' => w'.cell? ⟨w.heap.size, 0, none⟩ = some (.bool false) ∧ w'.cell? ⟨w.heap.size, 1, none⟩ = some (.bool false) ∧ w'.cell? ⟨w.heap.size, 2, none⟩ = some (.int .i64 0) ∧ Aside0 (Tq b s w w'))
          (first | exact HW3.out.cells | exact HW3.out.drew.cells | exact HW4.out.cells | exact HW4.out.drew.cells)
          (first | (go_at_call 48; (with_reducible refine (K1.out _ HW3.out.drew).mono ?_); rintro e' wq ⟨rfl, HB⟩; have HW4 := Aside0.mk (HW3.out.drew.more HB); clear HB))
        clear g1 g2 g3
        have g1 := HW4.out.cfg0
        have g2 := HW4.out.cfg1
        have g3 := HW4.out.cfg2
        have x1 := B1.out _ HW4.out
        go_wp2
        go_meet
        case rel => exact ⟨by first | rfl | exact congrArg (Value.int .i64) m4 | (have h := m4; rw [IntKind.wrap_i64] at h; simp <;> (unfold wrap64 <;> omega)), HW4⟩
    obtain ⟨rfl, HW5⟩ := hcut
    clear g1 g2 g3
    have g1 := HW5.out.cfg0
    have g2 := HW5.out.cfg1
    have g3 := HW5.out.cfg2
    go_wp2
    go_region_held3 (fun w' => w'.cell? ⟨w.heap.size, 0, none⟩ = some (.bool false) ∧ w'.cell? ⟨w.heap.size, 1, none⟩ = some (.bool false) ∧ w'.cell? ⟨w.heap.size, 2, none⟩ = some (.int .i64 0) ∧ Aside0 (Tq b s w w'))
      (first | exact HW5.out.cells | exact HW5.out.drew.cells | exact HW6.out.cells | exact HW6.out.drew.cells)
      (first | (go_at_call 48; (with_reducible refine (K2.out _ HW5.out.drew).mono ?_); rintro e' wq ⟨rfl, HB⟩; have HW6 := Aside0.mk (HW5.out.drew.more HB); clear HB))
    clear g1 g2 g3
    have g1 := HW6.out.cfg0
    have g2 := HW6.out.cfg1
    have g3 := HW6.out.cfg2
    have x2 := B2.out _ HW6.out
    rcases hel with ⟨h93, rfl, rfl⟩ | ⟨h93, hol⟩
    · rw [h93] at x2
      clear h93
      go_wp2
      go_ret2
      exact ⟨.inr ⟨HO.out, _, rfl⟩, HW6.out.below⟩
    · have c93 : (bt s (q : Int) == 93) = false := beq_eq_false_iff_ne.2 h93
      obtain ⟨cz, hcz⟩ : ∃ cz, bt s (q : Int) = cz := ⟨_, rfl⟩
      rw [hcz] at c93 x2
      have HR0 := Aside0.mk (show La b s f q s.size w _ from ⟨HW6.out, ⟨els, hol⟩, by omega⟩)
      clear h93 hcz hol
      go_wp2
      go_loopg [8] s.size (fun gk vo wr => ∃ o : Nat, vo = .int .i64 ((o : Nat) : Int) ∧ Aside0 (La b s f o gk w wr))
      case atStart => exact ⟨q, rfl, HR0⟩
      case round =>
        clear HR0 x2 c93
        obtain ⟨o, rfl, HR⟩ := hrel
        have HR1 := Aside0.mk HR.out.tq
        obtain ⟨r, hr⟩ := HR.out.el
        obtain ⟨x, y, z, kd, hgv, hnz, hyz, hzn, hcase⟩ : ∃ (x y z : Nat) (kd : Int), GV s s.size o x y kd ∧ NT s s.size y z ∧ y ≤ z ∧ z < s.size ∧ (bt s (z : Int) = 93 ∨ (bt s (z : Int) = 44 ∧ ∃ r2, EL s s.size (z + 1) r2 f)) := by
          cases hr with
          | last hg nt yz ze hz => exact ⟨_, _, _, _, hg, nt, yz, ze, .inl hz⟩
          | more hg nt yz ze hz t => exact ⟨_, _, _, _, hg, nt, yz, ze, .inr ⟨hz, _, t⟩⟩
        have ax := hgv.ax
        have xy := hgv.xy
        have ye := hgv.ye
        have hsn := HSN.out
        obtain ⟨hps, hz, hc⟩ := HQ1.out
        obtain ⟨yo, hyo⟩ : ∃ yo, y - o = yo := ⟨_, rfl⟩
        obtain ⟨zo, hzo⟩ : ∃ zo, z - y = zo := ⟨_, rfl⟩
        obtain ⟨vx, vl, hv, hv1, hv2, hv3⟩ := vsl_slice b x y kd
        have K3 := Aside0.mk (show ∀ W, Tq b s w W → _ from fun W hW => cget_calls hgv b (c - o) 0 none W (Nat.le_refl _) (by omega) (by omega) hW.glob hW.text)
        rw [hv, hsn, hyo] at K3
        have K4 := Aside0.mk (show ∀ W, Tq b s w W → _ from fun W hW => HNX.out y z hnz W hW)
        rw [hsn, hzo] at K4
        have B4 := Aside0.mk (show ∀ W, Tq b s w W → _ from fun W hW => HBY.out z hzn W hW)
        have HM := Aside0.mk (show s.size - o ≤ gk ∧ o < z ∧ z < s.size from ⟨HR.out.gk, by omega, hzn⟩)
        rw [hsn] at hzn ye
        have i0 : (o : Int) ≤ (n : Int) := by omega
        have i1 : o ≤ n := by omega
        have i2 : c ≠ o := by omega
        have i3 : ((yo : Int) == 0) = false := beq_eq_false_iff_ne.2 (by omega)
        have i8 : (y : Int) ≤ (n : Int) := by omega
        have i9 : y ≤ n := by omega
        have ia : c ≠ y := by omega
        have ib : ((zo : Int) == -1) = false := beq_eq_false_iff_ne.2 (by omega)
        have ie : (z : Int) < (n : Int) := by omega
        have ie' : z < n := by omega
        obtain ⟨i4, ic⟩ : IntKind.i64.wrap ((o : Int) + (yo : Int)) = (y : Int) ∧ IntKind.i64.wrap ((y : Int) + (zo : Int)) = (z : Int) := by
          clear m2 m4 q7
          refine ⟨?_, ?_⟩ <;> (rw [IntKind.wrap_i64]; omega)
        obtain ⟨z1, hz1⟩ : ∃ z1, z + 1 = z1 := ⟨_, rfl⟩
        have ih : IntKind.i64.wrap ((z : Int) + 1) = (z1 : Int) := by
          clear m2 m4 q7 i4 ic
          rw [IntKind.wrap_i64]
          omega
        have HQ := Aside0.mk (show bt s (z : Int) = 93 ∨ (bt s (z : Int) = 44 ∧ ∃ r2, EL s s.size z1 r2 f) from by rw [← hz1]; exact hcase)
        have HZ1 := Aside0.mk hz1
        clear hcase hgv hnz HR hps hz hc ax xy ye hyo hzo hv hv1 hv2 hv3 hr hyz hzn hz1 hsn
        clear g1 g2 g3
        have g1 := HR1.out.cfg0
        have g2 := HR1.out.cfg1
        have g3 := HR1.out.cfg2
        go_wp2
        go_region_held3 (fun w' => w'.cell? ⟨w.heap.size, 0, none⟩ = some (.bool false) ∧ w'.cell? ⟨w.heap.size, 1, none⟩ = some (.bool false) ∧ w'.cell? ⟨w.heap.size, 2, none⟩ = some (.int .i64 0) ∧ Aside0 (Tq b s w w'))
          (first | exact HR1.out.cells | exact HR1.out.drew.cells | exact HR2.out.cells | exact HR2.out.drew.cells)
          (first | (go_at_call 50; (with_reducible refine (K3.out _ HR1.out.drew).mono ?_); rintro e' wq ⟨rfl, HB⟩; have HR2 := Aside0.mk (HR1.out.drew.more HB); clear HB))
        clear g1 g2 g3
        have g1 := HR2.out.cfg0
        have g2 := HR2.out.cfg1
        have g3 := HR2.out.cfg2
        go_wp2
        rw [HKF.out, Oper.upon_enter]
        refine (HCB.out _ _ _ _ _).mono ?_
        rintro e' w4 ⟨rfl, hB4⟩
        have HR4 := Aside0.mk (HR2.out.more hB4)
        clear hB4
        clear g1 g2 g3
        have g1 := HR4.out.cfg0
        have g2 := HR4.out.cfg1
        have g3 := HR4.out.cfg2
        go_wp2
        go_region_held3 (fun w' => w'.cell? ⟨w.heap.size, 0, none⟩ = some (.bool false) ∧ w'.cell? ⟨w.heap.size, 1, none⟩ = some (.bool false) ∧ w'.cell? ⟨w.heap.size, 2, none⟩ = some (.int .i64 0) ∧ Aside0 (Tq b s w w'))
          (first | exact HR4.out.cells | exact HR4.out.drew.cells | exact HR5.out.cells | exact HR5.out.drew.cells)
          (first | (go_at_call 48; (with_reducible refine (K4.out _ HR4.out.drew).mono ?_); rintro e' wq ⟨rfl, HB⟩; have HR5 := Aside0.mk (HR4.out.drew.more HB); clear HB))
        clear g1 g2 g3
        have g1 := HR5.out.cfg0
        have g2 := HR5.out.cfg1
        have g3 := HR5.out.cfg2
        have x4 := B4.out _ HR5.out
        rcases HQ.out with h93 | ⟨h44, r2, ht⟩
        · rw [h93] at x4
          clear h93
          go_wp2
          go_ret2
          exact ⟨.inr ⟨HO.out, _, rfl⟩, HR5.out.below⟩
        · rw [h44] at x4
          have hlt : z1 < s.size := by
            cases ht with
            | last hg => have := hg.ax; have := hg.xy; have := hg.ye; omega
            | more hg => have := hg.ax; have := hg.xy; have := hg.ye; omega
          have HY := Aside0.mk (show s.size - z1 < gk ∧ La b s f z1 (s.size - z1) w _ from ⟨by have := HM.out; have := HZ1.out; omega, HR5.out, ⟨r2, ht⟩, Nat.le_refl _⟩)
          clear h44 ht hlt
          go_wp2
          go_roundg (s.size - z1)
          case measure => exact HY.out.1
          case rel => exact ⟨z1, by simp, ⟨HY.out.2⟩⟩
end Go.Proofs.YtpdohioobbfncaaGreatDoor.PFnJrEach