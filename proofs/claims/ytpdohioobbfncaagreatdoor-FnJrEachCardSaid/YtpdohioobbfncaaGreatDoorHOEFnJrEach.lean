/- objectEachConfig where keys lead, told by hand: it calls back with each member of an object, and gives an error for what is none; no condition beside those that each theorem states. -/
import Derived.Test.YtpdohioobbfncaaGreatDoorHKYFnJrEach
import Derived.Test.YtpdohioobbfncaaGreatDoorHOAFnJrEach
import Derived.Deep.LoopGhost
import Derived.Deep.DeepCutAuto
namespace Go.Proofs.YtpdohioobbfncaaGreatDoor.PFnJrEach
open Go.RowKit Go.Proofs.YtpdohioobbfncaaGreatDoorW.PrintWords Go.Proofs.YtpdohioobbfncaaGreatDoorW.PrintLast Go.Proofs.YtpdohioobbfncaaGreatDoorW.PrintMore
set_option linter.unusedVariables false
set_option linter.unusedSimpArgs false
/-- With a name's characters. -/
structure Lk (P : Nat → Prop) (I : Nat → World → Prop) (j G k : Nat) (nm : List Int) (w0 W : World) : Prop where
  tj : Tj P I j w0 W
  hd : Hd G k nm W
theorem Lk.more {P : Nat → Prop} {I : Nat → World → Prop} {j G k : Nat} {nm : List Int} {w0 W W' : World} (h : Lk P I j G k nm w0 W) (hI : ∀ j W W', I j W → Below W.heap.size W W' → I j W') (hb : Below W.heap.size W W') : Lk P I j G k nm w0 W' := ⟨h.tj.more hI hb, h.hd.more hb⟩
theorem Lk.drew {P : Nat → Prop} {I : Nat → World → Prop} {j G k : Nat} {nm : List Int} {w0 W : World} (h : Lk P I j G k nm w0 W) (hI : ∀ j W W', I j W → Below W.heap.size W W' → I j W') : Lk P I j G k nm w0 W.drew := h.more hI (Below.refl _ _).drew
theorem Lk.cells {P : Nat → Prop} {I : Nat → World → Prop} {j G k : Nat} {nm : List Int} {w0 W : World} (h : Lk P I j G k nm w0 W) : W.cell? ⟨w0.heap.size, 0, none⟩ = some (.bool false) ∧ W.cell? ⟨w0.heap.size, 1, none⟩ = some (.bool false) ∧ W.cell? ⟨w0.heap.size, 2, none⟩ = some (.int .i64 0) ∧ Aside0 (Lk P I j G k nm w0 W) := ⟨h.tj.te.cfg0, h.tj.te.cfg1, h.tj.te.cfg2, ⟨h⟩⟩
/-- With a new buffer. -/
structure Tb (P : Nat → Prop) (I : Nat → World → Prop) (j g : Nat) (w0 W0 W : World) : Prop where
  t0 : Tj P I j w0 W0
  b : Below W0.heap.size W0 W
  gs : W0.heap.size ≤ g
  ob : Ob g 94 (List.replicate 64 0) W
theorem Tb.tj {P : Nat → Prop} {I : Nat → World → Prop} {j g : Nat} {w0 W0 W : World} (h : Tb P I j g w0 W0 W) (hI : ∀ j W W', I j W → Below W.heap.size W W' → I j W') : Tj P I j w0 W := h.t0.more hI h.b
theorem Tb.drew {P : Nat → Prop} {I : Nat → World → Prop} {j g : Nat} {w0 W0 W : World} (h : Tb P I j g w0 W0 W) : Tb P I j g w0 W0 W.drew := ⟨h.t0, below_then h.b h.b.size (Below.refl _ _).drew, h.gs, h.ob.more (Below.refl _ _).drew⟩
theorem Tb.cells {P : Nat → Prop} {I : Nat → World → Prop} {j g : Nat} {w0 W0 W : World} (h : Tb P I j g w0 W0 W) (hI : ∀ j W W', I j W → Below W.heap.size W W' → I j W') : W.cell? ⟨w0.heap.size, 0, none⟩ = some (.bool false) ∧ W.cell? ⟨w0.heap.size, 1, none⟩ = some (.bool false) ∧ W.cell? ⟨w0.heap.size, 2, none⟩ = some (.int .i64 0) ∧ Aside0 (Tb P I j g w0 W0 W) := ⟨(h.tj hI).te.cfg0, (h.tj hI).te.cfg1, (h.tj hI).te.cfg2, ⟨h⟩⟩
theorem Tb.start {P : Nat → Prop} {I : Nat → World → Prop} {j : Nat} {w0 W : World} (h : Tj P I j w0 W) : Tb P I j W.heap.size w0 W (W.alloc (.cells (nums .u8 (List.replicate 64 0)).toArray 94)) :=
  ⟨h, below_alloc_ _ _, Nat.le_refl _, ⟨heap_alloc_new W (.cells (nums .u8 (List.replicate 64 0)).toArray 94)⟩⟩
/-- unescapeConfig into a new buffer. -/
theorem Tb.unesc {P : Nat → Prop} {I : Nat → World → Prop} {j g : Nat} {w0 W0 W : World} {s : ByteArray} {b : Nat} (h : Tb P I j g w0 W0 W) (hI : ∀ j W W', I j W → Below W.heap.size W W' → I j W') (hGT : ∀ W, Bes P w0 W → Glob W ∧ Tx b s W) (hb : b < w0.heap.size) (hz : s.size ≤ 2147483647) {o1 q1 : Nat} (hq : q1 ≤ s.size) {nm : List Int} (hU : Un (win s o1 q1) nm) (h92 : 92 ∈ win s o1 q1) (c : Nat) (hc : q1 - o1 ≤ c) :
    Calls Tryz.prog 54 #[cfgV, .slice (some ⟨b, o1, none⟩) (q1 - o1) c, .slice (some ⟨g, 0, none⟩) 64 64] W fun e' w' => ∃ G cp, e' = .returned (.tuple #[.slice (some ⟨G, 0, none⟩) nm.length cp, .nilIface]) ∧ Lk P I j G 0 nm w0 w' := by
  have hlt := h.t0.te.lt
  have hg := h.gs
  have hs := h.b.size
  have go : ∀ W', Bes (fun k => k = g) W W' → Below W0.heap.size W0 W' := fun W' hB => h.b.trans (hB.below hs (fun k hk => by omega))
  have hT := hGT W (h.tj hI).te.bes
  refine (unesc_calls (win s o1 q1) nm hU b o1 (q1 - o1) c (win_len _ _ _) hc (by omega) (win_rng _ _ _) h92 g (List.replicate 64 0) List.length_replicate (by omega) W (fun W' hB => (hGT W' ((h.t0.more hI (go W' hB)).te.bes)).1) (hT.2.hd o1 q1 hq) h.ob).mono ?_
  rintro e' w' ⟨G, cp, rfl, _, h1, _, h2⟩
  exact ⟨G, cp, rfl, h.t0.more hI (go w' h2), h1⟩
/-- Where the walk over the members stands. -/
structure Lo (s : ByteArray) (els : List OM) (f : Nat) (P : Nat → Prop) (I : Nat → World → Prop) (o j gk : Nat) (w0 W : World) : Prop where
  tj : Tj P I j w0 W
  ol : ∃ r, els.drop j = r ∧ OL s s.size o r f
  gk : s.size - o ≤ gk
theorem Lo.split {s : ByteArray} {els : List OM} {f : Nat} {P : Nat → Prop} {I : Nat → World → Prop} {o j gk : Nat} {w0 W : World} (h : Lo s els f P I o j gk w0 W) :
    ∃ (hj : j < els.length), OMs s s.size els[j] ∧ els[j].p = o ∧ ∃ z, NT s s.size els[j].y z ∧ els[j].y ≤ z ∧ z < s.size ∧ ((bt s (z : Int) = 125 ∧ j + 1 = els.length) ∨ (bt s (z : Int) = 44 ∧ ∃ p2, NT s s.size (z + 1) p2 ∧ z + 1 ≤ p2 ∧ p2 < s.size ∧ ∃ r, els.drop (j + 1) = r ∧ OL s s.size p2 r f)) := by
  obtain ⟨r, hr, hol⟩ := h.ol
  have key : ∀ (q : OM) (r2 : List OM), r = q :: r2 → ∃ hj : j < els.length, els[j] = q ∧ els.drop (j + 1) = r2 := by
    rintro q r2 rfl
    have hj : j < els.length := by
      apply Nat.lt_of_not_le
      intro hle
      rw [List.drop_eq_nil_of_le hle] at hr
      cases hr
    rw [List.drop_eq_getElem_cons hj] at hr
    exact ⟨hj, (List.cons.inj hr).1, (List.cons.inj hr).2⟩
  cases hol with
  | last hm nt yz ze hz =>
    obtain ⟨hj, h1, h2⟩ := key _ _ rfl
    refine ⟨hj, h1 ▸ hm, by rw [h1], _, h1 ▸ nt, h1 ▸ yz, ze, .inl ⟨hz, ?_⟩⟩
    have := congrArg List.length h2
    rw [List.length_drop] at this
    simp at this
    omega
  | more hm nt yz ze hz n2 zp t =>
    obtain ⟨hj, h1, h2⟩ := key _ _ rfl
    refine ⟨hj, h1 ▸ hm, by rw [h1], _, h1 ▸ nt, h1 ▸ yz, ze, .inr ⟨hz, _, n2, zp, ?_, _, h2, t⟩⟩
    cases t with
    | last hm2 => have := hm2.st.pq; have := hm2.st.qt; have := hm2.st.te; omega
    | more hm2 => have := hm2.st.pq; have := hm2.st.qt; have := hm2.st.te; omega
/-- What is asked at a call of objectEachConfig. -/
structure Oq (s : ByteArray) (keys : List ByteArray) (q0 p : Nat) (els : List OM) (f : Nat) : Prop where
  sr : SR s s.size keys 0 0 0 true (some q0)
  nil : keys = [] → q0 = 0
  nt : NT s s.size q0 p
  qp : q0 ≤ p
  ps : p < s.size
  val : bt s (p : Int) ≠ 123 ∨ OE s s.size p els f
set_option maxHeartbeats 8000000 in
set_option maxRecDepth 100000 in
theorem oeach_calls {s : ByteArray} {keys : List ByteArray} {q0 p : Nat} {els : List OM} {f : Nat} (h : Oq s keys q0 p els f) (kf : Nat) (cap : Array Value) (b c kb ko kc : Nat) (kA : Option Addr) (w : World) (P : Nat → Prop) (I : Nat → World → Prop)
    (hQ : Qk b c kb ko kc kA s keys w) (hkf : ∀ (args : Array Value) (W : World), (callFunc kf args).run Tryz.prog W = .ok (.enter kf args) W) (hP : ¬ P w.heap.size) (hGT : ∀ W, Bes P w W → Glob W ∧ Tx b s W)
    (hIB : ∀ j W W', I j W → Below W.heap.size W W' → I j W') (h0 : I 0 w)
    (hcb : ∀ j (hj : j < els.length) (G k cp : Nat) W, I j W → Bes P w W → w.heap.size < W.heap.size → Hd G k els[j].nm W → Calls Tryz.prog kf (#[.slice (some ⟨G, k, none⟩) els[j].nm.length cp, vsl b els[j].x els[j].y els[j].kd, .int .i64 els[j].kd, .int .i64 (els[j].y : Int)] ++ cap) W fun e' W' => e' = .returned .nilIface ∧ I (j + 1) W' ∧ Bes P W W') :
    Calls Tryz.prog 38 #[cfgV, .slice (some ⟨b, 0, none⟩) s.size c, .func (.func kf) #[] cap, .slice kA keys.length kc] w fun e' w' => ((bt s (p : Int) ≠ 123 ∧ (∃ te pe, e' = .returned (.iface te pe) ∧ w'.cell? ⟨8, 0, none⟩ = some (.iface te pe)) ∧ I 0 w') ∨ (bt s (p : Int) = 123 ∧ e' = .returned .nilIface ∧ I els.length w')) ∧ Bes P w w' := by
  have hz := hQ.hz
  have hc := hQ.hc
  have hps := h.ps
  have hqp := h.qp
  have hbw : b < w.heap.size := World.block_lt_of_cell? w _ (hQ.text.cell p hps)
  have HT := Aside0.mk hGT
  have HP := Aside0.mk hP
  have HKF := Aside0.mk hkf
  have HIB := Aside0.mk hIB
  have HCB := Aside0.mk hcb
  have HZ := Aside0.mk (And.intro hz (And.intro hc hbw))
  have NX : ∀ a x, NT s s.size a x → ∀ W, Te P w W → Calls Tryz.prog 48 #[cfgV, .slice (some ⟨b, a, none⟩) (s.size - a) (c - a)] W fun e' w' => e' = .returned (.int .i64 ((x - a : Nat) : Int)) ∧ Below W.heap.size W w' := by
    rintro a x ⟨k, hk⟩ W hW
    exact next_calls hk b (c - a) W (Nat.le_refl _) hz (by omega) (HT.out W hW.bes).2
  have HNX := Aside0.mk NX
  have HBY := Aside0.mk (show ∀ q : Nat, q < s.size → ∀ W, Te P w W → W.cell? ⟨b, q, none⟩ = some (.int .u8 (bt s (q : Int))) from fun q hq W hW => (HT.out W hW.bes).2.cell q hq)
  have KS := Aside0.mk (show ∀ W, Below w.heap.size w W → _ from fun W hW => search_all (keys.length + 1) keys (Nat.lt_succ_self _) s s.size 0 (some q0) h.sr (fun hh => by rw [h.nil hh]) b c kb ko kc kA W (Nat.le_refl _) hz (Nat.zero_le _) (by omega) hQ.hks hQ.hkc trivial hQ.hkA (hQ.glob.below hW) (hQ.text.more hW) (hQ.key.more hW))
  rw [show ret 0 (some q0) = (q0 : Int) from rfl, Nat.sub_zero] at KS
  have K1 := Aside0.mk (show ∀ W, Te P w W → _ from fun W hW => HNX.out q0 p h.nt W hW)
  have B1 := Aside0.mk (show ∀ W, Te P w W → _ from fun W hW => HBY.out p hps W hW)
  have HW0 := Aside0.mk (show Tj P I 0 w (w.alloc (.cells #[.bool false, .bool false, .int .i64 0] 72)) from ⟨Te.start P w _, hIB 0 _ _ h0 (below_alloc_ _ _)⟩)
  have HV := Aside0.mk h.val
  have HN0 := Aside0.mk (show keys.length = 0 → q0 = 0 from fun hh => h.nil (List.eq_nil_of_length_eq_zero hh))
  obtain ⟨n, hn⟩ : ∃ n, s.size = n := ⟨_, rfl⟩
  obtain ⟨N, hN⟩ : ∃ N, keys.length = N := ⟨_, rfl⟩
  obtain ⟨o1, ho1⟩ : ∃ o1, p - q0 = o1 := ⟨_, rfl⟩
  have HSN := Aside0.mk hn
  rw [hn, hN] at KS
  rw [hN] at HN0
  rw [hn, ho1] at K1
  rw [hn, hN]
  rw [hn] at hz hc hps
  have p1 : (q0 : Int) ≤ (n : Int) := by omega
  have p2 : q0 ≤ n := by omega
  have p3 : c ≠ q0 := by omega
  have p4 : (p : Int) < (n : Int) := by omega
  have m1 : ((o1 : Int) == -1) = false := beq_eq_false_iff_ne.2 (by omega)
  have m2 : IntKind.i64.wrap ((q0 : Int) + (o1 : Int)) = (p : Int) := by rw [IntKind.wrap_i64]; omega
  have m3 : ((q0 : Int) == -1) = false := beq_eq_false_iff_ne.2 (by omega)
  have HQ1 := Aside0.mk (And.intro hps (And.intro hz hc))
  clear h hQ hkf hP hGT hIB h0 hcb NX hn hN ho1 hbw hz hc hqp
  dsimp only [cfgV]
  go_enter Tryz.func38, Tryz.ntmps38
  go_upto_if 31 with (fail)
  go_cut [9] (fun v9 wc => v9 = .int .i64 (q0 : Int) ∧ Aside0 (Tj P I 0 w wc))
  case first =>
    have g1 := HW0.out.te.cfg0
    have g2 := HW0.out.te.cfg1
    have g3 := HW0.out.te.cfg2
    by_cases hN : N = 0
    · obtain rfl := HN0.out hN
      subst hN
      go_wp2
      go_meet
      case rel => exact ⟨by simp, HW0⟩
    · have n0 : decide ((N : Int) > 0) = true := decide_eq_true (by omega)
      have n0' : decide (0 < N) = true := decide_eq_true (by omega)
      go_wp2_with (go_at_call 49; (with_reducible refine (KS.out _ (below_alloc_ _ _)).mono ?_); rintro e' w1 ⟨rfl, HB⟩; have HW1 := Aside0.mk (HW0.out.more HIB.out HB); clear HB)
      go_meet
      case rel => exact ⟨rfl, HW1⟩
  clear HW0 KS HN0
  obtain ⟨rfl, HW0⟩ := hcut
  have g1 := HW0.out.te.cfg0
  have g2 := HW0.out.te.cfg1
  have g3 := HW0.out.te.cfg2
  go_wp2
  go_region_held3 (fun w' => w'.cell? ⟨w.heap.size, 0, none⟩ = some (.bool false) ∧ w'.cell? ⟨w.heap.size, 1, none⟩ = some (.bool false) ∧ w'.cell? ⟨w.heap.size, 2, none⟩ = some (.int .i64 0) ∧ Aside0 (Tj P I 0 w w'))
    (first | exact HW0.out.cells | exact (HW0.out.drew HIB.out).cells | exact HW1.out.cells | exact (HW1.out.drew HIB.out).cells)
    (first | (go_at_call 48; (with_reducible refine (K1.out _ (HW0.out.drew HIB.out).te).mono ?_); rintro e' w1 ⟨rfl, HB⟩; have HW1 := Aside0.mk ((HW0.out.drew HIB.out).more HIB.out HB); clear HB))
  clear g1 g2 g3 HW0
  have g1 := HW1.out.te.cfg0
  have g2 := HW1.out.te.cfg1
  have g3 := HW1.out.te.cfg2
  have x1 := B1.out _ HW1.out.te
  rcases HV.out with hne | hoe
  · have c1 : (bt s (p : Int) != 123) = true := bne_iff_ne.2 hne
    obtain ⟨cz, hcz⟩ : ∃ cz, bt s (p : Int) = cz := ⟨_, rfl⟩
    rw [hcz] at x1 c1
    obtain ⟨te, pe, ge⟩ := (HT.out _ HW1.out.te.bes).1.e8
    have HNE := Aside0.mk hne
    clear hne hcz
    go_wp2
    go_ret
    exact ⟨.inl ⟨HNE.out, ⟨te, pe, rfl, ge⟩, HW1.out.inv⟩, HW1.out.te.bes⟩
  · obtain ⟨_, _, ho, q, nq, hq1, hq2, hel⟩ := hoe
    have HO := Aside0.mk ho
    rw [ho] at x1
    obtain ⟨qo, hqo⟩ : ∃ qo, q - (p + 1) = qo := ⟨_, rfl⟩
    obtain ⟨p5, hp5⟩ : ∃ p5, p + 1 = p5 := ⟨_, rfl⟩
    have hsn := HSN.out
    have K2 := Aside0.mk (show ∀ W, Te P w W → _ from fun W hW => HNX.out (p + 1) q nq W hW)
    rw [hsn, hqo, hp5] at K2
    have B2 := Aside0.mk (show ∀ W, Te P w W → _ from fun W hW => HBY.out q hq2 W hW)
    obtain ⟨hps, hz, hc⟩ := HQ1.out
    rw [hsn] at hq2
    have q1 : (p5 : Int) ≤ (n : Int) := by omega
    have q2 : p5 ≤ n := by omega
    have q3 : c ≠ p5 := by omega
    have q4 : (q : Int) < (n : Int) := by omega
    have q4' : q < n := by omega
    have q5 : ((qo : Int) == -1) = false := beq_eq_false_iff_ne.2 (by omega)
    obtain ⟨q6, q7⟩ : IntKind.i64.wrap ((p : Int) + 1) = (p5 : Int) ∧ IntKind.i64.wrap ((p5 : Int) + (qo : Int)) = (q : Int) := by
      refine ⟨?_, ?_⟩ <;> (rw [IntKind.wrap_i64]; omega)
    clear ho nq hsn hqo hp5 hps hz hc hq1 m3 p1 p2 p3 K1 B1 HV
    go_wp2
    go_region_held3 (fun w' => w'.cell? ⟨w.heap.size, 0, none⟩ = some (.bool false) ∧ w'.cell? ⟨w.heap.size, 1, none⟩ = some (.bool false) ∧ w'.cell? ⟨w.heap.size, 2, none⟩ = some (.int .i64 0) ∧ Aside0 (Tj P I 0 w w'))
      (first | exact HW1.out.cells | exact (HW1.out.drew HIB.out).cells | exact HW2.out.cells | exact (HW2.out.drew HIB.out).cells)
      (first | (go_at_call 48; (with_reducible refine (K2.out _ (HW1.out.drew HIB.out).te).mono ?_); rintro e' w2 ⟨rfl, HB⟩; have HW2 := Aside0.mk ((HW1.out.drew HIB.out).more HIB.out HB); clear HB))
    clear g1 g2 g3 x1 p4 HW1 m1 m2
    have g1 := HW2.out.te.cfg0
    have g2 := HW2.out.te.cfg1
    have g3 := HW2.out.te.cfg2
    have x2 := B2.out _ HW2.out.te
    rcases hel with ⟨h125, rfl, rfl⟩ | hol
    · rw [h125] at x2
      clear h125
      go_wp2
      go_ret
      exact ⟨.inr ⟨HO.out, rfl, HW2.out.inv⟩, HW2.out.te.bes⟩
    · have h34 : bt s (q : Int) = 34 := by
        cases hol with
        | last h => exact h.st.c
        | more h => exact h.st.c
      rw [h34] at x2
      clear h34
      have HR0 := Aside0.mk (show Lo s els f P I q 0 s.size w w2 from ⟨HW2.out, ⟨els, rfl, hol⟩, by omega⟩)
      clear hol
      go_wp2
      go_loopg [9] s.size (fun gk vo wr => ∃ o j : Nat, vo = .int .i64 ((o : Nat) : Int) ∧ Aside0 (Lo s els f P I o j gk w wr))
      case atStart => exact ⟨q, 0, rfl, HR0⟩
      case round =>
        clear HR0 HW2 K2 B2 q1 q2 q3 q4 q4' q5 q6 q7 g1 g2 g3 x2 hq2
        obtain ⟨o, j, rfl, HR⟩ := hrel
        obtain ⟨hj, hm, hmo, z, hnz, hyz, hzn, hcase⟩ := HR.out.split
        have K7 := Aside0.mk (show ∀ (G k cp : Nat) W, Tj P I j w W → Hd G k els[j].nm W → _ from fun G k cp W hW hH => HCB.out j hj G k cp W hW.inv hW.te.bes hW.te.lt hH)
        obtain ⟨hst, hcol, hnms, hgv⟩ := hm
        obtain ⟨m, hmj⟩ : ∃ m, els[j] = m := ⟨_, rfl⟩
        rw [hmj] at K7 hst hcol hnms hgv hmo hnz hyz
        obtain ⟨mp, mq, mt, es, nm, x, y, kd⟩ := m
        dsimp only at K7 hst hcol hnms hgv hmo hnz hyz
        subst hmo
        clear hmj
        obtain ⟨hz, hc, hbw⟩ := HZ.out
        have hsn := HSN.out
        obtain ⟨ke, hke⟩ := hst.se
        have pq := hst.pq
        have qt := hst.qt
        have te := hst.te
        have ax := hgv.ax
        have xy := hgv.xy
        have ye := hgv.ye
        obtain ⟨o1, ho1⟩ : ∃ o1, mp + 1 = o1 := ⟨_, rfl⟩
        obtain ⟨q1, hq1⟩ : ∃ q1, mq - 1 = q1 := ⟨_, rfl⟩
        obtain ⟨u, hu⟩ : ∃ u, mq - o1 = u := ⟨_, rfl⟩
        obtain ⟨v, hv⟩ : ∃ v, mt - mq = v := ⟨_, rfl⟩
        obtain ⟨t1, ht1⟩ : ∃ t1, mt + 1 = t1 := ⟨_, rfl⟩
        obtain ⟨yy, hyy⟩ : ∃ yy, y - t1 = yy := ⟨_, rfl⟩
        obtain ⟨zz, hzz⟩ : ∃ zz, z - y = zz := ⟨_, rfl⟩
        obtain ⟨ml, hml⟩ : ∃ ml, nm.length = ml := ⟨_, rfl⟩
        obtain ⟨vv, hvv⟩ : ∃ vv, vsl b x y kd = vv := ⟨_, rfl⟩
        rw [hml, hvv] at K7
        have K3 := Aside0.mk (show ∀ W, Tj P I j w W → _ from fun W hW => sEC_.calls ke false false 0 (some ⟨b, mp + 1, none⟩) (c - (mp + 1)) (win s (mp + 1) s.size) 34 ((mq - (mp + 1) : Nat) : Int) es W (((HT.out W hW.te.bes).2.hd (mp + 1) s.size (Nat.le_refl _)).reads (by rw [win_len]; omega)) (by rw [win_len]; omega) hke (HT.out W hW.te.bes).1)
        rw [win_len, hsn, ho1, hu] at K3
        have K5 := Aside0.mk (show ∀ W, Te P w W → _ from fun W hW => HNX.out mq mt hst.nt W hW)
        rw [hsn, hv] at K5
        have B5 := Aside0.mk (show ∀ W, Te P w W → _ from fun W hW => HBY.out mt te W hW)
        rw [hcol] at B5
        have B3 := Aside0.mk (show ∀ W, Te P w W → _ from fun W hW => HBY.out mp (by omega) W hW)
        rw [hst.c] at B3
        have K6 := Aside0.mk (show ∀ W, Te P w W → _ from fun W hW => cget_calls hgv b (c - (mt + 1)) 0 none W (Nat.le_refl _) hz (by omega) (HT.out W hW.bes).1 (HT.out W hW.bes).2)
        rw [hsn, ht1, hyy, hvv] at K6
        have K8 := Aside0.mk (show ∀ W, Te P w W → _ from fun W hW => HNX.out y z hnz W hW)
        rw [hsn, hzz] at K8
        have B8 := Aside0.mk (show ∀ W, Te P w W → _ from fun W hW => HBY.out z hzn W hW)
        have KN := Aside0.mk (show ∀ W, Tj P I j w W → es = false → ml = q1 - o1 ∧ Hd b o1 nm W from fun W hW he => by
          have hn : nm = win s o1 q1 := by
            unfold NMs at hnms
            rw [he, if_neg Bool.false_ne_true, ho1, hq1] at hnms
            exact hnms
          have := win_len s o1 q1
          refine ⟨by rw [← hml, hn]; exact this, ?_⟩
          rw [hn]
          exact (HT.out W hW.te.bes).2.hd o1 q1 (by omega))
        have KU := Aside0.mk (show ∀ (g : Nat) (W0 W : World), Tb P I j g w W0 W → es = true → _ from fun g W0 W hW he => hW.unesc HIB.out HT.out hbw hz (o1 := o1) (q1 := q1) (by omega) (nm := nm) (by unfold NMs at hnms; rw [he, if_pos rfl, ho1, hq1] at hnms; exact hnms.2) (by unfold NMs at hnms; rw [he, if_pos rfl, ho1, hq1] at hnms; exact hnms.1) (c - o1) (by omega))
        rw [hml] at KU
        have HQ := Aside0.mk (show (bt s (z : Int) = 125 ∧ j + 1 = els.length) ∨ (bt s (z : Int) = 44 ∧ ∃ z1 pp p2, z + 1 = z1 ∧ p2 - z1 = pp ∧ z1 ≤ p2 ∧ p2 < n ∧ NT s s.size z1 p2 ∧ ∀ W, Tj P I (j + 1) w W → Lo s els f P I p2 (j + 1) (s.size - p2) w W) from by
          rcases hcase with h | ⟨h44, p2, n2, zp, ps2, r, hr, hol⟩
          · exact .inl h
          · exact .inr ⟨h44, z + 1, p2 - (z + 1), p2, rfl, rfl, zp, by omega, n2, fun W hW => ⟨hW, ⟨r, hr, hol⟩, Nat.le_refl _⟩⟩)
        have HM := Aside0.mk (show s.size - mp ≤ gk ∧ mp < z ∧ z < s.size from ⟨HR.out.gk, by omega, hzn⟩)
        have HR1 := Aside0.mk HR.out.tj
        have a1 : (o1 : Int) ≤ (n : Int) := by omega
        have a1' : o1 ≤ n := by omega
        have a2 : c ≠ o1 := by omega
        have a3 : (mp : Int) < (n : Int) := by omega
        have a3' : mp < n := by omega
        have a4 : ((u : Int) == -1) = false := beq_eq_false_iff_ne.2 (by omega)
        have a5 : (o1 : Int) ≤ (q1 : Int) := by omega
        have a5' : o1 ≤ q1 := by omega
        have a6 : (q1 : Int) ≤ (c : Int) := by omega
        have a6' : q1 ≤ c := by omega
        have a7 : (mq : Int) ≤ (n : Int) := by omega
        have a7' : mq ≤ n := by omega
        have a8 : c ≠ mq := by omega
        have a9 : ((v : Int) == -1) = false := beq_eq_false_iff_ne.2 (by omega)
        have b1 : (mt : Int) < (n : Int) := by omega
        have b1' : mt < n := by omega
        have b2 : (t1 : Int) ≤ (n : Int) := by omega
        have b2' : t1 ≤ n := by omega
        have b3 : c ≠ t1 := by omega
        have b4 : (y : Int) ≤ (n : Int) := by omega
        have b4' : y ≤ n := by omega
        have b5 : c ≠ y := by omega
        have b6 : ((zz : Int) == -1) = false := beq_eq_false_iff_ne.2 (by omega)
        have b7 : (z : Int) < (n : Int) := by omega
        have b7' : z < n := by omega
        obtain ⟨wa1, wa2, wa3, wa4⟩ : IntKind.i64.wrap ((mp : Int) + 1) = (o1 : Int) ∧ IntKind.i64.wrap ((o1 : Int) - 1) = (mp : Int) ∧ IntKind.i64.wrap ((o1 : Int) + (u : Int)) = (mq : Int) ∧ IntKind.i64.wrap ((mq : Int) - 1) = (q1 : Int) := by
          refine ⟨?_, ?_, ?_, ?_⟩ <;> (rw [IntKind.wrap_i64]; omega)
        obtain ⟨wb1, wb2, wb3, wb4⟩ : IntKind.i64.wrap ((mq : Int) + (v : Int)) = (mt : Int) ∧ IntKind.i64.wrap ((mt : Int) + 1) = (t1 : Int) ∧ IntKind.i64.wrap ((t1 : Int) + (yy : Int)) = (y : Int) ∧ IntKind.i64.wrap ((y : Int) + (zz : Int)) = (z : Int) := by
          clear wa1 wa2 wa3 wa4
          refine ⟨?_, ?_, ?_, ?_⟩ <;> (rw [IntKind.wrap_i64]; omega)
        clear hst hcol hnms hgv hnz hyz hzn hcase HR hz hc hbw hke pq qt te ax xy ye ho1 hq1 hu hv ht1 hyy hzz hml hvv hsn
        have x3 := B3.out _ HR1.out.te
        have g1 := HR1.out.te.cfg0
        have g2 := HR1.out.te.cfg1
        have g3 := HR1.out.te.cfg2
        go_wp2
        go_region_held3 (fun w' => w'.cell? ⟨w.heap.size, 0, none⟩ = some (.bool false) ∧ w'.cell? ⟨w.heap.size, 1, none⟩ = some (.bool false) ∧ w'.cell? ⟨w.heap.size, 2, none⟩ = some (.int .i64 0) ∧ Aside0 (Tj P I j w w'))
          (first | exact HR1.out.cells | exact (HR1.out.drew HIB.out).cells | exact HR2.out.cells | exact (HR2.out.drew HIB.out).cells)
          (first | (go_at_call 53; (with_reducible refine (K3.out _ (HR1.out.drew HIB.out)).mono ?_); rintro e' w3 ⟨rfl, HB⟩; have HR2 := Aside0.mk ((HR1.out.drew HIB.out).more HIB.out HB); clear HB))
        clear g1 g2 g3 x3 HR1
        have g1 := HR2.out.te.cfg0
        have g2 := HR2.out.te.cfg1
        have g3 := HR2.out.te.cfg2
        go_upto_if 122 with (fail)
        go_cut [13] (fun v13 wc => ∃ G k cp, v13 = .slice (some ⟨G, k, none⟩) ml cp ∧ Aside0 (Lk P I j G k nm w wc))
        case first =>
          cases es with
          | false =>
            have hk := KN.out _ HR2.out (by first | rfl | trivial)
            go_wp2
            go_meet
            case rel => exact ⟨b, o1, _, by rw [hk.1], ⟨⟨HR2.out, hk.2⟩⟩⟩
          | true =>
            have hst := fun (W : World) (g : Nat) => stack_slice W g
            have HB0 := Aside0.mk (Tb.start HR2.out)
            go_wp2
            clear g1 g2 g3
            have g1 := (HB0.out.tj HIB.out).te.cfg0
            have g2 := (HB0.out.tj HIB.out).te.cfg1
            have g3 := (HB0.out.tj HIB.out).te.cfg2
            go_region_held3 (fun w' => w'.cell? ⟨w.heap.size, 0, none⟩ = some (.bool false) ∧ w'.cell? ⟨w.heap.size, 1, none⟩ = some (.bool false) ∧ w'.cell? ⟨w.heap.size, 2, none⟩ = some (.int .i64 0) ∧ Aside0 (Tj P I j w w'))
              (first | exact (HB0.out.tj HIB.out).cells | exact (HB0.out.drew.tj HIB.out).cells | exact HB1.out.tj.cells | exact (HB1.out.drew HIB.out).tj.cells)
              (first | (go_at_call 54; (refine (KU.out _ _ _ HB0.out.drew (by first | rfl | trivial)).mono ?_); rintro e' w4 ⟨G, cp, rfl, hLk⟩; have HB1 := Aside0.mk hLk; clear hLk))
            clear g1 g2 g3
            have g1 := HB1.out.tj.te.cfg0
            have g2 := HB1.out.tj.te.cfg1
            have g3 := HB1.out.tj.te.cfg2
            go_wp2
            go_meet
            case rel => exact ⟨G, 0, cp, rfl, HB1⟩
        clear KN KU K3 B3 a1 a1' a2 a3 a3' a4 a5 a5' a6 a6' wa1 wa2 wa3 wa4
        obtain ⟨G, k, cp, rfl, HL0⟩ := hcut
        have g1 := HL0.out.tj.te.cfg0
        have g2 := HL0.out.tj.te.cfg1
        have g3 := HL0.out.tj.te.cfg2
        go_wp2
        go_region_held3 (fun w' => w'.cell? ⟨w.heap.size, 0, none⟩ = some (.bool false) ∧ w'.cell? ⟨w.heap.size, 1, none⟩ = some (.bool false) ∧ w'.cell? ⟨w.heap.size, 2, none⟩ = some (.int .i64 0) ∧ Aside0 (Lk P I j G k nm w w'))
          (first | exact HL0.out.cells | exact (HL0.out.drew HIB.out).cells | exact HL1.out.cells | exact (HL1.out.drew HIB.out).cells)
          (first | (go_at_call 48; (with_reducible refine (K5.out _ (HL0.out.drew HIB.out).tj.te).mono ?_); rintro e' w4 ⟨rfl, HB⟩; have HL1 := Aside0.mk ((HL0.out.drew HIB.out).more HIB.out HB); clear HB))
        clear g1 g2 g3
        have g1 := HL1.out.tj.te.cfg0
        have g2 := HL1.out.tj.te.cfg1
        have g3 := HL1.out.tj.te.cfg2
        have x5 := B5.out _ HL1.out.tj.te
        go_wp2
        go_region_held3 (fun w' => w'.cell? ⟨w.heap.size, 0, none⟩ = some (.bool false) ∧ w'.cell? ⟨w.heap.size, 1, none⟩ = some (.bool false) ∧ w'.cell? ⟨w.heap.size, 2, none⟩ = some (.int .i64 0) ∧ Aside0 (Lk P I j G k nm w w'))
          (first | exact HL1.out.cells | exact (HL1.out.drew HIB.out).cells | exact HL2.out.cells | exact (HL2.out.drew HIB.out).cells)
          (first | (go_at_call 50; (with_reducible refine (K6.out _ (HL1.out.drew HIB.out).tj.te).mono ?_); rintro e' w5 ⟨rfl, HB⟩; have HL2 := Aside0.mk ((HL1.out.drew HIB.out).more HIB.out HB); clear HB))
        clear x5
        clear g1 g2 g3
        have g1 := HL2.out.tj.te.cfg0
        have g2 := HL2.out.tj.te.cfg1
        have g3 := HL2.out.tj.te.cfg2
        go_wp2
        rw [HKF.out, Oper.upon_enter]
        refine (K7.out G k cp _ HL2.out.tj HL2.out.hd).mono ?_
        rintro e' w6 ⟨rfl, hI, hB⟩
        have HR3 := Aside0.mk (show Tj P I (j + 1) w w6 from ⟨HL2.out.tj.te.beside HP.out hB, hI⟩)
        clear hI hB HL0 HL1 HL2
        clear g1 g2 g3
        have g1 := HR3.out.te.cfg0
        have g2 := HR3.out.te.cfg1
        have g3 := HR3.out.te.cfg2
        go_wp2
        go_region_held3 (fun w' => w'.cell? ⟨w.heap.size, 0, none⟩ = some (.bool false) ∧ w'.cell? ⟨w.heap.size, 1, none⟩ = some (.bool false) ∧ w'.cell? ⟨w.heap.size, 2, none⟩ = some (.int .i64 0) ∧ Aside0 (Tj P I (j + 1) w w'))
          (first | exact HR3.out.cells | exact (HR3.out.drew HIB.out).cells | exact HR4.out.cells | exact (HR4.out.drew HIB.out).cells)
          (first | (go_at_call 48; (with_reducible refine (K8.out _ (HR3.out.drew HIB.out).te).mono ?_); rintro e' w7 ⟨rfl, HB⟩; have HR4 := Aside0.mk ((HR3.out.drew HIB.out).more HIB.out HB); clear HB))
        clear g1 g2 g3
        have g1 := HR4.out.te.cfg0
        have g2 := HR4.out.te.cfg1
        have g3 := HR4.out.te.cfg2
        have x8 := B8.out _ HR4.out.te
        rcases HQ.out with ⟨h125, hjl⟩ | ⟨h44, z1, pp, p2, hz1, hpp, hzp, hp2, hnt, hlo⟩
        · rw [h125] at x8
          have HJ := Aside0.mk hjl
          clear h125 hjl
          go_wp2
          go_ret
          exact ⟨.inr ⟨HO.out, rfl, HJ.out ▸ HR4.out.inv⟩, HR4.out.te.bes⟩
        · rw [h44] at x8
          have hsn := HSN.out
          have K9 := Aside0.mk (show ∀ W, Te P w W → _ from fun W hW => HNX.out z1 p2 hnt W hW)
          rw [hsn, hpp] at K9
          have HX := Aside0.mk hlo
          have hc := HZ.out.2.1
          have hz := HZ.out.1
          have hm2 := HM.out
          have c1 : (z1 : Int) ≤ (n : Int) := by omega
          have c2 : z1 ≤ n := by omega
          have c3 : c ≠ z1 := by omega
          have c4 : ((pp : Int) == -1) = false := beq_eq_false_iff_ne.2 (by omega)
          obtain ⟨wc1, wc2⟩ : IntKind.i64.wrap ((z : Int) + 1) = (z1 : Int) ∧ IntKind.i64.wrap ((z1 : Int) + (pp : Int)) = (p2 : Int) := by
            clear wb1 wb2 wb3 wb4
            refine ⟨?_, ?_⟩ <;> (rw [IntKind.wrap_i64]; omega)
          have HM2 := Aside0.mk (show s.size - p2 < gk from by omega)
          clear h44 hnt hlo hsn hc hz hm2 hz1 hpp hzp hp2
          go_wp2
          go_region_held3 (fun w' => w'.cell? ⟨w.heap.size, 0, none⟩ = some (.bool false) ∧ w'.cell? ⟨w.heap.size, 1, none⟩ = some (.bool false) ∧ w'.cell? ⟨w.heap.size, 2, none⟩ = some (.int .i64 0) ∧ Aside0 (Tj P I (j + 1) w w'))
            (first | exact HR4.out.cells | exact (HR4.out.drew HIB.out).cells | exact HR5.out.cells | exact (HR5.out.drew HIB.out).cells)
            (first | (go_at_call 48; (with_reducible refine (K9.out _ (HR4.out.drew HIB.out).te).mono ?_); rintro e' w8 ⟨rfl, HB⟩; have HR5 := Aside0.mk ((HR4.out.drew HIB.out).more HIB.out HB); clear HB))
          clear x8
          clear g1 g2 g3
          have g1 := HR5.out.te.cfg0
          have g2 := HR5.out.te.cfg1
          have g3 := HR5.out.te.cfg2
          go_wp2
          go_roundg (s.size - p2)
          case measure => exact HM2.out
          case rel => exact ⟨p2, j + 1, by simp, ⟨HX.out _ HR5.out⟩⟩
end Go.Proofs.YtpdohioobbfncaaGreatDoor.PFnJrEach