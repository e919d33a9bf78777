/- searchKeysConfig, told by hand; no condition beside those that each theorem states. -/
import Derived.Test.YtpdohioobbfncaaGreatDoorHSXFnJpWildStop
namespace Go.Proofs.YtpdohioobbfncaaGreatDoor.PFnJpWildStop
open Go.RowKit Go.Proofs.YtpdohioobbfncaaGreatDoorW.PrintWords Go.Proofs.YtpdohioobbfncaaGreatDoorW.PrintLast Go.Proofs.YtpdohioobbfncaaGreatDoorW.PrintMore
set_option linter.unusedVariables false
set_option linter.unusedSimpArgs false
theorem Sk.start {b a n c : Nat} {s : ByteArray} {kb ko : Nat} {keys : List ByteArray} {w0 : World} (hG : Glob w0) (ht : Tx b s w0) (hk : Ky kb ko keys w0) (t1 t2 : TypeId) :
    Sk b a n c s kb ko keys w0 (((w0.alloc (.cells #[.bool false, .bool false, .int .i64 0] t1)).alloc (.cells #[.slice (some ⟨b, a, none⟩) n c] t2)).alloc (.cells (nums .u8 (List.replicate 64 0)).toArray 94)) := by
  have h1 := below_alloc_ w0 (.cells #[.bool false, .bool false, .int .i64 0] t1)
  have h2 := below_alloc_ (w0.alloc (.cells #[.bool false, .bool false, .int .i64 0] t1)) (.cells #[.slice (some ⟨b, a, none⟩) n c] t2)
  have h3 := below_alloc_ ((w0.alloc (.cells #[.bool false, .bool false, .int .i64 0] t1)).alloc (.cells #[.slice (some ⟨b, a, none⟩) n c] t2)) (.cells (nums .u8 (List.replicate 64 0)).toArray 94)
  have k1 := heap_alloc_new w0 (.cells #[.bool false, .bool false, .int .i64 0] t1)
  have k2 := Bx.new (w0.alloc (.cells #[.bool false, .bool false, .int .i64 0] t1)) (.slice (some ⟨b, a, none⟩) n c) t2
  rw [Go.Deep.nblk_alloc] at k2
  have k3 := heap_alloc_new ((w0.alloc (.cells #[.bool false, .bool false, .int .i64 0] t1)).alloc (.cells #[.slice (some ⟨b, a, none⟩) n c] t2)) (.cells (nums .u8 (List.replicate 64 0)).toArray 94)
  rw [Go.Deep.nblk_alloc, Go.Deep.nblk_alloc] at k3
  have hb := below_step (below_step h1 h2) h3
  refine ⟨hb, by rw [Go.Deep.nblk_alloc, Go.Deep.nblk_alloc, Go.Deep.nblk_alloc]; omega, hG, ht, hk, ?_, ?_, ?_, k2.more h3, ⟨_, List.length_replicate, ⟨k3⟩⟩⟩
  · exact keep_ (keep_ ((blk_cell k1 0).trans rfl) h2) h3
  · exact keep_ (keep_ ((blk_cell k1 1).trans rfl) h2) h3
  · exact keep_ (keep_ ((blk_cell k1 2).trans rfl) h2) h3
set_option maxHeartbeats 1000000 in
set_option maxRecDepth 100000 in
/-- Without keys. -/
theorem search_nil (b a n c kc : Nat) (kA : Option Addr) (w : World) :
    Calls Tryz.prog 49 #[cfgV, .slice (some ⟨b, a, none⟩) n c, .slice kA ([] : List ByteArray).length kc] w fun e' w' => e' = .returned (.int .i64 (ret a (some a))) ∧ Below w.heap.size w w' := by
  have h1 := below_step (below_alloc_ w (.cells #[.bool false, .bool false, .int .i64 0] 72)) (below_alloc_ (w.alloc (.cells #[.bool false, .bool false, .int .i64 0] 72)) (.cells #[.slice (some ⟨b, a, none⟩) n c] 51))
  have HB := Aside0.mk h1
  clear h1
  dsimp only [cfgV, List.length_nil]
  go_enter Tryz.func49, Tryz.ntmps49
  go_wp2
  go_ret
  exact ⟨by simp [ret], HB.out⟩
/-- Where the search stands at the head of a round. -/
structure Sl (b a n c : Nat) (s : ByteArray) (kb ko : Nat) (keys : List ByteArray) (r : Option Nat) (kl lev : Int) (i : Nat) (lm : Bool) (w0 W : World) : Prop where
  sk : Sk b a n c s kb ko keys w0 W
  sr : SR s (a + n) keys kl lev (a + i) lm r
  le : i ≤ n
  kl : -(i : Int) ≤ kl ∧ kl ≤ i
  lev : -(i : Int) ≤ lev ∧ lev ≤ i
set_option maxHeartbeats 16000000 in
set_option maxRecDepth 100000 in
theorem search_step (N : Nat) (IH : ∀ (keys : List ByteArray), keys.length < N → ∀ (s : ByteArray) (e a : Nat) (r : Option Nat), SR s e keys 0 0 a true r → (keys = [] → r = some a) → ∀ (b c kb ko kc : Nat) (kA : Option Addr) (w : World), e ≤ s.size → s.size ≤ 2147483647 → a ≤ e → e - a ≤ c → (∀ k ∈ keys, k.size ≤ 2147483647) → keys.length ≤ kc → True → (keys ≠ [] → kA = some ⟨kb, ko, none⟩) → Glob w → Tx b s w → Ky kb ko keys w →
      Calls Tryz.prog 49 #[cfgV, .slice (some ⟨b, a, none⟩) (e - a) c, .slice kA keys.length kc] w fun e' w' => e' = .returned (.int .i64 (ret a r)) ∧ Below w.heap.size w w')
    (keys : List ByteArray) (hN : keys.length = N) (h0 : 0 < N) (s : ByteArray) (e a : Nat) (r : Option Nat) (hsr : SR s e keys 0 0 a true r) (b c kb ko kc : Nat) (w : World) (he : e ≤ s.size) (hz : s.size ≤ 2147483647) (hae : a ≤ e) (hc : e - a ≤ c) (hks : ∀ k ∈ keys, k.size ≤ 2147483647) (hkc : keys.length ≤ kc) (hkz : True) (hG : Glob w) (hT : Tx b s w) (hK : Ky kb ko keys w) :
    Calls Tryz.prog 49 #[cfgV, .slice (some ⟨b, a, none⟩) (e - a) c, .slice (some ⟨kb, ko, none⟩) keys.length kc] w fun e' w' => e' = .returned (.int .i64 (ret a r)) ∧ Below w.heap.size w w' := by
  obtain ⟨n, rfl⟩ : ∃ n, e = a + n := ⟨e - a, by omega⟩
  rw [Nat.add_sub_cancel_left] at hc ⊢
  have HS := Aside0.mk (fun t1 t2 => Sk.start (n := n) (c := c) (a := a) hG hT hK t1 t2)
  have HE := Aside0.mk (And.intro he (And.intro hz (And.intro hc (And.intro hks (And.intro hkc (And.intro hkz hN))))))
  have HSR := Aside0.mk hsr
  have HIH := Aside0.mk IH
  have n0 : ((N : Nat) : Int) ≠ 0 := by omega
  have n0' : N ≠ 0 := by omega
  have n1 : (((N : Nat) : Int) == 0) = false := beq_eq_false_iff_ne.2 n0
  rw [hN]
  clear he hz hae hc hks hkc hkz hN hG hT hK hsr IH
  dsimp only [cfgV]
  go_enter Tryz.func49, Tryz.ntmps49
  go_wp2
  go_loopw [7, 8, 9, 12] (fun vk vl vi vm wr => ∃ (kl lev : Int) (i : Nat) (lm : Bool), vk = .int .i64 kl ∧ vl = .int .i64 lev ∧ vi = .int .i64 (i : Int) ∧ vm = .bool lm ∧ Aside0 (Sl b a n c s kb ko keys r kl lev i lm w wr)) (fun _ _ vi _ _ => n - (intOf vi).toNat)
  case atStart => as_aux_lemma => exact ⟨0, 0, 0, true, rfl, rfl, rfl, rfl, ⟨⟨HS.out _ _, HSR.out, Nat.zero_le _, by omega, by omega⟩⟩⟩
  case round => as_aux_lemma =>
    clear HS HSR
    obtain ⟨kl, lev, i, lm, rfl, rfl, rfl, rfl, HW⟩ := hrel
    by_cases hin : i < n
    · have g0 := HW.out.sk.data.cell
      have d0 : decide ((i : Int) < (n : Int)) = true := decide_eq_true (by omega)
      have d1 : decide (i < n) = true := decide_eq_true hin
      go_wp2
      go_loopw [9] (fun vi wr2 => ∃ i2 : Nat, vi = .int .i64 (i2 : Int) ∧ i ≤ i2 ∧ wr2 = wr ∧ Aside0 (Sl b a n c s kb ko keys r kl lev i2 lm w wr)) (fun vi _ => n - (intOf vi).toNat)
      case atStart => as_aux_lemma => exact ⟨i, rfl, Nat.le_refl _, rfl, HW⟩
      case round => as_aux_lemma =>
        obtain ⟨i2, rfl, hi2, rfl, HV⟩ := hrel
        clear HW d0 d1 g0
        have hi2n := HV.out.le
        have g0 := HV.out.sk.data.cell
        have hcn := HE.out.2.2.1
        have hz := HE.out.2.1
        by_cases hin2 : i2 < n
        · have x0 : wr.cell? ⟨b, a + i2, none⟩ = some (.int .u8 (bt s ((a + i2 : Nat) : Int))) := HV.out.sk.textW.cell (a + i2) (by have := HE.out.1; omega)
          have d0 : decide ((i2 : Int) < (n : Int)) = true := decide_eq_true (by omega)
          have d1 : decide (i2 < n) = true := decide_eq_true hin2
          have d2 : decide ((i2 : Int) ≥ (n : Int)) = false := decide_eq_false (by omega)
          have d3 : decide ((n : Int) ≤ (i2 : Int)) = false := decide_eq_false (by omega)
          have d4 : decide (n ≤ i2) = false := decide_eq_false (by omega)
          have NX := Aside0.mk (show ∀ (W : World) (i3 : Nat) (kl2 lev2 : Int) (lm2 : Bool), Sk b a n c s kb ko keys w W → i2 < i3 → i3 ≤ n → kl2 ≤ kl + 1 → kl - 1 ≤ kl2 → lev2 ≤ lev + 1 → lev - 1 ≤ lev2 → SR s (a + n) keys kl2 lev2 (a + i3) lm2 r → Sl b a n c s kb ko keys r kl2 lev2 i3 lm2 w W from fun W i3 kl2 lev2 lm2 hW h0 h5 h1 h2 h3 h4 h => ⟨hW, h, h5, by have := HV.out.kl; omega, by have := HV.out.lev; omega⟩)
          have hkl := HV.out.kl
          have hlev := HV.out.lev
          obtain ⟨w1, w2, w3, w4, w5⟩ : IntKind.i64.wrap ((i2 : Int) + 1) = (i2 : Int) + 1 ∧ IntKind.i64.wrap (lev + 1) = lev + 1 ∧ IntKind.i64.wrap (lev - 1) = lev - 1 ∧ IntKind.i64.wrap (kl - 1) = kl - 1 ∧ IntKind.i64.wrap (kl + 1) = kl + 1 := by
            have := HE.out.1
            refine ⟨?_, ?_, ?_, ?_, ?_⟩ <;> (rw [IntKind.wrap_i64]; omega)
          have HI := Aside0.mk (And.intro hin2 (And.intro hi2 (And.intro hkl hlev)))
          have hsr := HV.out.sr
          obtain ⟨p, hp⟩ : ∃ p, a + i2 = p := ⟨_, rfl⟩
          obtain ⟨e, he⟩ : ∃ e, a + n = e := ⟨_, rfl⟩
          rw [hp, he] at hsr
          have HP := Aside0.mk (And.intro hp he)
          obtain ⟨bx, hbx⟩ : ∃ bx, bt s (p : Int) = bx := ⟨_, rfl⟩
          rw [hp, hbx, ← hp] at x0
          have hin3 : (i2 : Int) < (n : Int) := by omega
          clear hkl hlev hi2 hi2n hcn hz hin
          have HM := Aside0.mk (show i ≤ i2 ∧ i2 < n from ⟨HI.out.2.1, HI.out.1⟩)
          cases hsr with
          | nil => exact absurd HE.out.2.2.2.2.2.2.symm n0'
          | fin => have := HP.out; have := HI.out.1; omega
          | skip hp2 hcc h => as_aux_lemma =>
            rw [hbx] at hcc
            have HN := Aside0.mk (NX.out _ (i2 + 1) kl lev lm HV.out.sk (Nat.lt_succ_self _) hin2 (by omega) (by omega) (by omega) (by omega) (by rw [← Nat.add_assoc, HP.out.1, HP.out.2]; exact h))
            clear h hp2
            by_cases c1 : bx ≤ 32
            · have e1 : decide (bx ≤ 32) = true := decide_eq_true c1
              clear c1 hcc hbx hp he
              go_wp2
              go_roundw
              case rel => exact ⟨i2 + 1, by simp, by have := HM.out; omega, trivial, HN⟩
              case measure => have := HM.out; simp [intOf]; omega
            · have e1 : decide (bx ≤ 32) = false := decide_eq_false c1
              by_cases c2 : bx > 92
              · have e2 : decide (bx > 92) = true := decide_eq_true c2
                have e2' : decide (92 < bx) = true := decide_eq_true c2
                have e3 : (bx != 123) = true := bne_iff_ne.2 hcc.2.2.2.2.1
                have e4 : (bx != 125) = true := bne_iff_ne.2 hcc.2.2.2.2.2
                clear c1 c2 hcc hbx hp he
                go_wp2
                go_roundw
                case rel => exact ⟨i2 + 1, by simp, by have := HM.out; omega, trivial, HN⟩
                case measure => have := HM.out; simp [intOf]; omega
              · have e2 : decide (bx > 92) = false := decide_eq_false c2
                have e2' : decide (92 < bx) = false := decide_eq_false c2
                have e3 : (bx == 34) = false := beq_eq_false_iff_ne.2 hcc.1
                have e4 : (bx == 39) = false := beq_eq_false_iff_ne.2 hcc.2.1
                have e5 : (bx == 58) = false := beq_eq_false_iff_ne.2 hcc.2.2.1
                have e6 : (bx == 91) = false := beq_eq_false_iff_ne.2 hcc.2.2.2.1
                have e7 : (bx == 123) = false := beq_eq_false_iff_ne.2 hcc.2.2.2.2.1
                have e8 : (bx == 125) = false := beq_eq_false_iff_ne.2 hcc.2.2.2.2.2
                clear c1 c2 hcc hbx hp he
                go_wp2
                go_roundw
                case rel => exact ⟨kl, lev, i2 + 1, lm, rfl, rfl, by simp, rfl, HN⟩
                case measure => have := HM.out; simp [intOf]; omega
          | opn hp2 hcc h => as_aux_lemma =>
            rw [hbx] at hcc
            subst hcc
            have HN := Aside0.mk (NX.out _ (i2 + 1) kl (lev + 1) true HV.out.sk (Nat.lt_succ_self _) hin2 (by omega) (by omega) (by omega) (by omega) (by rw [← Nat.add_assoc, HP.out.1, HP.out.2]; exact h))
            clear h hp2 hbx hp he
            go_wp2
            go_roundw
            case rel => exact ⟨kl, lev + 1, i2 + 1, true, rfl, rfl, by simp, rfl, HN⟩
            case measure => have := HM.out; simp [intOf]; omega
          | cls hp2 hcc h => as_aux_lemma =>
            rw [hbx] at hcc
            subst hcc
            by_cases c1 : lev - 1 = kl
            · rw [if_pos c1] at h
              have e1 : (lev - 1 == kl) = true := beq_iff_eq.2 c1
              have HN := Aside0.mk (NX.out _ (i2 + 1) (kl - 1) (lev - 1) lm HV.out.sk (Nat.lt_succ_self _) hin2 (by omega) (by omega) (by omega) (by omega) (by rw [← Nat.add_assoc, HP.out.1, HP.out.2]; exact h))
              clear h hp2 hbx hp he c1
              go_wp2
              go_roundw
              case rel => exact ⟨kl - 1, lev - 1, i2 + 1, lm, rfl, rfl, by simp, rfl, HN⟩
              case measure => have := HM.out; simp [intOf]; omega
            · rw [if_neg c1] at h
              have e1 : (lev - 1 == kl) = false := beq_eq_false_iff_ne.2 c1
              have HN := Aside0.mk (NX.out _ (i2 + 1) kl (lev - 1) lm HV.out.sk (Nat.lt_succ_self _) hin2 (by omega) (by omega) (by omega) (by omega) (by rw [← Nat.add_assoc, HP.out.1, HP.out.2]; exact h))
              clear h hp2 hbx hp he c1
              go_wp2
              go_roundw
              case rel => exact ⟨kl, lev - 1, i2 + 1, lm, rfl, rfl, by simp, rfl, HN⟩
              case measure => have := HM.out; simp [intOf]; omega
          | @str _ _ _ _ _ q t es _ _ h1 hcc h => as_aux_lemma =>
            have hz34 := h1.c
            rw [hbx] at hz34
            subst hz34
            obtain ⟨ke, hke⟩ := h1.se
            obtain ⟨kn, hkn⟩ := h1.nt
            have pq := h1.pq
            have qt := h1.qt
            have te := h1.te
            obtain ⟨I1, hI1⟩ : ∃ I1, i2 + 1 = I1 := ⟨_, rfl⟩
            obtain ⟨I2, rfl⟩ : ∃ I2, q = a + I2 := ⟨q - a, by have := HP.out.1; omega⟩
            obtain ⟨I3, rfl⟩ : ∃ I3, t = a + I3 := ⟨t - a, by have := HP.out.1; omega⟩
            obtain ⟨u, hu⟩ : ∃ u, a + I2 - (p + 1) = u := ⟨_, rfl⟩
            obtain ⟨v, hv⟩ : ∃ v, a + I3 - (a + I2) = v := ⟨_, rfl⟩
            obtain ⟨I4, hI4⟩ : ∃ I4, I3 = I4 + 1 := ⟨I3 - 1, by have := HP.out.1; omega⟩
            obtain ⟨K2, hK2⟩ : ∃ K2, I2 = K2 + 1 := ⟨I2 - 1, by have := HP.out.1; omega⟩
            have HZ := Aside0.mk (show i2 + 1 = I1 ∧ I1 + u = I2 ∧ I2 + v = I3 ∧ I3 < n ∧ i2 < I3 ∧ I1 ≤ K2 from by have := HP.out; omega)
            have K1 := Aside0.mk (show ∀ W, Sk b a n c s kb ko keys w W → _ from fun W hW => sEC_.calls ke false false 0 (some ⟨b, p + 1, none⟩) (c - I1) (win s (p + 1) e) 34 ((a + I2 - (p + 1) : Nat) : Int) es W ((hW.textW.hd (p + 1) e (by rw [← HP.out.2]; exact HE.out.1)).reads (by rw [win_len]; have := HE.out; have := HP.out; omega)) (by rw [win_len]; have := HE.out; have := HP.out; omega) hke hW.globW)
            rw [win_len, hu, show e - (p + 1) = n - I1 from by have := HP.out; omega, show p + 1 = a + I1 from by have := HP.out; omega] at K1
            have K3 := Aside0.mk (show ∀ W, Sk b a n c s kb ko keys w W → _ from fun W hW => next_calls hkn b (c - I2) W (by rw [← HP.out.2]; exact HE.out.1) HE.out.2.1 (by have := HE.out; have := HP.out; omega) hW.textW)
            rw [hv, show e - (a + I2) = n - I2 from by have := HP.out; omega] at K3
            have B3 := Aside0.mk (show ∀ W, Sk b a n c s kb ko keys w W → _ from fun W hW => hW.textW.cell (a + I3) (by have := HE.out; have := HZ.out; omega))
            have HS0 := Aside0.mk HV.out.sk
            have m1 : ((u : Int) == -1) = false := beq_eq_false_iff_ne.2 (by omega)
            have m2 : ((v : Int) == -1) = false := beq_eq_false_iff_ne.2 (by omega)
            have m3 : (I1 : Int) ≤ (n : Int) := by have := HZ.out; omega
            have m3' : I1 ≤ n := by omega
            have m4 : c ≠ I1 := by have := HE.out.2.2.1; have := HZ.out; omega
            have m5 : (I2 : Int) ≤ (n : Int) := by have := HZ.out; omega
            have m5' : I2 ≤ n := by omega
            have m6 : c ≠ I2 := by have := HE.out.2.2.1; have := HZ.out; omega
            have m7 : (I3 : Int) < (n : Int) := by have := HZ.out; omega
            have m7' : I3 < n := by omega
            clear w1
            obtain ⟨w1, w6, w7, w8, w9, w10, w11⟩ : IntKind.i64.wrap ((i2 : Int) + 1) = (I1 : Int) ∧ IntKind.i64.wrap ((I1 : Int) + (u : Int)) = (I2 : Int) ∧ IntKind.i64.wrap ((I2 : Int) - 1) = (K2 : Int) ∧ IntKind.i64.wrap ((I2 : Int) + (v : Int)) = (I3 : Int) ∧ IntKind.i64.wrap ((I3 : Int) - 1) = (I4 : Int) ∧ IntKind.i64.wrap ((I4 : Int) + 1) = (I3 : Int) ∧ IntKind.i64.wrap ((I3 : Int) + 1) = (I3 : Int) + 1 := by
              have := HE.out.1; have := HE.out.2.1; have := HZ.out
              clear w2 w3 w4 w5
              refine ⟨?_, ?_, ?_, ?_, ?_, ?_, ?_⟩ <;> (rw [IntKind.wrap_i64]; omega)
            have HN := Aside0.mk (fun (W : World) (hW : Sk b a n c s kb ko keys w W) => NX.out W I3 kl lev lm hW (by have := HZ.out; omega) (by have := HZ.out; omega) (by omega) (by omega) (by omega) (by omega) (by rw [HP.out.2]; exact h))
            obtain ⟨bz, hbz⟩ : ∃ bz, bt s ((a + I3 : Nat) : Int) = bz := ⟨_, rfl⟩
            rw [hbz] at hcc B3
            have e3 : (bz == 58) = false := beq_eq_false_iff_ne.2 hcc
            clear h h1 hbx hp he pq qt te hke hkn hu hv hI1 hI4 hK2 hcc hbz
            have g1 := HS0.out.cfg0
            have g2 := HS0.out.cfg1
            have g3 := HS0.out.cfg2
            go_wp2
            go_region_held3 (fun w' => w'.cell? ⟨w.heap.size, 0, none⟩ = some (.bool false) ∧ w'.cell? ⟨w.heap.size, 1, none⟩ = some (.bool false) ∧ w'.cell? ⟨w.heap.size, 2, none⟩ = some (.int .i64 0) ∧ w'.cell? ⟨w.heap.size + 1, 0, none⟩ = some (.slice (some ⟨b, a, none⟩) n c) ∧ Aside0 (Sk b a n c s kb ko keys w w'))
              (first | exact HS0.out.cells | exact HS0.out.drew.cells | exact HS1.out.cells | exact HS1.out.drew.cells)
              (first | (go_at_call 53; (with_reducible refine (K1.out _ HS0.out.drew).mono ?_); rintro e' w1 ⟨rfl, HB⟩; have HS1 := Aside0.mk (HS0.out.drew.more HB); clear HB))
            clear g0 g1 g2 g3 x0
            have g0 := HS1.out.data.cell
            have g1 := HS1.out.cfg0
            have g2 := HS1.out.cfg1
            have g3 := HS1.out.cfg2
            go_wp2
            go_region_held3 (fun w' => w'.cell? ⟨w.heap.size, 0, none⟩ = some (.bool false) ∧ w'.cell? ⟨w.heap.size, 1, none⟩ = some (.bool false) ∧ w'.cell? ⟨w.heap.size, 2, none⟩ = some (.int .i64 0) ∧ w'.cell? ⟨w.heap.size + 1, 0, none⟩ = some (.slice (some ⟨b, a, none⟩) n c) ∧ Aside0 (Sk b a n c s kb ko keys w w'))
              (first | exact HS1.out.cells | exact HS1.out.drew.cells | exact HS2.out.cells | exact HS2.out.drew.cells)
              (first | (go_at_call 48; (with_reducible refine (K3.out _ HS1.out.drew).mono ?_); rintro e' w2 ⟨rfl, HB⟩; have HS2 := Aside0.mk (HS1.out.drew.more HB); clear HB))
            clear g0 g1 g2 g3
            have g0 := HS2.out.data.cell
            have x3 := B3.out _ HS2.out
            go_wp2
            go_roundw
            case rel => exact ⟨kl, lev, I3, lm, rfl, rfl, by simp, rfl, ⟨HN.out _ HS2.out⟩⟩
            case measure => have := HZ.out; have := HM.out; simp [intOf]; omega
          | @keyEnd _ _ _ j _ q t es _ nm h1 hcc hn hj hk hkl hl => as_aux_lemma =>
            have hz34 := h1.c
            rw [hbx] at hz34
            subst hz34
            obtain ⟨ke, hke⟩ := h1.se
            obtain ⟨kn, hkn⟩ := h1.nt
            have pq := h1.pq
            have qt := h1.qt
            have te := h1.te
            obtain ⟨I1, hI1⟩ : ∃ I1, i2 + 1 = I1 := ⟨_, rfl⟩
            obtain ⟨I2, rfl⟩ : ∃ I2, q = a + I2 := ⟨q - a, by have := HP.out.1; omega⟩
            obtain ⟨I3, rfl⟩ : ∃ I3, t = a + I3 := ⟨t - a, by have := HP.out.1; omega⟩
            obtain ⟨u, hu⟩ : ∃ u, a + I2 - (p + 1) = u := ⟨_, rfl⟩
            obtain ⟨v, hv⟩ : ∃ v, a + I3 - (a + I2) = v := ⟨_, rfl⟩
            obtain ⟨I4, hI4⟩ : ∃ I4, I3 = I4 + 1 := ⟨I3 - 1, by have := HP.out.1; omega⟩
            obtain ⟨K2, hK2⟩ : ∃ K2, I2 = K2 + 1 := ⟨I2 - 1, by have := HP.out.1; omega⟩
            have HZ := Aside0.mk (show i2 + 1 = I1 ∧ I1 + u = I2 ∧ I2 + v = I3 ∧ I3 < n ∧ i2 < I3 ∧ I1 ≤ K2 from by have := HP.out; omega)
            have K1 := Aside0.mk (show ∀ W, Sk b a n c s kb ko keys w W → _ from fun W hW => sEC_.calls ke false false 0 (some ⟨b, p + 1, none⟩) (c - I1) (win s (p + 1) e) 34 ((a + I2 - (p + 1) : Nat) : Int) es W ((hW.textW.hd (p + 1) e (by rw [← HP.out.2]; exact HE.out.1)).reads (by rw [win_len]; have := HE.out; have := HP.out; omega)) (by rw [win_len]; have := HE.out; have := HP.out; omega) hke hW.globW)
            rw [win_len, hu, show e - (p + 1) = n - I1 from by have := HP.out; omega, show p + 1 = a + I1 from by have := HP.out; omega] at K1
            have K3 := Aside0.mk (show ∀ W, Sk b a n c s kb ko keys w W → _ from fun W hW => next_calls hkn b (c - I2) W (by rw [← HP.out.2]; exact HE.out.1) HE.out.2.1 (by have := HE.out; have := HP.out; omega) hW.textW)
            rw [hv, show e - (a + I2) = n - I2 from by have := HP.out; omega] at K3
            have B3 := Aside0.mk (show ∀ W, Sk b a n c s kb ko keys w W → _ from fun W hW => hW.textW.cell (a + I3) (by have := HE.out; have := HZ.out; omega))
            have HS0 := Aside0.mk HV.out.sk
            have m1 : ((u : Int) == -1) = false := beq_eq_false_iff_ne.2 (by omega)
            have m2 : ((v : Int) == -1) = false := beq_eq_false_iff_ne.2 (by omega)
            have m3 : (I1 : Int) ≤ (n : Int) := by have := HZ.out; omega
            have m3' : I1 ≤ n := by omega
            have m4 : c ≠ I1 := by have := HE.out.2.2.1; have := HZ.out; omega
            have m5 : (I2 : Int) ≤ (n : Int) := by have := HZ.out; omega
            have m5' : I2 ≤ n := by omega
            have m6 : c ≠ I2 := by have := HE.out.2.2.1; have := HZ.out; omega
            have m7 : (I3 : Int) < (n : Int) := by have := HZ.out; omega
            have m7' : I3 < n := by omega
            clear w1
            obtain ⟨w1, w6, w7, w8, w9, w10, w11⟩ : IntKind.i64.wrap ((i2 : Int) + 1) = (I1 : Int) ∧ IntKind.i64.wrap ((I1 : Int) + (u : Int)) = (I2 : Int) ∧ IntKind.i64.wrap ((I2 : Int) - 1) = (K2 : Int) ∧ IntKind.i64.wrap ((I2 : Int) + (v : Int)) = (I3 : Int) ∧ IntKind.i64.wrap ((I3 : Int) - 1) = (I4 : Int) ∧ IntKind.i64.wrap ((I4 : Int) + 1) = (I3 : Int) ∧ IntKind.i64.wrap ((I3 : Int) + 1) = (I3 : Int) + 1 := by
              have := HE.out.1; have := HE.out.2.1; have := HZ.out
              clear w2 w3 w4 w5
              refine ⟨?_, ?_, ?_, ?_, ?_, ?_, ?_⟩ <;> (rw [IntKind.wrap_i64]; omega)
            have HN := Aside0.mk (show ret a (some (a + I3 + 1)) = (I3 : Int) + 1 from by show ((a + I3 + 1 - a : Nat) : Int) = _; omega)
            rw [hcc] at B3
            have hxe : p + 1 = a + I1 := by have := HP.out; omega
            have hze : a + I2 - 1 = a + K2 := by omega
            rw [hxe, hze] at hn
            have hKL : ∀ W, Sk b a n c s kb ko keys w W → W.cell? ⟨kb, ko + j, none⟩ = some (.string (keys.getD j ByteArray.empty)) := fun W hW => hW.keyW.cell j hj
            obtain ⟨K, hK⟩ : ∃ K, keys.getD j ByteArray.empty = K := ⟨_, rfl⟩
            rw [hK] at hKL hk
            have HKL := Aside0.mk hKL
            have HBB := Aside0.mk (show ((strOfNums nm).toList == K.toList) = true from beq_iff_eq.2 hk)
            have j1 : j < N := by have := HE.out.2.2.2.2.2.2; omega
            have HJ := Aside0.mk (show j < N from j1)
            have HTe := Aside0.mk (show a + K2 ≤ s.size from by have := HE.out.1; have := HZ.out; omega)
            have s1 : (I1 : Int) ≤ (K2 : Int) := by have := HZ.out; omega
            have s1' : I1 ≤ K2 := by omega
            have s2 : (K2 : Int) ≤ (c : Int) := by have := HZ.out; have := HE.out.2.2.1; omega
            have s2' : K2 ≤ c := by omega
            have HC := Aside0.mk (show K2 - I1 ≤ c - I1 from by omega)
            clear w2 w3 w4 w5 hxe hze
            generalize hL : ((j : Int) + 1) = L
            have l1 : decide (L < 1) = false := decide_eq_false (by omega)
            have l2 : decide (L ≤ (N : Int)) = true := decide_eq_true (by have := HJ.out; omega)
            have j2 : (j : Int) < (N : Int) := by omega
            subst hkl
            have lN : (L == (N : Int)) = true := beq_iff_eq.2 (by have := HE.out.2.2.2.2.2.2; omega)
            obtain ⟨wl, wk⟩ : IntKind.i64.wrap (L - 1) = (j : Int) ∧ IntKind.i64.wrap ((j : Int) + 1) = L := by
              have := HE.out; have := HJ.out; have := HV.out.lev; have := HZ.out
              clear w1 w6 w7 w8 w9 w10 w11
              exact ⟨by rw [IntKind.wrap_i64]; omega, by rw [IntKind.wrap_i64]; omega⟩
            cases es with
            | false =>
              have hnm : nm = win s (a + I1) (a + K2) := by unfold NMs at hn; rw [if_neg Bool.false_ne_true] at hn; exact hn
              have KE := Aside0.mk (show ∀ (W : World) (P : Nat), W.cell? ⟨P, 0, none⟩ = some (.slice (some ⟨b, a + I1, none⟩) (K2 - I1) (c - I1)) → Tx b s W → _ from fun W P h1 h2 => equal_calls P b (a + I1) (K2 - I1) (c - I1) nm K W h1 (by rw [hnm, win_len]; omega) (by rw [hnm]; exact h2.hd _ _ HTe.out))
              rw [HBB.out] at KE
              clear h1 hbx hp he pq qt te hke hkn hu hv hI1 hI4 hK2 hcc hn hk hK hKL hj hL hnm NX hl
              have g1 := HS0.out.cfg0
              have g2 := HS0.out.cfg1
              have g3 := HS0.out.cfg2
              go_wp2
              go_region_held3 (fun w' => w'.cell? ⟨w.heap.size, 0, none⟩ = some (.bool false) ∧ w'.cell? ⟨w.heap.size, 1, none⟩ = some (.bool false) ∧ w'.cell? ⟨w.heap.size, 2, none⟩ = some (.int .i64 0) ∧ w'.cell? ⟨w.heap.size + 1, 0, none⟩ = some (.slice (some ⟨b, a, none⟩) n c) ∧ Aside0 (Sk b a n c s kb ko keys w w'))
                (first | exact HS0.out.cells | exact HS0.out.drew.cells | exact HS1.out.cells | exact HS1.out.drew.cells)
                (first | (go_at_call 53; (with_reducible refine (K1.out _ HS0.out.drew).mono ?_); rintro e' w1 ⟨rfl, HB⟩; have HS1 := Aside0.mk (HS0.out.drew.more HB); clear HB))
              clear g0 g1 g2 g3 x0
              have g0 := HS1.out.data.cell
              have g1 := HS1.out.cfg0
              have g2 := HS1.out.cfg1
              have g3 := HS1.out.cfg2
              go_wp2
              go_region_held3 (fun w' => w'.cell? ⟨w.heap.size, 0, none⟩ = some (.bool false) ∧ w'.cell? ⟨w.heap.size, 1, none⟩ = some (.bool false) ∧ w'.cell? ⟨w.heap.size, 2, none⟩ = some (.int .i64 0) ∧ w'.cell? ⟨w.heap.size + 1, 0, none⟩ = some (.slice (some ⟨b, a, none⟩) n c) ∧ Aside0 (Sk b a n c s kb ko keys w w'))
                (first | exact HS1.out.cells | exact HS1.out.drew.cells | exact HS2.out.cells | exact HS2.out.drew.cells)
                (first | (go_at_call 48; (with_reducible refine (K3.out _ HS1.out.drew).mono ?_); rintro e' w2 ⟨rfl, HB⟩; have HS2 := Aside0.mk (HS1.out.drew.more HB); clear HB))
              clear g0 g1 g2 g3
              have g0 := HS2.out.data.cell
              have x3 := B3.out _ HS2.out
              have gk := fun o => HKL.out _ (HS2.out.more (below_alloc_ w2 o))
              go_wp2_with (go_at_call 66; (with_reducible refine (KE.out _ _ (Bx.new _ _ _).cell (HS2.out.more (below_alloc_ _ _)).textW).mono ?_); rintro e' w3 ⟨rfl, rfl⟩)
              go_ret
              refine ⟨?_, (HS2.out.more (below_alloc_ _ _)).below⟩
              rw [HN.out]
              simp
            | true =>
              have hnm : 92 ∈ win s (a + I1) (a + K2) ∧ Un (win s (a + I1) (a + K2)) nm := by unfold NMs at hn; rw [if_pos rfl] at hn; exact hn
              have KU := Aside0.mk (show ∀ (Q : Nat) (v : Value) (W : World), Sq b a n c s kb ko keys Q v w W → _ from fun Q v W hW => hW.unesc hnm.2 hnm.1 HTe.out HE.out.2.1 (c - I1) (by have := HC.out; omega))
              rw [show a + K2 - (a + I1) = K2 - I1 from by omega] at KU
              have KE := Aside0.mk (show ∀ (W : World) (P G cp : Nat), W.cell? ⟨P, 0, none⟩ = some (.slice (some ⟨G, 0, none⟩) nm.length cp) → Hd G 0 nm W → _ from fun W P G cp h1 h2 => equal_calls P G 0 nm.length cp nm K W h1 rfl h2)
              rw [HBB.out] at KE
              obtain ⟨ml, hml⟩ : ∃ ml, nm.length = ml := ⟨_, rfl⟩
              rw [hml] at KU KE
              have hst := fun (W : World) (g : Nat) => stack_slice W g
              clear h1 hbx hp he pq qt te hke hkn hu hv hI1 hI4 hK2 hcc hn hk hK hKL hj hL hnm hml NX hl
              have g1 := HS0.out.cfg0
              have g2 := HS0.out.cfg1
              have g3 := HS0.out.cfg2
              go_wp2
              go_region_held3 (fun w' => w'.cell? ⟨w.heap.size, 0, none⟩ = some (.bool false) ∧ w'.cell? ⟨w.heap.size, 1, none⟩ = some (.bool false) ∧ w'.cell? ⟨w.heap.size, 2, none⟩ = some (.int .i64 0) ∧ w'.cell? ⟨w.heap.size + 1, 0, none⟩ = some (.slice (some ⟨b, a, none⟩) n c) ∧ Aside0 (Sk b a n c s kb ko keys w w'))
                (first | exact HS0.out.cells | exact HS0.out.drew.cells | exact HS1.out.cells | exact HS1.out.drew.cells)
                (first | (go_at_call 53; (with_reducible refine (K1.out _ HS0.out.drew).mono ?_); rintro e' w1 ⟨rfl, HB⟩; have HS1 := Aside0.mk (HS0.out.drew.more HB); clear HB))
              clear g0 g1 g2 g3 x0
              have g0 := HS1.out.data.cell
              have g1 := HS1.out.cfg0
              have g2 := HS1.out.cfg1
              have g3 := HS1.out.cfg2
              go_wp2
              go_region_held3 (fun w' => w'.cell? ⟨w.heap.size, 0, none⟩ = some (.bool false) ∧ w'.cell? ⟨w.heap.size, 1, none⟩ = some (.bool false) ∧ w'.cell? ⟨w.heap.size, 2, none⟩ = some (.int .i64 0) ∧ w'.cell? ⟨w.heap.size + 1, 0, none⟩ = some (.slice (some ⟨b, a, none⟩) n c) ∧ Aside0 (Sk b a n c s kb ko keys w w'))
                (first | exact HS1.out.cells | exact HS1.out.drew.cells | exact HS2.out.cells | exact HS2.out.drew.cells)
                (first | (go_at_call 48; (with_reducible refine (K3.out _ HS1.out.drew).mono ?_); rintro e' w2 ⟨rfl, HB⟩; have HS2 := Aside0.mk (HS1.out.drew.more HB); clear HB))
              clear g0 g1 g2 g3
              have g0 := HS2.out.data.cell
              have x3 := B3.out _ HS2.out
              go_wp2
              have HS3 := Aside0.mk (Sq.start HS2.out (.slice none 0 0) 51)
              clear g0
              have g0 := HS3.out.sk.data.cell
              have g1 := HS3.out.sk.cfg0
              have g2 := HS3.out.sk.cfg1
              have g3 := HS3.out.sk.cfg2
              go_region_held3 (fun w' => w'.cell? ⟨w.heap.size, 0, none⟩ = some (.bool false) ∧ w'.cell? ⟨w.heap.size, 1, none⟩ = some (.bool false) ∧ w'.cell? ⟨w.heap.size, 2, none⟩ = some (.int .i64 0) ∧ w'.cell? ⟨w.heap.size + 1, 0, none⟩ = some (.slice (some ⟨b, a, none⟩) n c) ∧ Aside0 (Sq b a n c s kb ko keys w2.heap.size (.slice none 0 0) w w'))
                (first | exact HS3.out.cells | exact HS3.out.drew.cells | exact HS4.out.cells | exact HS4.out.drew.cells)
                (first | (go_at_call 54; (with_reducible refine (KU.out _ _ _ HS3.out.drew).mono ?_); rintro e' w4 ⟨G, cp, rfl, hGQ, hGH, hSq⟩; have HS4 := Aside0.mk hSq; have HGQ := Aside0.mk hGQ; have HGH := Aside0.mk hGH; clear hGQ hGH hSq))
              have q0 := HS4.out.bx.cell
              have q1 := HS4.out.bx.free
              have gk := fun v => HKL.out _ (HS4.out.sk.put HS4.out.q v)
              go_wp2_with (go_at_call 66; (with_reducible refine (KE.out _ _ G cp HS4.out.bx.put.cell (HGH.out.other HGQ.out)).mono ?_); rintro e' w5 ⟨rfl, rfl⟩)
              go_ret
              refine ⟨?_, (HS4.out.sk.put HS4.out.q _).below⟩
              rw [HN.out]
              simp
          | @keyUp _ _ _ j _ q t es _ nm _ h1 hcc hn hj hk hkl hl h => as_aux_lemma =>
            have hz34 := h1.c
            rw [hbx] at hz34
            subst hz34
            obtain ⟨ke, hke⟩ := h1.se
            obtain ⟨kn, hkn⟩ := h1.nt
            have pq := h1.pq
            have qt := h1.qt
            have te := h1.te
            obtain ⟨I1, hI1⟩ : ∃ I1, i2 + 1 = I1 := ⟨_, rfl⟩
            obtain ⟨I2, rfl⟩ : ∃ I2, q = a + I2 := ⟨q - a, by have := HP.out.1; omega⟩
            obtain ⟨I3, rfl⟩ : ∃ I3, t = a + I3 := ⟨t - a, by have := HP.out.1; omega⟩
            obtain ⟨u, hu⟩ : ∃ u, a + I2 - (p + 1) = u := ⟨_, rfl⟩
            obtain ⟨v, hv⟩ : ∃ v, a + I3 - (a + I2) = v := ⟨_, rfl⟩
            obtain ⟨I4, hI4⟩ : ∃ I4, I3 = I4 + 1 := ⟨I3 - 1, by have := HP.out.1; omega⟩
            obtain ⟨K2, hK2⟩ : ∃ K2, I2 = K2 + 1 := ⟨I2 - 1, by have := HP.out.1; omega⟩
            have HZ := Aside0.mk (show i2 + 1 = I1 ∧ I1 + u = I2 ∧ I2 + v = I3 ∧ I3 < n ∧ i2 < I3 ∧ I1 ≤ K2 from by have := HP.out; omega)
            have K1 := Aside0.mk (show ∀ W, Sk b a n c s kb ko keys w W → _ from fun W hW => sEC_.calls ke false false 0 (some ⟨b, p + 1, none⟩) (c - I1) (win s (p + 1) e) 34 ((a + I2 - (p + 1) : Nat) : Int) es W ((hW.textW.hd (p + 1) e (by rw [← HP.out.2]; exact HE.out.1)).reads (by rw [win_len]; have := HE.out; have := HP.out; omega)) (by rw [win_len]; have := HE.out; have := HP.out; omega) hke hW.globW)
            rw [win_len, hu, show e - (p + 1) = n - I1 from by have := HP.out; omega, show p + 1 = a + I1 from by have := HP.out; omega] at K1
            have K3 := Aside0.mk (show ∀ W, Sk b a n c s kb ko keys w W → _ from fun W hW => next_calls hkn b (c - I2) W (by rw [← HP.out.2]; exact HE.out.1) HE.out.2.1 (by have := HE.out; have := HP.out; omega) hW.textW)
            rw [hv, show e - (a + I2) = n - I2 from by have := HP.out; omega] at K3
            have B3 := Aside0.mk (show ∀ W, Sk b a n c s kb ko keys w W → _ from fun W hW => hW.textW.cell (a + I3) (by have := HE.out; have := HZ.out; omega))
            have HS0 := Aside0.mk HV.out.sk
            have m1 : ((u : Int) == -1) = false := beq_eq_false_iff_ne.2 (by omega)
            have m2 : ((v : Int) == -1) = false := beq_eq_false_iff_ne.2 (by omega)
            have m3 : (I1 : Int) ≤ (n : Int) := by have := HZ.out; omega
            have m3' : I1 ≤ n := by omega
            have m4 : c ≠ I1 := by have := HE.out.2.2.1; have := HZ.out; omega
            have m5 : (I2 : Int) ≤ (n : Int) := by have := HZ.out; omega
            have m5' : I2 ≤ n := by omega
            have m6 : c ≠ I2 := by have := HE.out.2.2.1; have := HZ.out; omega
            have m7 : (I3 : Int) < (n : Int) := by have := HZ.out; omega
            have m7' : I3 < n := by omega
            clear w1
            obtain ⟨w1, w6, w7, w8, w9, w10, w11⟩ : IntKind.i64.wrap ((i2 : Int) + 1) = (I1 : Int) ∧ IntKind.i64.wrap ((I1 : Int) + (u : Int)) = (I2 : Int) ∧ IntKind.i64.wrap ((I2 : Int) - 1) = (K2 : Int) ∧ IntKind.i64.wrap ((I2 : Int) + (v : Int)) = (I3 : Int) ∧ IntKind.i64.wrap ((I3 : Int) - 1) = (I4 : Int) ∧ IntKind.i64.wrap ((I4 : Int) + 1) = (I3 : Int) ∧ IntKind.i64.wrap ((I3 : Int) + 1) = (I3 : Int) + 1 := by
              have := HE.out.1; have := HE.out.2.1; have := HZ.out
              clear w2 w3 w4 w5
              refine ⟨?_, ?_, ?_, ?_, ?_, ?_, ?_⟩ <;> (rw [IntKind.wrap_i64]; omega)
            have HN := Aside0.mk (fun (W : World) (hW : Sk b a n c s kb ko keys w W) => NX.out W (I3 + 1) ((j : Int) + 1) ((j : Int) + 1) true hW (by have := HZ.out; omega) (by have := HZ.out; omega) (by omega) (by omega) (by omega) (by omega) (by rw [← Nat.add_assoc, HP.out.2]; exact h))
            rw [hcc] at B3
            have hxe : p + 1 = a + I1 := by have := HP.out; omega
            have hze : a + I2 - 1 = a + K2 := by omega
            rw [hxe, hze] at hn
            have hKL : ∀ W, Sk b a n c s kb ko keys w W → W.cell? ⟨kb, ko + j, none⟩ = some (.string (keys.getD j ByteArray.empty)) := fun W hW => hW.keyW.cell j hj
            obtain ⟨K, hK⟩ : ∃ K, keys.getD j ByteArray.empty = K := ⟨_, rfl⟩
            rw [hK] at hKL hk
            have HKL := Aside0.mk hKL
            have HBB := Aside0.mk (show ((strOfNums nm).toList == K.toList) = true from beq_iff_eq.2 hk)
            have j1 : j < N := by have := HE.out.2.2.2.2.2.2; omega
            have HJ := Aside0.mk (show j < N from j1)
            have HTe := Aside0.mk (show a + K2 ≤ s.size from by have := HE.out.1; have := HZ.out; omega)
            have s1 : (I1 : Int) ≤ (K2 : Int) := by have := HZ.out; omega
            have s1' : I1 ≤ K2 := by omega
            have s2 : (K2 : Int) ≤ (c : Int) := by have := HZ.out; have := HE.out.2.2.1; omega
            have s2' : K2 ≤ c := by omega
            have HC := Aside0.mk (show K2 - I1 ≤ c - I1 from by omega)
            clear w2 w3 w4 w5 hxe hze
            generalize hL : ((j : Int) + 1) = L at HN ⊢
            have l1 : decide (L < 1) = false := decide_eq_false (by omega)
            have l2 : decide (L ≤ (N : Int)) = true := decide_eq_true (by have := HJ.out; omega)
            have j2 : (j : Int) < (N : Int) := by omega
            subst hkl
            have lN : (L == (N : Int)) = false := beq_eq_false_iff_ne.2 (by have := HE.out.2.2.2.2.2.2; omega)
            obtain ⟨wl, wk⟩ : IntKind.i64.wrap (L - 1) = (j : Int) ∧ IntKind.i64.wrap ((j : Int) + 1) = L := by
              have := HE.out; have := HJ.out; have := HV.out.lev; have := HZ.out
              clear w1 w6 w7 w8 w9 w10 w11
              exact ⟨by rw [IntKind.wrap_i64]; omega, by rw [IntKind.wrap_i64]; omega⟩
            cases es with
            | false =>
              have hnm : nm = win s (a + I1) (a + K2) := by unfold NMs at hn; rw [if_neg Bool.false_ne_true] at hn; exact hn
              have KE := Aside0.mk (show ∀ (W : World) (P : Nat), W.cell? ⟨P, 0, none⟩ = some (.slice (some ⟨b, a + I1, none⟩) (K2 - I1) (c - I1)) → Tx b s W → _ from fun W P h1 h2 => equal_calls P b (a + I1) (K2 - I1) (c - I1) nm K W h1 (by rw [hnm, win_len]; omega) (by rw [hnm]; exact h2.hd _ _ HTe.out))
              rw [HBB.out] at KE
              clear h h1 hbx hp he pq qt te hke hkn hu hv hI1 hI4 hK2 hcc hn hk hK hKL hj hL hnm NX hl
              have g1 := HS0.out.cfg0
              have g2 := HS0.out.cfg1
              have g3 := HS0.out.cfg2
              go_wp2
              go_region_held3 (fun w' => w'.cell? ⟨w.heap.size, 0, none⟩ = some (.bool false) ∧ w'.cell? ⟨w.heap.size, 1, none⟩ = some (.bool false) ∧ w'.cell? ⟨w.heap.size, 2, none⟩ = some (.int .i64 0) ∧ w'.cell? ⟨w.heap.size + 1, 0, none⟩ = some (.slice (some ⟨b, a, none⟩) n c) ∧ Aside0 (Sk b a n c s kb ko keys w w'))
                (first | exact HS0.out.cells | exact HS0.out.drew.cells | exact HS1.out.cells | exact HS1.out.drew.cells)
                (first | (go_at_call 53; (with_reducible refine (K1.out _ HS0.out.drew).mono ?_); rintro e' w1 ⟨rfl, HB⟩; have HS1 := Aside0.mk (HS0.out.drew.more HB); clear HB))
              clear g0 g1 g2 g3 x0
              have g0 := HS1.out.data.cell
              have g1 := HS1.out.cfg0
              have g2 := HS1.out.cfg1
              have g3 := HS1.out.cfg2
              go_wp2
              go_region_held3 (fun w' => w'.cell? ⟨w.heap.size, 0, none⟩ = some (.bool false) ∧ w'.cell? ⟨w.heap.size, 1, none⟩ = some (.bool false) ∧ w'.cell? ⟨w.heap.size, 2, none⟩ = some (.int .i64 0) ∧ w'.cell? ⟨w.heap.size + 1, 0, none⟩ = some (.slice (some ⟨b, a, none⟩) n c) ∧ Aside0 (Sk b a n c s kb ko keys w w'))
                (first | exact HS1.out.cells | exact HS1.out.drew.cells | exact HS2.out.cells | exact HS2.out.drew.cells)
                (first | (go_at_call 48; (with_reducible refine (K3.out _ HS1.out.drew).mono ?_); rintro e' w2 ⟨rfl, HB⟩; have HS2 := Aside0.mk (HS1.out.drew.more HB); clear HB))
              clear g0 g1 g2 g3
              have g0 := HS2.out.data.cell
              have x3 := B3.out _ HS2.out
              have gk := fun o => HKL.out _ (HS2.out.more (below_alloc_ w2 o))
              go_wp2_with (go_at_call 66; (with_reducible refine (KE.out _ _ (Bx.new _ _ _).cell (HS2.out.more (below_alloc_ _ _)).textW).mono ?_); rintro e' w3 ⟨rfl, rfl⟩)
              go_roundw
              case rel => exact ⟨_, _, I3 + 1, true, rfl, rfl, by simp, rfl, ⟨HN.out _ (HS2.out.more (below_alloc_ _ _))⟩⟩
              case measure => have := HZ.out; have := HM.out; simp [intOf]; omega
            | true =>
              have hnm : 92 ∈ win s (a + I1) (a + K2) ∧ Un (win s (a + I1) (a + K2)) nm := by unfold NMs at hn; rw [if_pos rfl] at hn; exact hn
              have KU := Aside0.mk (show ∀ (Q : Nat) (v : Value) (W : World), Sq b a n c s kb ko keys Q v w W → _ from fun Q v W hW => hW.unesc hnm.2 hnm.1 HTe.out HE.out.2.1 (c - I1) (by have := HC.out; omega))
              rw [show a + K2 - (a + I1) = K2 - I1 from by omega] at KU
              have KE := Aside0.mk (show ∀ (W : World) (P G cp : Nat), W.cell? ⟨P, 0, none⟩ = some (.slice (some ⟨G, 0, none⟩) nm.length cp) → Hd G 0 nm W → _ from fun W P G cp h1 h2 => equal_calls P G 0 nm.length cp nm K W h1 rfl h2)
              rw [HBB.out] at KE
              obtain ⟨ml, hml⟩ : ∃ ml, nm.length = ml := ⟨_, rfl⟩
              rw [hml] at KU KE
              have hst := fun (W : World) (g : Nat) => stack_slice W g
              clear h h1 hbx hp he pq qt te hke hkn hu hv hI1 hI4 hK2 hcc hn hk hK hKL hj hL hnm hml NX hl
              have g1 := HS0.out.cfg0
              have g2 := HS0.out.cfg1
              have g3 := HS0.out.cfg2
              go_wp2
              go_region_held3 (fun w' => w'.cell? ⟨w.heap.size, 0, none⟩ = some (.bool false) ∧ w'.cell? ⟨w.heap.size, 1, none⟩ = some (.bool false) ∧ w'.cell? ⟨w.heap.size, 2, none⟩ = some (.int .i64 0) ∧ w'.cell? ⟨w.heap.size + 1, 0, none⟩ = some (.slice (some ⟨b, a, none⟩) n c) ∧ Aside0 (Sk b a n c s kb ko keys w w'))
                (first | exact HS0.out.cells | exact HS0.out.drew.cells | exact HS1.out.cells | exact HS1.out.drew.cells)
                (first | (go_at_call 53; (with_reducible refine (K1.out _ HS0.out.drew).mono ?_); rintro e' w1 ⟨rfl, HB⟩; have HS1 := Aside0.mk (HS0.out.drew.more HB); clear HB))
              clear g0 g1 g2 g3 x0
              have g0 := HS1.out.data.cell
              have g1 := HS1.out.cfg0
              have g2 := HS1.out.cfg1
              have g3 := HS1.out.cfg2
              go_wp2
              go_region_held3 (fun w' => w'.cell? ⟨w.heap.size, 0, none⟩ = some (.bool false) ∧ w'.cell? ⟨w.heap.size, 1, none⟩ = some (.bool false) ∧ w'.cell? ⟨w.heap.size, 2, none⟩ = some (.int .i64 0) ∧ w'.cell? ⟨w.heap.size + 1, 0, none⟩ = some (.slice (some ⟨b, a, none⟩) n c) ∧ Aside0 (Sk b a n c s kb ko keys w w'))
                (first | exact HS1.out.cells | exact HS1.out.drew.cells | exact HS2.out.cells | exact HS2.out.drew.cells)
                (first | (go_at_call 48; (with_reducible refine (K3.out _ HS1.out.drew).mono ?_); rintro e' w2 ⟨rfl, HB⟩; have HS2 := Aside0.mk (HS1.out.drew.more HB); clear HB))
              clear g0 g1 g2 g3
              have g0 := HS2.out.data.cell
              have x3 := B3.out _ HS2.out
              go_wp2
              have HS3 := Aside0.mk (Sq.start HS2.out (.slice none 0 0) 51)
              clear g0
              have g0 := HS3.out.sk.data.cell
              have g1 := HS3.out.sk.cfg0
              have g2 := HS3.out.sk.cfg1
              have g3 := HS3.out.sk.cfg2
              go_region_held3 (fun w' => w'.cell? ⟨w.heap.size, 0, none⟩ = some (.bool false) ∧ w'.cell? ⟨w.heap.size, 1, none⟩ = some (.bool false) ∧ w'.cell? ⟨w.heap.size, 2, none⟩ = some (.int .i64 0) ∧ w'.cell? ⟨w.heap.size + 1, 0, none⟩ = some (.slice (some ⟨b, a, none⟩) n c) ∧ Aside0 (Sq b a n c s kb ko keys w2.heap.size (.slice none 0 0) w w'))
                (first | exact HS3.out.cells | exact HS3.out.drew.cells | exact HS4.out.cells | exact HS4.out.drew.cells)
                (first | (go_at_call 54; (with_reducible refine (KU.out _ _ _ HS3.out.drew).mono ?_); rintro e' w4 ⟨G, cp, rfl, hGQ, hGH, hSq⟩; have HS4 := Aside0.mk hSq; have HGQ := Aside0.mk hGQ; have HGH := Aside0.mk hGH; clear hGQ hGH hSq))
              have q0 := HS4.out.bx.cell
              have q1 := HS4.out.bx.free
              have gk := fun v => HKL.out _ (HS4.out.sk.put HS4.out.q v)
              go_wp2_with (go_at_call 66; (with_reducible refine (KE.out _ _ G cp HS4.out.bx.put.cell (HGH.out.other HGQ.out)).mono ?_); rintro e' w5 ⟨rfl, rfl⟩)
              go_roundw
              case rel => exact ⟨_, _, I3 + 1, true, rfl, rfl, by simp, rfl, ⟨HN.out _ (HS4.out.sk.put HS4.out.q _)⟩⟩
              case measure => have := HZ.out; have := HM.out; simp [intOf]; omega
          | @keyNe _ _ _ j _ q t es _ nm _ h1 hcc hn hj hk h => as_aux_lemma =>
            have hz34 := h1.c
            rw [hbx] at hz34
            subst hz34
            obtain ⟨ke, hke⟩ := h1.se
            obtain ⟨kn, hkn⟩ := h1.nt
            have pq := h1.pq
            have qt := h1.qt
            have te := h1.te
            obtain ⟨I1, hI1⟩ : ∃ I1, i2 + 1 = I1 := ⟨_, rfl⟩
            obtain ⟨I2, rfl⟩ : ∃ I2, q = a + I2 := ⟨q - a, by have := HP.out.1; omega⟩
            obtain ⟨I3, rfl⟩ : ∃ I3, t = a + I3 := ⟨t - a, by have := HP.out.1; omega⟩
            obtain ⟨u, hu⟩ : ∃ u, a + I2 - (p + 1) = u := ⟨_, rfl⟩
            obtain ⟨v, hv⟩ : ∃ v, a + I3 - (a + I2) = v := ⟨_, rfl⟩
            obtain ⟨I4, hI4⟩ : ∃ I4, I3 = I4 + 1 := ⟨I3 - 1, by have := HP.out.1; omega⟩
            obtain ⟨K2, hK2⟩ : ∃ K2, I2 = K2 + 1 := ⟨I2 - 1, by have := HP.out.1; omega⟩
            have HZ := Aside0.mk (show i2 + 1 = I1 ∧ I1 + u = I2 ∧ I2 + v = I3 ∧ I3 < n ∧ i2 < I3 ∧ I1 ≤ K2 from by have := HP.out; omega)
            have K1 := Aside0.mk (show ∀ W, Sk b a n c s kb ko keys w W → _ from fun W hW => sEC_.calls ke false false 0 (some ⟨b, p + 1, none⟩) (c - I1) (win s (p + 1) e) 34 ((a + I2 - (p + 1) : Nat) : Int) es W ((hW.textW.hd (p + 1) e (by rw [← HP.out.2]; exact HE.out.1)).reads (by rw [win_len]; have := HE.out; have := HP.out; omega)) (by rw [win_len]; have := HE.out; have := HP.out; omega) hke hW.globW)
            rw [win_len, hu, show e - (p + 1) = n - I1 from by have := HP.out; omega, show p + 1 = a + I1 from by have := HP.out; omega] at K1
            have K3 := Aside0.mk (show ∀ W, Sk b a n c s kb ko keys w W → _ from fun W hW => next_calls hkn b (c - I2) W (by rw [← HP.out.2]; exact HE.out.1) HE.out.2.1 (by have := HE.out; have := HP.out; omega) hW.textW)
            rw [hv, show e - (a + I2) = n - I2 from by have := HP.out; omega] at K3
            have B3 := Aside0.mk (show ∀ W, Sk b a n c s kb ko keys w W → _ from fun W hW => hW.textW.cell (a + I3) (by have := HE.out; have := HZ.out; omega))
            have HS0 := Aside0.mk HV.out.sk
            have m1 : ((u : Int) == -1) = false := beq_eq_false_iff_ne.2 (by omega)
            have m2 : ((v : Int) == -1) = false := beq_eq_false_iff_ne.2 (by omega)
            have m3 : (I1 : Int) ≤ (n : Int) := by have := HZ.out; omega
            have m3' : I1 ≤ n := by omega
            have m4 : c ≠ I1 := by have := HE.out.2.2.1; have := HZ.out; omega
            have m5 : (I2 : Int) ≤ (n : Int) := by have := HZ.out; omega
            have m5' : I2 ≤ n := by omega
            have m6 : c ≠ I2 := by have := HE.out.2.2.1; have := HZ.out; omega
            have m7 : (I3 : Int) < (n : Int) := by have := HZ.out; omega
            have m7' : I3 < n := by omega
            clear w1
            obtain ⟨w1, w6, w7, w8, w9, w10, w11⟩ : IntKind.i64.wrap ((i2 : Int) + 1) = (I1 : Int) ∧ IntKind.i64.wrap ((I1 : Int) + (u : Int)) = (I2 : Int) ∧ IntKind.i64.wrap ((I2 : Int) - 1) = (K2 : Int) ∧ IntKind.i64.wrap ((I2 : Int) + (v : Int)) = (I3 : Int) ∧ IntKind.i64.wrap ((I3 : Int) - 1) = (I4 : Int) ∧ IntKind.i64.wrap ((I4 : Int) + 1) = (I3 : Int) ∧ IntKind.i64.wrap ((I3 : Int) + 1) = (I3 : Int) + 1 := by
              have := HE.out.1; have := HE.out.2.1; have := HZ.out
              clear w2 w3 w4 w5
              refine ⟨?_, ?_, ?_, ?_, ?_, ?_, ?_⟩ <;> (rw [IntKind.wrap_i64]; omega)
            have HN := Aside0.mk (fun (W : World) (hW : Sk b a n c s kb ko keys w W) => NX.out W (I3 + 1) kl ((j : Int) + 1) false hW (by have := HZ.out; omega) (by have := HZ.out; omega) (by omega) (by omega) (by omega) (by omega) (by rw [← Nat.add_assoc, HP.out.2]; exact h))
            rw [hcc] at B3
            have hxe : p + 1 = a + I1 := by have := HP.out; omega
            have hze : a + I2 - 1 = a + K2 := by omega
            rw [hxe, hze] at hn
            have hKL : ∀ W, Sk b a n c s kb ko keys w W → W.cell? ⟨kb, ko + j, none⟩ = some (.string (keys.getD j ByteArray.empty)) := fun W hW => hW.keyW.cell j hj
            obtain ⟨K, hK⟩ : ∃ K, keys.getD j ByteArray.empty = K := ⟨_, rfl⟩
            rw [hK] at hKL hk
            have HKL := Aside0.mk hKL
            have HBB := Aside0.mk (show ((strOfNums nm).toList == K.toList) = false from beq_eq_false_iff_ne.2 hk)
            have j1 : j < N := by have := HE.out.2.2.2.2.2.2; omega
            have HJ := Aside0.mk (show j < N from j1)
            have HTe := Aside0.mk (show a + K2 ≤ s.size from by have := HE.out.1; have := HZ.out; omega)
            have s1 : (I1 : Int) ≤ (K2 : Int) := by have := HZ.out; omega
            have s1' : I1 ≤ K2 := by omega
            have s2 : (K2 : Int) ≤ (c : Int) := by have := HZ.out; have := HE.out.2.2.1; omega
            have s2' : K2 ≤ c := by omega
            have HC := Aside0.mk (show K2 - I1 ≤ c - I1 from by omega)
            clear w2 w3 w4 w5 hxe hze
            generalize hL : ((j : Int) + 1) = L at HN ⊢
            have l1 : decide (L < 1) = false := decide_eq_false (by omega)
            have l2 : decide (L ≤ (N : Int)) = true := decide_eq_true (by have := HJ.out; omega)
            have j2 : (j : Int) < (N : Int) := by omega
            obtain ⟨wl, wk⟩ : IntKind.i64.wrap (L - 1) = (j : Int) ∧ True := by
              have := HE.out; have := HJ.out; have := HV.out.lev; have := HZ.out
              clear w1 w6 w7 w8 w9 w10 w11
              exact ⟨by rw [IntKind.wrap_i64]; omega, trivial⟩
            cases es with
            | false =>
              have hnm : nm = win s (a + I1) (a + K2) := by unfold NMs at hn; rw [if_neg Bool.false_ne_true] at hn; exact hn
              have KE := Aside0.mk (show ∀ (W : World) (P : Nat), W.cell? ⟨P, 0, none⟩ = some (.slice (some ⟨b, a + I1, none⟩) (K2 - I1) (c - I1)) → Tx b s W → _ from fun W P h1 h2 => equal_calls P b (a + I1) (K2 - I1) (c - I1) nm K W h1 (by rw [hnm, win_len]; omega) (by rw [hnm]; exact h2.hd _ _ HTe.out))
              rw [HBB.out] at KE
              clear h h1 hbx hp he pq qt te hke hkn hu hv hI1 hI4 hK2 hcc hn hk hK hKL hj hL hnm NX
              have g1 := HS0.out.cfg0
              have g2 := HS0.out.cfg1
              have g3 := HS0.out.cfg2
              go_wp2
              go_region_held3 (fun w' => w'.cell? ⟨w.heap.size, 0, none⟩ = some (.bool false) ∧ w'.cell? ⟨w.heap.size, 1, none⟩ = some (.bool false) ∧ w'.cell? ⟨w.heap.size, 2, none⟩ = some (.int .i64 0) ∧ w'.cell? ⟨w.heap.size + 1, 0, none⟩ = some (.slice (some ⟨b, a, none⟩) n c) ∧ Aside0 (Sk b a n c s kb ko keys w w'))
                (first | exact HS0.out.cells | exact HS0.out.drew.cells | exact HS1.out.cells | exact HS1.out.drew.cells)
                (first | (go_at_call 53; (with_reducible refine (K1.out _ HS0.out.drew).mono ?_); rintro e' w1 ⟨rfl, HB⟩; have HS1 := Aside0.mk (HS0.out.drew.more HB); clear HB))
              clear g0 g1 g2 g3 x0
              have g0 := HS1.out.data.cell
              have g1 := HS1.out.cfg0
              have g2 := HS1.out.cfg1
              have g3 := HS1.out.cfg2
              go_wp2
              go_region_held3 (fun w' => w'.cell? ⟨w.heap.size, 0, none⟩ = some (.bool false) ∧ w'.cell? ⟨w.heap.size, 1, none⟩ = some (.bool false) ∧ w'.cell? ⟨w.heap.size, 2, none⟩ = some (.int .i64 0) ∧ w'.cell? ⟨w.heap.size + 1, 0, none⟩ = some (.slice (some ⟨b, a, none⟩) n c) ∧ Aside0 (Sk b a n c s kb ko keys w w'))
                (first | exact HS1.out.cells | exact HS1.out.drew.cells | exact HS2.out.cells | exact HS2.out.drew.cells)
                (first | (go_at_call 48; (with_reducible refine (K3.out _ HS1.out.drew).mono ?_); rintro e' w2 ⟨rfl, HB⟩; have HS2 := Aside0.mk (HS1.out.drew.more HB); clear HB))
              clear g0 g1 g2 g3
              have g0 := HS2.out.data.cell
              have x3 := B3.out _ HS2.out
              have gk := fun o => HKL.out _ (HS2.out.more (below_alloc_ w2 o))
              go_wp2_with (go_at_call 66; (with_reducible refine (KE.out _ _ (Bx.new _ _ _).cell (HS2.out.more (below_alloc_ _ _)).textW).mono ?_); rintro e' w3 ⟨rfl, rfl⟩)
              go_roundw
              case rel => exact ⟨_, _, I3 + 1, false, rfl, rfl, by simp, rfl, ⟨HN.out _ (HS2.out.more (below_alloc_ _ _))⟩⟩
              case measure => have := HZ.out; have := HM.out; simp [intOf]; omega
            | true =>
              have hnm : 92 ∈ win s (a + I1) (a + K2) ∧ Un (win s (a + I1) (a + K2)) nm := by unfold NMs at hn; rw [if_pos rfl] at hn; exact hn
              have KU := Aside0.mk (show ∀ (Q : Nat) (v : Value) (W : World), Sq b a n c s kb ko keys Q v w W → _ from fun Q v W hW => hW.unesc hnm.2 hnm.1 HTe.out HE.out.2.1 (c - I1) (by have := HC.out; omega))
              rw [show a + K2 - (a + I1) = K2 - I1 from by omega] at KU
              have KE := Aside0.mk (show ∀ (W : World) (P G cp : Nat), W.cell? ⟨P, 0, none⟩ = some (.slice (some ⟨G, 0, none⟩) nm.length cp) → Hd G 0 nm W → _ from fun W P G cp h1 h2 => equal_calls P G 0 nm.length cp nm K W h1 rfl h2)
              rw [HBB.out] at KE
              obtain ⟨ml, hml⟩ : ∃ ml, nm.length = ml := ⟨_, rfl⟩
              rw [hml] at KU KE
              have hst := fun (W : World) (g : Nat) => stack_slice W g
              clear h h1 hbx hp he pq qt te hke hkn hu hv hI1 hI4 hK2 hcc hn hk hK hKL hj hL hnm hml NX
              have g1 := HS0.out.cfg0
              have g2 := HS0.out.cfg1
              have g3 := HS0.out.cfg2
              go_wp2
              go_region_held3 (fun w' => w'.cell? ⟨w.heap.size, 0, none⟩ = some (.bool false) ∧ w'.cell? ⟨w.heap.size, 1, none⟩ = some (.bool false) ∧ w'.cell? ⟨w.heap.size, 2, none⟩ = some (.int .i64 0) ∧ w'.cell? ⟨w.heap.size + 1, 0, none⟩ = some (.slice (some ⟨b, a, none⟩) n c) ∧ Aside0 (Sk b a n c s kb ko keys w w'))
                (first | exact HS0.out.cells | exact HS0.out.drew.cells | exact HS1.out.cells | exact HS1.out.drew.cells)
                (first | (go_at_call 53; (with_reducible refine (K1.out _ HS0.out.drew).mono ?_); rintro e' w1 ⟨rfl, HB⟩; have HS1 := Aside0.mk (HS0.out.drew.more HB); clear HB))
              clear g0 g1 g2 g3 x0
              have g0 := HS1.out.data.cell
              have g1 := HS1.out.cfg0
              have g2 := HS1.out.cfg1
              have g3 := HS1.out.cfg2
              go_wp2
              go_region_held3 (fun w' => w'.cell? ⟨w.heap.size, 0, none⟩ = some (.bool false) ∧ w'.cell? ⟨w.heap.size, 1, none⟩ = some (.bool false) ∧ w'.cell? ⟨w.heap.size, 2, none⟩ = some (.int .i64 0) ∧ w'.cell? ⟨w.heap.size + 1, 0, none⟩ = some (.slice (some ⟨b, a, none⟩) n c) ∧ Aside0 (Sk b a n c s kb ko keys w w'))
                (first | exact HS1.out.cells | exact HS1.out.drew.cells | exact HS2.out.cells | exact HS2.out.drew.cells)
                (first | (go_at_call 48; (with_reducible refine (K3.out _ HS1.out.drew).mono ?_); rintro e' w2 ⟨rfl, HB⟩; have HS2 := Aside0.mk (HS1.out.drew.more HB); clear HB))
              clear g0 g1 g2 g3
              have g0 := HS2.out.data.cell
              have x3 := B3.out _ HS2.out
              go_wp2
              have HS3 := Aside0.mk (Sq.start HS2.out (.slice none 0 0) 51)
              clear g0
              have g0 := HS3.out.sk.data.cell
              have g1 := HS3.out.sk.cfg0
              have g2 := HS3.out.sk.cfg1
              have g3 := HS3.out.sk.cfg2
              go_region_held3 (fun w' => w'.cell? ⟨w.heap.size, 0, none⟩ = some (.bool false) ∧ w'.cell? ⟨w.heap.size, 1, none⟩ = some (.bool false) ∧ w'.cell? ⟨w.heap.size, 2, none⟩ = some (.int .i64 0) ∧ w'.cell? ⟨w.heap.size + 1, 0, none⟩ = some (.slice (some ⟨b, a, none⟩) n c) ∧ Aside0 (Sq b a n c s kb ko keys w2.heap.size (.slice none 0 0) w w'))
                (first | exact HS3.out.cells | exact HS3.out.drew.cells | exact HS4.out.cells | exact HS4.out.drew.cells)
                (first | (go_at_call 54; (with_reducible refine (KU.out _ _ _ HS3.out.drew).mono ?_); rintro e' w4 ⟨G, cp, rfl, hGQ, hGH, hSq⟩; have HS4 := Aside0.mk hSq; have HGQ := Aside0.mk hGQ; have HGH := Aside0.mk hGH; clear hGQ hGH hSq))
              have q0 := HS4.out.bx.cell
              have q1 := HS4.out.bx.free
              have gk := fun v => HKL.out _ (HS4.out.sk.put HS4.out.q v)
              go_wp2_with (go_at_call 66; (with_reducible refine (KE.out _ _ G cp HS4.out.bx.put.cell (HGH.out.other HGQ.out)).mono ?_); rintro e' w5 ⟨rfl, rfl⟩)
              go_roundw
              case rel => exact ⟨_, _, I3 + 1, false, rfl, rfl, by simp, rfl, ⟨HN.out _ (HS4.out.sk.put HS4.out.q _)⟩⟩
              case measure => have := HZ.out; have := HM.out; simp [intOf]; omega
          | @past _ _ _ _ _ q _ hp2 hcc hb pq qe h => as_aux_lemma =>
            rw [hbx] at hcc
            subst hcc
            obtain ⟨kb2, hkb⟩ := hb
            obtain ⟨i3, rfl⟩ : ∃ i3, q = a + i3 := ⟨q - a, by have := HP.out.1; omega⟩
            obtain ⟨m, hm⟩ : ∃ m, a + i3 - p = m := ⟨_, rfl⟩
            have K1 := Aside0.mk (show ∀ W, Sk b a n c s kb ko keys w W → _ from fun W hW => bEC_.calls kb2 false false 0 (some ⟨b, p, none⟩) (c - i2) (win s p e) 123 125 ((a + i3 - p : Nat) : Int) W ((hW.textW.hd p e (by rw [← HP.out.2]; exact HE.out.1)).reads (by rw [win_len]; have := HE.out; have := HP.out; omega)) (by rw [win_len]; have := HE.out; have := HP.out; omega) hkb hW.globW)
            rw [win_len, hm, show e - p = n - i2 from by have := HP.out; omega, ← hp] at K1
            have HN := Aside0.mk (fun (W : World) (hW : Sk b a n c s kb ko keys w W) => NX.out W i3 kl lev false hW (by have := HP.out; omega) (by have := HP.out; omega) (by omega) (by omega) (by omega) (by omega) (by rw [HP.out.2]; exact h))
            have HR := Aside0.mk (show i2 < i3 ∧ i3 ≤ n from by have := HP.out; omega)
            have HS0 := Aside0.mk HV.out.sk
            have m1 : (m : Int) ≠ -1 := by omega
            have m2 : ((m : Int) == -1) = false := beq_eq_false_iff_ne.2 m1
            have m3 : (i2 : Int) ≤ (n : Int) := by omega
            have m3' : i2 ≤ n := by omega
            have m4 : c ≠ i2 := by have := HE.out.2.2.1; omega
            obtain ⟨w6, w7, w8⟩ : IntKind.i64.wrap ((m : Int) - 1) = (m : Int) - 1 ∧ IntKind.i64.wrap ((i2 : Int) + ((m : Int) - 1)) = (i2 : Int) + ((m : Int) - 1) ∧ IntKind.i64.wrap ((i2 : Int) + ((m : Int) - 1) + 1) = (i3 : Int) := by
              have := HE.out.1; have := HE.out.2.1; have := HP.out
              clear w1 w2 w3 w4 w5
              refine ⟨?_, ?_, ?_⟩ <;> (rw [IntKind.wrap_i64]; omega)
            clear h hp2 hbx hp he pq qe hkb hm
            have g1 := HS0.out.cfg0
            have g2 := HS0.out.cfg1
            have g3 := HS0.out.cfg2
            go_wp2
            go_region_held3 (fun w' => w'.cell? ⟨w.heap.size, 0, none⟩ = some (.bool false) ∧ w'.cell? ⟨w.heap.size, 1, none⟩ = some (.bool false) ∧ w'.cell? ⟨w.heap.size, 2, none⟩ = some (.int .i64 0) ∧ w'.cell? ⟨w.heap.size + 1, 0, none⟩ = some (.slice (some ⟨b, a, none⟩) n c) ∧ Aside0 (Sk b a n c s kb ko keys w w'))
              (first | exact HS0.out.cells | exact HS0.out.drew.cells | exact HS1.out.cells | exact HS1.out.drew.cells)
              (first | (go_at_call 67; (with_reducible refine (K1.out _ HS0.out.drew).mono ?_); rintro e' w1 ⟨rfl, HB⟩; have HS1 := Aside0.mk (HS0.out.drew.more HB); clear HB))
            go_wp2
            go_roundw
            case rel => exact ⟨kl, lev, i3, false, rfl, rfl, by simp, rfl, ⟨HN.out _ HS1.out⟩⟩
            case measure => have := HR.out; have := HM.out; simp [intOf]; omega
          | @arr _ _ _ _ _ q _ _ hp2 hcc hk hb pq qe h => as_aux_lemma =>
            rw [hbx] at hcc
            subst hcc
            obtain ⟨kb2, hkb⟩ := hb
            obtain ⟨i3, rfl⟩ : ∃ i3, q = a + i3 := ⟨q - a, by have := HP.out.1; omega⟩
            obtain ⟨m, hm⟩ : ∃ m, a + i3 - p = m := ⟨_, rfl⟩
            have K1 := Aside0.mk (show ∀ W, Sk b a n c s kb ko keys w W → _ from fun W hW => bEC_.calls kb2 false false 0 (some ⟨b, p, none⟩) (c - i2) (win s p e) 91 93 ((a + i3 - p : Nat) : Int) W ((hW.textW.hd p e (by rw [← HP.out.2]; exact HE.out.1)).reads (by rw [win_len]; have := HE.out; have := HP.out; omega)) (by rw [win_len]; have := HE.out; have := HP.out; omega) hkb hW.globW)
            rw [win_len, hm, show e - p = n - i2 from by have := HP.out; omega, ← hp] at K1
            have HN := Aside0.mk (fun (W : World) (hW : Sk b a n c s kb ko keys w W) => NX.out W i3 kl lev lm hW (by have := HP.out; omega) (by have := HP.out; omega) (by omega) (by omega) (by omega) (by omega) (by rw [HP.out.2]; exact h))
            have HR := Aside0.mk (show i2 < i3 ∧ i3 ≤ n from by have := HP.out; omega)
            have HS0 := Aside0.mk HV.out.sk
            have m1 : (m : Int) ≠ -1 := by omega
            have m2 : ((m : Int) == -1) = false := beq_eq_false_iff_ne.2 m1
            have m3 : (i2 : Int) ≤ (n : Int) := by omega
            have m3' : i2 ≤ n := by omega
            have m4 : c ≠ i2 := by have := HE.out.2.2.1; omega
            obtain ⟨w6, w7, w8⟩ : IntKind.i64.wrap ((m : Int) - 1) = (m : Int) - 1 ∧ IntKind.i64.wrap ((i2 : Int) + ((m : Int) - 1)) = (i2 : Int) + ((m : Int) - 1) ∧ IntKind.i64.wrap ((i2 : Int) + ((m : Int) - 1) + 1) = (i3 : Int) := by
              have := HE.out.1; have := HE.out.2.1; have := HP.out
              clear w1 w2 w3 w4 w5
              refine ⟨?_, ?_, ?_⟩ <;> (rw [IntKind.wrap_i64]; omega)
            clear h hp2 hbx hp he pq qe hkb hm
            by_cases ck : kl = lev
            · obtain ⟨k0, k1, k2⟩ := hk ck
              obtain ⟨j, rfl⟩ : ∃ j : Nat, lev = (j : Int) := ⟨lev.toNat, by omega⟩
              subst ck
              rw [Int.toNat_natCast] at k2
              have gk := HS0.out.keyW.cell j (by omega)
              obtain ⟨K, hK⟩ : ∃ K, keys.getD j ByteArray.empty = K := ⟨_, rfl⟩
              rw [hK] at gk k2
              have j1 : j < N := by have := HE.out.2.2.2.2.2.2; omega
              have j2 : (j : Int) < (N : Int) := by omega
              by_cases c0 : 0 < K.size
              · have e0 : decide (0 < (K.size : Int)) = true := decide_eq_true (by omega)
                have e0' : decide (0 < K.size) = true := decide_eq_true c0
                have e1 : (bt K 0 == 91) = false := beq_eq_false_iff_ne.2 (fun hh => k2 ⟨c0, hh⟩)
                have hx4 := bt_lit K 0 0 rfl
                have qi4 : (0 < (K.size : Int)) = True := eq_true (by omega)
                have q4 : (0 < K.size) = True := eq_true c0
                clear c0 k0 k1 k2 hK hk
                have g1 := HS0.out.cfg0
                have g2 := HS0.out.cfg1
                have g3 := HS0.out.cfg2
                go_wp2
                go_region_held3 (fun w' => w'.cell? ⟨w.heap.size, 0, none⟩ = some (.bool false) ∧ w'.cell? ⟨w.heap.size, 1, none⟩ = some (.bool false) ∧ w'.cell? ⟨w.heap.size, 2, none⟩ = some (.int .i64 0) ∧ w'.cell? ⟨w.heap.size + 1, 0, none⟩ = some (.slice (some ⟨b, a, none⟩) n c) ∧ Aside0 (Sk b a n c s kb ko keys w w'))
                  (first | exact HS0.out.cells | exact HS0.out.drew.cells | exact HS1.out.cells | exact HS1.out.drew.cells)
                  (first | (go_at_call 67; (with_reducible refine (K1.out _ HS0.out.drew).mono ?_); rintro e' w1 ⟨rfl, HB⟩; have HS1 := Aside0.mk (HS0.out.drew.more HB); clear HB))
                go_wp2
                go_roundw
                case rel => exact ⟨(j : Int), (j : Int), i3, lm, rfl, rfl, by simp, rfl, ⟨HN.out _ HS1.out⟩⟩
                case measure => have := HR.out; have := HM.out; simp [intOf]; omega
              · have e0 : decide (0 < (K.size : Int)) = false := decide_eq_false (by omega)
                have e0' : decide (0 < K.size) = false := decide_eq_false c0
                clear c0 k0 k1 k2 hK hk
                have g1 := HS0.out.cfg0
                have g2 := HS0.out.cfg1
                have g3 := HS0.out.cfg2
                go_wp2
                go_region_held3 (fun w' => w'.cell? ⟨w.heap.size, 0, none⟩ = some (.bool false) ∧ w'.cell? ⟨w.heap.size, 1, none⟩ = some (.bool false) ∧ w'.cell? ⟨w.heap.size, 2, none⟩ = some (.int .i64 0) ∧ w'.cell? ⟨w.heap.size + 1, 0, none⟩ = some (.slice (some ⟨b, a, none⟩) n c) ∧ Aside0 (Sk b a n c s kb ko keys w w'))
                  (first | exact HS0.out.cells | exact HS0.out.drew.cells | exact HS1.out.cells | exact HS1.out.drew.cells)
                  (first | (go_at_call 67; (with_reducible refine (K1.out _ HS0.out.drew).mono ?_); rintro e' w1 ⟨rfl, HB⟩; have HS1 := Aside0.mk (HS0.out.drew.more HB); clear HB))
                go_wp2
                go_roundw
                case rel => exact ⟨(j : Int), (j : Int), i3, lm, rfl, rfl, by simp, rfl, ⟨HN.out _ HS1.out⟩⟩
                case measure => have := HR.out; have := HM.out; simp [intOf]; omega
            · have e0 : (kl == lev) = false := beq_eq_false_iff_ne.2 ck
              clear ck hk
              have g1 := HS0.out.cfg0
              have g2 := HS0.out.cfg1
              have g3 := HS0.out.cfg2
              go_wp2
              go_region_held3 (fun w' => w'.cell? ⟨w.heap.size, 0, none⟩ = some (.bool false) ∧ w'.cell? ⟨w.heap.size, 1, none⟩ = some (.bool false) ∧ w'.cell? ⟨w.heap.size, 2, none⟩ = some (.int .i64 0) ∧ w'.cell? ⟨w.heap.size + 1, 0, none⟩ = some (.slice (some ⟨b, a, none⟩) n c) ∧ Aside0 (Sk b a n c s kb ko keys w w'))
                (first | exact HS0.out.cells | exact HS0.out.drew.cells | exact HS1.out.cells | exact HS1.out.drew.cells)
                (first | (go_at_call 67; (with_reducible refine (K1.out _ HS0.out.drew).mono ?_); rintro e' w1 ⟨rfl, HB⟩; have HS1 := Aside0.mk (HS0.out.drew.more HB); clear HB))
              go_wp2
              go_roundw
              case rel => exact ⟨kl, lev, i3, lm, rfl, rfl, by simp, rfl, ⟨HN.out _ HS1.out⟩⟩
              case measure => have := HR.out; have := HM.out; simp [intOf]; omega
          | @idx _ _ j _ ai x y f kd _ els _ hp2 hcc hj hk ha hl hx h h0n => as_aux_lemma =>
            rw [hbx] at hcc
            subst hcc
            obtain ⟨K, hK⟩ : ∃ K, keys.getD j ByteArray.empty = K := ⟨_, rfl⟩
            have hKL : ∀ W, Sk b a n c s kb ko keys w W → W.cell? ⟨kb, ko + j, none⟩ = some (.string K) := fun W hW => hK ▸ hW.keyW.cell j hj
            have HKL := Aside0.mk hKL
            rw [hK] at hk
            obtain ⟨k1, k2, k3, k4, k5, k6⟩ := hk
            have j1 : j < N := by have := HE.out.2.2.2.2.2.2; omega
            have hpa : p - a = i2 := by have := HP.out; omega
            have hai : ai < els.length := (List.getElem?_eq_some_iff.1 hx).1
            have hxb := ha.bounds _ (List.mem_of_getElem? hx)
            simp only at hxb
            obtain ⟨L, hL⟩ : ∃ L, j + 1 = L := ⟨_, rfl⟩
            rw [hL] at h h0n
            have hin' : y ≤ s.size := by have := HE.out.1; have := HP.out; omega
            have KAt := Aside0.mk (fun W => Tryz.strconv_Atoi (K.extract 1 (K.size - 1)) (ai : Int) (by rw [ByteArray.size_extract]; omega) k5 W)
            have KA := Aside0.mk (show ∀ (Q : Nat) (W : World), Sx b a n c s kb ko keys Q p ai els 0 w W → _ from fun Q W hW => hW.each (by rw [HP.out.2]; exact ha) (by have := HP.out; omega) HE.out.1 HE.out.2.1 hl HE.out.2.2.1)
            rw [hpa, show a + n - p = n - i2 from by have := HP.out; omega, ← hp] at KA
            have KS := Aside0.mk (show ∀ W, Sk b a n c s kb ko keys w W → ∀ cx, y - x ≤ cx → (kc ≠ L → Calls Tryz.prog 49 #[cfgV, .slice (some ⟨b, x, none⟩) (y - x) cx, .slice (some ⟨kb, ko + L, none⟩) (N - L) (kc - L)] W fun e' w' => e' = .returned (.int .i64 (ret x r)) ∧ Below W.heap.size W w') ∧ (kc = L → Calls Tryz.prog 49 #[cfgV, .slice (some ⟨b, x, none⟩) (y - x) cx, .slice (some ⟨kb, ko, none⟩) 0 0] W fun e' w' => e' = .returned (.int .i64 (ret x r)) ∧ Below W.heap.size W w') from fun W hW cx hcx => by
              have hl2 : (keys.drop L).length = N - L := by rw [List.length_drop, HE.out.2.2.2.2.2.2]
              have hms : ∀ k ∈ keys.drop L, k.size ≤ 2147483647 := fun k hk => HE.out.2.2.2.1 k (List.mem_of_mem_drop hk)
              have hkc := HE.out.2.2.2.2.1
              have hkN := HE.out.2.2.2.2.2.2
              refine ⟨fun hne => ?_, fun heq => ?_⟩
              · have g := HIH.out (keys.drop L) (by omega) s y x r h h0n b cx kb (ko + L) (kc - L) (some ⟨kb, ko + L, none⟩) W hin' HE.out.2.1 (by omega) hcx hms (by omega) trivial (fun _ => rfl) hW.globW hW.textW (hW.keyW.drop L)
                rwa [hl2] at g
              · have g := HIH.out (keys.drop L) (by omega) s y x r h h0n b cx kb (ko + L) 0 (some ⟨kb, ko, none⟩) W hin' HE.out.2.1 (by omega) hcx hms (by omega) trivial (fun hne => absurd (List.eq_nil_of_length_eq_zero (by omega)) hne) hW.globW hW.textW (hW.keyW.drop L)
                rwa [hl2, show N - L = 0 from by omega] at g)
            have HX := Aside0.mk (And.intro hx (And.intro hxb (And.intro h.ge (And.intro hai h.le))))
            have HS0 := Aside0.mk HV.out.sk
            have gk := HKL.out _ HS0.out
            have HPA := Aside0.mk hpa
            have e0 : decide (0 < (K.size : Int)) = true := decide_eq_true (by omega)
            have e0' : decide (0 < K.size) = true := decide_eq_true (by omega)
            have e1 : (bt K 0 == 91) = true := beq_iff_eq.2 k3
            have hx4 := bt_lit K 0 0 rfl
            have qi4 : (0 < (K.size : Int)) = True := eq_true (by omega)
            have q4 : (0 < K.size) = True := eq_true (by omega)
            obtain ⟨z, hz1⟩ : ∃ z, K.size = z + 1 := ⟨K.size - 1, by omega⟩
            have e2 : decide ((K.size : Int) < 3) = false := decide_eq_false (by omega)
            have e2' : decide (K.size < 3) = false := decide_eq_false (by omega)
            have hbz : bt K (z : Int) = 93 := by rw [← k4]; congr 1; omega
            have e3 : (bt K (z : Int) != 93) = false := by rw [hbz]; rfl
            have hx5 := bt_lit K z (z : Int) (Int.toNat_natCast z)
            have r1 : (z : Int) < (K.size : Int) := by omega
            have r1' : z < K.size := by omega
            have r2 : (1 : Int) ≤ (z : Int) := by omega
            have r2' : 1 ≤ z := by omega
            have r3 : (z : Int) ≤ (K.size : Int) := by omega
            have r3' : z ≤ K.size := by omega
            rw [show K.size - 1 = z from by omega] at KAt
            have hsn := slice_no_nil
            have hmf : ∀ (fn : Fn) (first cap : Array Value) (w : World), (Instr.makeFunc fn first cap).run Tryz.prog w = .ok (.func fn first cap) w := fun _ _ _ _ => rfl
            have j2 : (j : Int) < (N : Int) := by omega
            have m3 : (i2 : Int) ≤ (n : Int) := by omega
            have m3' : i2 ≤ n := by omega
            have m4 : c ≠ i2 := by have := HE.out.2.2.1; omega
            have L1 : (L : Int) ≤ (N : Int) := by omega
            have L2 : L ≤ N := by omega
            have HLk := Aside0.mk (And.intro HE.out.2.2.2.2.1 HE.out.2.2.2.2.2.2)
            obtain ⟨xo, hxo⟩ : ∃ xo, x - (a + i2) = xo := ⟨_, rfl⟩
            obtain ⟨xa, hxa⟩ : ∃ xa, x - a = xa := ⟨_, rfl⟩
            clear w1 w2 w3 w4 w5
            obtain ⟨w6, w7, w8⟩ : IntKind.i64.wrap ((K.size : Int) - 1) = (z : Int) ∧ IntKind.i64.wrap ((j : Int) + 1) = (L : Int) ∧ IntKind.i64.wrap ((i2 : Int) + (xo : Int)) = (xa : Int) := by
              have := HE.out.1; have := HE.out.2.1; have := HE.out.2.2.1; have := HE.out.2.2.2.2.2.2; have := HP.out; have := HI.out.2.2.1.2
              refine ⟨?_, ?_, ?_⟩ <;> (rw [IntKind.wrap_i64]; omega)
            have W9 := Aside0.mk (show ∀ q, r = some q → IntKind.i64.wrap ((xa : Int) + ((q - x : Nat) : Int)) = ((q - a : Nat) : Int) ∧ decide (((q - x : Nat) : Int) < 0) = false from fun q hq => by
              have h1 := HX.out.2.2.1 q hq
              have h2 := HX.out.2.1
              have h3 := HP.out
              have h4 := HE.out.1
              have h6 := HE.out.2.1
              have h5 := HX.out.2.2.2.2 q hq (by omega)
              exact ⟨by rw [IntKind.wrap_i64]; omega, decide_eq_false (by omega)⟩)
            have HXO := Aside0.mk hxo
            clear hxo hxa h h0n hp2 hbx hp he hx hxb hai hl ha k1 k2 k3 k4 k5 k6 hK hKL hj hpa hin' hL hz1 hbz NX
            go_wp2_with (go_at_call 68; (with_reducible refine (KAt.out _).mono ?_); rintro e' w1 ⟨rfl, tb, hwb⟩; have HS1 := Aside0.mk (show Sk b a n c s kb ko keys w w1 from by rw [hwb]; exact HS0.out.more (below_bytes _ _ _)); clear hwb)
            have HS2 := Aside0.mk (Sx.start HS1.out (a + i2) i2 ai (Nat.add_sub_cancel_left a i2) els 3 3 51 3 3)
            clear g0 x0 gk
            have g0 := HS2.out.sk.data.cell
            have g1 := HS2.out.sk.cfg0
            have g2 := HS2.out.sk.cfg1
            have g3 := HS2.out.sk.cfg2
            go_region_held3 (fun w' => w'.cell? ⟨w.heap.size, 0, none⟩ = some (.bool false) ∧ w'.cell? ⟨w.heap.size, 1, none⟩ = some (.bool false) ∧ w'.cell? ⟨w.heap.size, 2, none⟩ = some (.int .i64 0) ∧ w'.cell? ⟨w.heap.size + 1, 0, none⟩ = some (.slice (some ⟨b, a, none⟩) n c) ∧ Aside0 (Sk b a n c s kb ko keys w w'))
              (first | exact HS2.out.sk.cells | exact HS2.out.drew.sk.cells | exact HS3.out.sk.cells | exact HS3.out.drew.sk.cells)
              (first | (go_at_call 33; (with_reducible refine (KA.out _ _ HS2.out.drew).mono ?_); rintro e' w3 ⟨⟨ri, rfl⟩, hSx⟩; have HS3 := Aside0.mk hSx; clear hSx))
            obtain ⟨cx, hcx, hvf, hvo⟩ : ∃ cx, y - x ≤ cx ∧ Bx (w1.heap.size + 1 + 1) (.slice (some ⟨b, x, none⟩) (y - x) cx) w3 ∧ Bx (w1.heap.size + 1 + 1 + 1) (.int .i64 (xo : Int)) w3 := by
              obtain ⟨x', y', kd', cx, e1, e2, e3, e4⟩ := HS3.out.cc.yes HX.out.2.2.2.1
              have h1 := Option.some.inj (e1.symm.trans HX.out.1)
              simp only [Prod.mk.injEq] at h1
              obtain ⟨rfl, rfl, rfl⟩ := h1
              exact ⟨cx, e2, e3, by rw [← HXO.out]; exact e4⟩
            obtain ⟨m, hm⟩ : ∃ m, y - x = m := ⟨_, rfl⟩
            have KS2 := Aside0.mk (fun W hW => KS.out W hW cx hcx)
            rw [hm] at KS2 hvf
            have HSv := Aside0.mk (show Sv b a n c s kb ko keys (w1.heap.size + 1 + 1) (w1.heap.size + 1 + 1 + 1) (.slice (some ⟨b, x, none⟩) m cx) (.int .i64 (xo : Int)) w w3 from ⟨HS3.out.sk, hvf, hvo⟩)
            have v1 := HSv.out.b1.cell
            clear hcx hvf hvo hm g0 g1 g2 g3
            have g0 := HS3.out.sk.data.cell
            have g1 := HS3.out.sk.cfg0
            have g2 := HS3.out.sk.cfg1
            have g3 := HS3.out.sk.cfg2
            go_wp2
            cases r with
            | none =>
              rw [show ret x none = -1 from rfl] at KS2
              by_cases hkL : kc = L
              · have KS3 := Aside0.mk (fun W hW => (KS2.out W hW).2 hkL)
                have hNk : N = kc := by have := HLk.out; omega
                subst hkL
                subst hNk
                clear KS2 KS
                go_region_held3 (fun w' => w'.cell? ⟨w.heap.size, 0, none⟩ = some (.bool false) ∧ w'.cell? ⟨w.heap.size, 1, none⟩ = some (.bool false) ∧ w'.cell? ⟨w.heap.size, 2, none⟩ = some (.int .i64 0) ∧ w'.cell? ⟨w.heap.size + 1, 0, none⟩ = some (.slice (some ⟨b, a, none⟩) n c) ∧ w'.cell? ⟨w1.heap.size + 1 + 1, 0, none⟩ = some (.slice (some ⟨b, x, none⟩) m cx) ∧ Aside0 (Sv b a n c s kb ko keys (w1.heap.size + 1 + 1) (w1.heap.size + 1 + 1 + 1) (.slice (some ⟨b, x, none⟩) m cx) (.int .i64 (xo : Int)) w w'))
                  (first | exact HSv.out.cells | exact HSv.out.drew.cells | exact HS4.out.cells | exact HS4.out.drew.cells)
                  (first | (go_at_call 49; (with_reducible refine (KS3.out _ HSv.out.drew.sk).mono ?_); rintro e' w4 ⟨rfl, HB⟩; have HS4 := Aside0.mk (HSv.out.drew.more HB); clear HB))
                have v4 := HS4.out.b2.cell
                go_wp2
                go_ret
                exact ⟨by first | rfl | (simp [ret]; done) | (simp [ret, HQA.out]; done), HS4.out.sk.below⟩
              · have KS3 := Aside0.mk (fun W hW => (KS2.out W hW).1 hkL)
                clear KS2 KS
                go_region_held3 (fun w' => w'.cell? ⟨w.heap.size, 0, none⟩ = some (.bool false) ∧ w'.cell? ⟨w.heap.size, 1, none⟩ = some (.bool false) ∧ w'.cell? ⟨w.heap.size, 2, none⟩ = some (.int .i64 0) ∧ w'.cell? ⟨w.heap.size + 1, 0, none⟩ = some (.slice (some ⟨b, a, none⟩) n c) ∧ w'.cell? ⟨w1.heap.size + 1 + 1, 0, none⟩ = some (.slice (some ⟨b, x, none⟩) m cx) ∧ Aside0 (Sv b a n c s kb ko keys (w1.heap.size + 1 + 1) (w1.heap.size + 1 + 1 + 1) (.slice (some ⟨b, x, none⟩) m cx) (.int .i64 (xo : Int)) w w'))
                  (first | exact HSv.out.cells | exact HSv.out.drew.cells | exact HS4.out.cells | exact HS4.out.drew.cells)
                  (first | (go_at_call 49; (with_reducible refine (KS3.out _ HSv.out.drew.sk).mono ?_); rintro e' w4 ⟨rfl, HB⟩; have HS4 := Aside0.mk (HSv.out.drew.more HB); clear HB))
                have v4 := HS4.out.b2.cell
                go_wp2
                go_ret
                exact ⟨by first | rfl | (simp [ret]; done) | (simp [ret, HQA.out]; done), HS4.out.sk.below⟩
            | some q =>
              have h9 := W9.out q rfl
              rw [show ret x (some q) = ((q - x : Nat) : Int) from rfl] at KS2
              obtain ⟨qx, hqx⟩ : ∃ qx, q - x = qx := ⟨_, rfl⟩
              obtain ⟨qa, hqa⟩ : ∃ qa, q - a = qa := ⟨_, rfl⟩
              rw [hqx] at h9 KS2
              rw [hqa] at h9
              have HQA := Aside0.mk hqa
              obtain ⟨w9, w10⟩ := h9
              have w11 : (qx < 0) = False := eq_false (Nat.not_lt_zero _)
              clear hqx hqa
              by_cases hkL : kc = L
              · have KS3 := Aside0.mk (fun W hW => (KS2.out W hW).2 hkL)
                have hNk : N = kc := by have := HLk.out; omega
                subst hkL
                subst hNk
                clear KS2 KS
                go_region_held3 (fun w' => w'.cell? ⟨w.heap.size, 0, none⟩ = some (.bool false) ∧ w'.cell? ⟨w.heap.size, 1, none⟩ = some (.bool false) ∧ w'.cell? ⟨w.heap.size, 2, none⟩ = some (.int .i64 0) ∧ w'.cell? ⟨w.heap.size + 1, 0, none⟩ = some (.slice (some ⟨b, a, none⟩) n c) ∧ w'.cell? ⟨w1.heap.size + 1 + 1, 0, none⟩ = some (.slice (some ⟨b, x, none⟩) m cx) ∧ Aside0 (Sv b a n c s kb ko keys (w1.heap.size + 1 + 1) (w1.heap.size + 1 + 1 + 1) (.slice (some ⟨b, x, none⟩) m cx) (.int .i64 (xo : Int)) w w'))
                  (first | exact HSv.out.cells | exact HSv.out.drew.cells | exact HS4.out.cells | exact HS4.out.drew.cells)
                  (first | (go_at_call 49; (with_reducible refine (KS3.out _ HSv.out.drew.sk).mono ?_); rintro e' w4 ⟨rfl, HB⟩; have HS4 := Aside0.mk (HSv.out.drew.more HB); clear HB))
                have v4 := HS4.out.b2.cell
                go_wp2
                go_ret
                exact ⟨by first | rfl | (simp [ret]; done) | (simp [ret, HQA.out]; done), HS4.out.sk.below⟩
              · have KS3 := Aside0.mk (fun W hW => (KS2.out W hW).1 hkL)
                clear KS2 KS
                go_region_held3 (fun w' => w'.cell? ⟨w.heap.size, 0, none⟩ = some (.bool false) ∧ w'.cell? ⟨w.heap.size, 1, none⟩ = some (.bool false) ∧ w'.cell? ⟨w.heap.size, 2, none⟩ = some (.int .i64 0) ∧ w'.cell? ⟨w.heap.size + 1, 0, none⟩ = some (.slice (some ⟨b, a, none⟩) n c) ∧ w'.cell? ⟨w1.heap.size + 1 + 1, 0, none⟩ = some (.slice (some ⟨b, x, none⟩) m cx) ∧ Aside0 (Sv b a n c s kb ko keys (w1.heap.size + 1 + 1) (w1.heap.size + 1 + 1 + 1) (.slice (some ⟨b, x, none⟩) m cx) (.int .i64 (xo : Int)) w w'))
                  (first | exact HSv.out.cells | exact HSv.out.drew.cells | exact HS4.out.cells | exact HS4.out.drew.cells)
                  (first | (go_at_call 49; (with_reducible refine (KS3.out _ HSv.out.drew.sk).mono ?_); rintro e' w4 ⟨rfl, HB⟩; have HS4 := Aside0.mk (HSv.out.drew.more HB); clear HB))
                have v4 := HS4.out.b2.cell
                go_wp2
                go_ret
                exact ⟨by first | rfl | (simp [ret]; done) | (simp [ret, HQA.out]; done), HS4.out.sk.below⟩
        · obtain rfl : i2 = n := by omega
          have hr := HV.out.sr.at_end rfl (fun h => by have := HE.out.2.2.2.2.2.2; rw [h] at this; exact n0' this.symm)
          have HR := Aside0.mk hr
          have HS0 := Aside0.mk HV.out.sk
          clear hr hi2 hi2n hin hcn hz
          go_wp2
          go_ret
          exact ⟨by rw [HR.out]; rfl, HS0.out.below⟩
    · obtain rfl : i = n := by have := HW.out.le; omega
      have hr := HW.out.sr.at_end rfl (fun h => by have := HE.out.2.2.2.2.2.2; rw [h] at this; exact n0' this.symm)
      have HR := Aside0.mk hr
      have HS0 := Aside0.mk HW.out.sk
      clear hr hin
      go_wp2
      go_ret
      exact ⟨by rw [HR.out]; rfl, HS0.out.below⟩
end Go.Proofs.YtpdohioobbfncaaGreatDoor.PFnJpWildStop