/- jsonparser's Unescape of a text whose escapes are RFC 8259's: the walk over the whole text; no condition beside those that each theorem states. -/
import Derived.Test.YtobmnfbplmefoaaDoorHNFnJqPathOf
namespace Go.Proofs.YtobmnfbplmefoaaDoor.PFnJqPathOf
open Go.RowKit Go.Proofs.YtobmnfbplmefoaaDoorW.PrintWords Go.Proofs.YtobmnfbplmefoaaDoorW.PrintLast Go.Proofs.YtobmnfbplmefoaaDoorW.PrintMore
set_option linter.unusedVariables false
set_option linter.unusedSimpArgs false
/-- What stands at the head of a round: the escape at hand, what is behind it, what is written. -/
structure Rd (b g n : Nat) (t : TypeId) (l' : List Int) (oi ci j bl : Nat) (out : List Int) (m : Nat) (e r2 r : List Int) (w0 W : World) : Prop where
  glob : Glob w0
  hd : Hd b oi l' w0
  hc : l'.length ≤ ci
  es : Es l' m e
  un : Un (l'.drop m) r2
  rng : ∀ x ∈ l', 0 ≤ x ∧ x < 256
  hb : l'.length ≤ bl
  hj : j + bl = n
  ho : out.length = n
  res : out.take j ++ (e ++ r2) = r
  ob : Ob g t out W
  below : Below w0.heap.size w0 W
  hg : w0.heap.size ≤ g
  hz : n ≤ 140737488355328
def lenOf : Value → Nat
  | .slice _ n _ => n
  | _ => 0
/-- The text behind an escape. -/
theorem Rd.next {b g n : Nat} {t : TypeId} {l' : List Int} {oi ci j bl : Nat} {out : List Int} {m : Nat} {e r2 r : List Int} {w0 W W2 : World} (h : Rd b g n t l' oi ci j bl out m e r2 r w0 W)
    {pre l3 : List Int} {m3 : Nat} {e3 r4 : List Int} (e1 : l'.drop m = pre ++ l3) (e2 : r2 = pre ++ (e3 ++ r4)) (hes : Es l3 m3 e3) (hun : Un (l3.drop m3) r4) (hO : Ob g t (splice (wrt out j e) (j + e.length) pre) W2) (hb : Below w0.heap.size w0 W2) :
    Rd b g n t l3 (oi + m + pre.length) (ci - m - pre.length) (j + e.length + pre.length) (bl - e.length - pre.length) (splice (wrt out j e) (j + e.length) pre) m3 e3 r4 r w0 W2 := by
  have h2 := h.es.two
  have hlen : l'.length - m = pre.length + l3.length := by rw [← List.length_drop, e1, List.length_append]
  have hH := h.hd.drop m
  rw [e1] at hH
  have hH2 := hH.drop pre.length
  rw [List.drop_left] at hH2
  have hho := h.ho
  have hhj := h.hj
  have hhb := h.hb
  have hhc := h.hc
  have hwl := wr_len e out j
  have hsp : (splice (wrt out j e) (j + e.length) pre).length = n := by rw [splice_len _ _ _ (by rw [hwl]; omega), hwl, hho]
  refine ⟨h.glob, hH2, by omega, hes, hun, fun x hx => ?_, by omega, by omega, hsp, ?_, hO, hb, h.hg, h.hz⟩
  · exact h.rng x (List.mem_of_mem_drop (i := m) (by rw [e1]; simp [hx]))
  · rw [splice_take _ _ _ (by rw [hwl]; omega), wr_take _ _ _ (by omega), ← h.res, e2]
    simp
/-- No escape behind. -/
theorem Rd.last {b g n : Nat} {t : TypeId} {l' : List Int} {oi ci j bl : Nat} {out : List Int} {m : Nat} {e r2 r : List Int} {w0 W W2 : World} (h : Rd b g n t l' oi ci j bl out m e r2 r w0 W)
    (e1 : l'.drop m = r2) (hO : Ob g t (splice (wrt out j e) (j + e.length) r2) W2) :
    j + e.length + r2.length = r.length ∧ ∃ out, out.length = n ∧ out.take r.length = r ∧ Ob g t out W2 := by
  have h2 := h.es.two
  have hlen : l'.length - m = r2.length := by rw [← List.length_drop, e1]
  have hho := h.ho
  have hhj := h.hj
  have hhb := h.hb
  have hwl := wr_len e out j
  have hrl : j + e.length + r2.length = r.length := by
    rw [← h.res, List.length_append, List.length_append, List.length_take]
    omega
  refine ⟨hrl, _, ?_, ?_, hO⟩
  · rw [splice_len _ _ _ (by rw [hwl]; omega), hwl, hho]
  · rw [← hrl, splice_take _ _ _ (by rw [hwl]; omega), wr_take _ _ _ (by omega), ← h.res]
    simp
/-- The row that Unescape gives. -/
def UnPost (n : Nat) (r : List Int) (w : World) (e' : Ending) (w' : World) : Prop := ∃ g, e' = .returned (.tuple #[.slice (some ⟨g, 0, none⟩) r.length n, .nilIface]) ∧ w.heap.size ≤ g ∧ (∃ out, out.length = n ∧ out.take r.length = r ∧ Ob g 5 out w') ∧ Below w.heap.size w w'
set_option maxHeartbeats 16000000 in
set_option maxRecDepth 100000 in
theorem loop_calls (l r : List Int) (hU : Un l r) (b o n c : Nat) (hl : l.length = n) (hc : n ≤ c) (hz : n ≤ 140737488355328) (hr : ∀ x ∈ l, 0 ≤ x ∧ x < 256) (h92 : 92 ∈ l) (A1 : Option Addr)
    (w : World) (hG : Glob w) (hH : Hd b o l w) :
    Calls Tryd.prog 33 #[cfgV, .slice (some ⟨b, o, none⟩) n c, .slice A1 0 0] w (UnPost n r w) := by
  obtain ⟨pre, l', r', e1, e2, h1, h2⟩ := hU.split
  rcases h2 with ⟨rfl, rfl⟩ | ⟨m0, es0, r20, hes, rfl, hun⟩
  · rw [List.append_nil] at e1
    rw [e1] at h92
    exact absurd rfl (h1 92 h92)
  have hpl : pre.length + l'.length = n := by rw [← hl, e1, List.length_append]
  have hm0 := hes.two
  obtain ⟨t', ht'⟩ := hes.head
  have hrp : ∀ x ∈ pre, x ≠ 92 ∧ 0 ≤ x ∧ x < 256 := fun x hx => ⟨h1 x hx, hr x (by rw [e1]; simp [hx])⟩
  have hrl : ∀ x ∈ l', 0 ≤ x ∧ x < 256 := fun x hx => hr x (by rw [e1]; simp [hx])
  have hix := idx_at pre t' hrp
  rw [← ht', ← e1] at hix
  have hb1 := fun (t1 : TypeId) => below_alloc_ w (.cells #[.bool false, .bool false, .int .i64 0] t1)
  have k0 := fun (t1 : TypeId) => Tryd.bytes_IndexByte b o n c l 92 (w.alloc (.cells #[.bool false, .bool false, .int .i64 0] t1)) hl (fun i hi => (hH.more (hb1 t1)).cell i (by omega))
  rw [hix] at k0
  obtain ⟨p, hp⟩ : ∃ p, pre.length = p := ⟨_, rfl⟩
  rw [hp] at k0 hpl
  have hmk := print_make (P := Tryd.prog) 23 5 .u8 1 Tryd.underlying23 (by kernel_rfl) (by decide) n (by omega)
  have HM := Aside0.mk (show ∀ W : World, Ob W.heap.size 5 (List.replicate n 0) (W.alloc (.cells (madeCells #[.int .u8 0] n) 5)) from fun W => ⟨by
    rw [heap_alloc_new]
    congr 2
    apply Array.ext
    · simp [nums, size_madeCells]
    · intro i h1 h2
      simp [nums, madeCells, Nat.mod_one]⟩)
  have HM2 := Aside0.mk (show ∀ ob : Obj, Ob (w.heap.size + 1) 5 (List.replicate n 0) ((w.alloc ob).alloc (.cells (madeCells #[.int .u8 0] n) 5)) from fun ob => by
    have h3 := HM.out (w.alloc ob)
    rwa [Go.Deep.nblk_alloc] at h3)
  have hN : (w.alloc (.cells #[.bool false, .bool false, .int .i64 0] 66)).heap.size = w.heap.size + 1 := Go.Deep.nblk_alloc _ _
  have HN := Aside0.mk hN
  have HBb := Aside0.mk (show ∀ (ob ob2 : Obj), Below w.heap.size w ((w.alloc ob).alloc ob2) from fun ob ob2 => below_step (below_alloc_ w ob) (below_alloc_ _ ob2))
  have HP := Aside0.mk (show ∀ W1, Below w.heap.size w W1 → Hd b o pre W1 from fun W1 hW => by
    have h3 := hH.more hW
    refine ⟨fun i hi => ?_⟩
    rw [h3.cell i (by rw [e1, List.length_append]; omega), e1]
    simp [List.getD_eq_getElem?_getD, List.getElem?_append_left hi])
  have HL := Aside0.mk (show ∀ W1, Below w.heap.size w W1 → Hd b (o + p) l' W1 from fun W1 hW => by
    have h3 := (hH.more hW).drop pre.length
    rw [e1, List.drop_left, hp] at h3
    exact h3)
  have q1 : ((p : Int) == -1) = false := beq_eq_false_iff_ne.2 (by omega)
  have q2 : (p : Int) ≤ (n : Int) := by omega
  have q2' : p ≤ n := by omega
  have q3 : p ≤ c := by omega
  have q4 : c ≠ p := by omega
  have q5 : n ≠ p := by omega
  have q6 : decide ((0 : Int) < (n : Int)) = true := decide_eq_true (by omega)
  have q7 : 0 < n := by omega
  have HF := Aside0.mk (And.intro hp (And.intro hpl (And.intro hm0 (And.intro hes (And.intro hun (And.intro hrl (And.intro hG (And.intro hc hz))))))))
  have HE2 := Aside0.mk e2
  have HB1 := Aside0.mk hb1
  have HC := Aside0.mk (show ∀ W, Below (w.alloc (.cells #[.bool false, .bool false, .int .i64 0] 66)).heap.size (w.alloc (.cells #[.bool false, .bool false, .int .i64 0] 66)) W → W.cell? ⟨w.heap.size, 0, none⟩ = some (.bool false) ∧ W.cell? ⟨w.heap.size, 1, none⟩ = some (.bool false) ∧ W.cell? ⟨w.heap.size, 2, none⟩ = some (.int .i64 0) from fun W hW => by
    have k := heap_alloc_new w (.cells #[.bool false, .bool false, .int .i64 0] 66)
    exact ⟨keep_ ((blk_cell k 0).trans rfl) hW, keep_ ((blk_cell k 1).trans rfl) hW, keep_ ((blk_cell k 2).trans rfl) hW⟩)
  have HG1 := Aside0.mk (hG.below (below_alloc_ w (.cells #[.bool false, .bool false, .int .i64 0] 66)))
  clear hN hl hc hz hr h92 hG hH e1 e2 hpl hm0 ht' hrp hrl hix hun hes hU hp h1 hb1
  go_enter Tryd.func33, Tryd.ntmps33
  go_wp2_with (first | (go_at_call 37; (with_reducible refine (k0 _).mono ?_); rintro e w1 ⟨rfl, rfl⟩; clear k0) | ((with_reducible refine gate_builtin (b := .copy) (xs := #[.tmp 30, .tmp 33]) rfl ?_); refine copy_step rfl (.tmp 30) (.tmp 33) rfl _ _ _ _ _ _ rfl rfl (w.heap.size + 1) 0 (List.replicate n 0) 5 (w.alloc (.cells #[.bool false, .bool false, .int .i64 0] 66)) _ ?hO pre ?hn ?hpos ?hfit ?hb ?hg ?_; (case hO => exact HM2.out _); (case hn => rw [HF.out.1]; exact (Nat.min_eq_left (by have := HF.out.2.1; omega)).symm); (case hpos => intro _; exact ⟨rfl, b, o, rfl, HP.out _ (HBb.out _ _)⟩); (case hfit => rw [List.length_replicate, HF.out.1]; have := HF.out.2.1; omega); (case hb => exact below_alloc_ _ _); (case hg => exact Nat.le_of_eq HN.out); intro w2 hO2 hb2; have HO2 := Aside0.mk hO2; have HB2 := Aside0.mk hb2; clear hO2 hb2))
  obtain ⟨W1, hW1⟩ : ∃ W1, w.alloc (.cells #[.bool false, .bool false, .int .i64 0] 66) = W1 := ⟨_, rfl⟩
  rw [hW1] at HB2 HC HG1 HN
  have HL1 := Aside0.mk (HL.out W1 (hW1 ▸ HB1.out _))
  have HW1 := Aside0.mk (show Below w.heap.size w W1 from hW1 ▸ HB1.out _)
  clear hW1 HM HM2 HP HL HBb HB1
  have HR0 := Aside0.mk (show Rd b (w.heap.size + 1) n 5 l' (o + p) (c - p) p (n - p) (splice (List.replicate n 0) 0 pre) m0 es0 r20 r W1 w2 from by
    obtain ⟨hp, hpl, hm0, hes, hun, hrl, hG, hc, hz⟩ := HF.out
    have hs : (splice (List.replicate n (0 : Int)) 0 pre).length = n := by rw [splice_len _ _ _ (by rw [List.length_replicate]; omega), List.length_replicate]
    refine ⟨HG1.out, HL1.out, by omega, hes, hun, hrl, by omega, by omega, hs, ?_, HO2.out, HB2.out, Nat.le_of_eq HN.out, hz⟩
    have h3 := splice_take (List.replicate n (0 : Int)) pre 0 (by rw [List.length_replicate]; omega)
    rw [Nat.zero_add, hp] at h3
    rw [h3, HE2.out]
    simp)
  have hLn : n - p = l'.length := by have := HF.out.2.1; omega
  have HLn := Aside0.mk hLn
  rw [hLn]
  clear hLn
  go_loopw [1, 9] (fun vi vb wr => ∃ (l' : List Int) (oi ci j bl : Nat) (out : List Int) (m : Nat) (e r2 : List Int), vi = .slice (some ⟨b, oi, none⟩) l'.length ci ∧ vb = .slice (some ⟨w.heap.size + 1, j, none⟩) bl bl ∧ Aside0 (Rd b (w.heap.size + 1) n 5 l' oi ci j bl out m e r2 r W1 wr)) (fun vi _ _ => lenOf vi)
  case atStart => exact ⟨l', _, _, _, _, _, _, _, _, rfl, by first | rfl | (rw [HLn.out]), HR0⟩
  case round =>
    clear HR0 HO2 HB2 HL1 HF HE2 HLn HG1 hmk
    obtain ⟨l1, oi, ci, j, bl, out, m, e, r2, rfl, rfl, HR⟩ := hrel
    have hc3 := HC.out wr HR.out.below
    have g0 := hc3.1
    have g1 := hc3.2.1
    have g2 := hc3.2.2
    clear hc3
    have h2 := HR.out.es.two
    have hhb := HR.out.hb
    have hhc := HR.out.hc
    have hhj := HR.out.hj
    have hho := HR.out.ho
    have hhz := HR.out.hz
    have hwl := wr_len e out j
    have k1 := one_calls l1 m e HR.out.es (by omega) b oi ci (w.heap.size + 1) j bl bl 5 out hhc hhb (by omega) W1 wr (HR.out.glob.below HR.out.below) (HR.out.hd.more HR.out.below) HR.out.below HR.out.hg HR.out.ob
    obtain ⟨pre, l3, r3, e1, e2, h1, h3⟩ := HR.out.un.split
    have hlen : l1.length - m = pre.length + l3.length := by rw [← List.length_drop, e1, List.length_append]
    have hrng : ∀ x ∈ pre, x ≠ 92 ∧ 0 ≤ x ∧ x < 256 := fun x hx => ⟨h1 x hx, HR.out.rng x (List.mem_of_mem_drop (i := m) (by rw [e1]; simp [hx]))⟩
    have hH := HR.out.hd.drop m
    have hdl : (l1.drop m).length = l1.length - m := List.length_drop
    have k2 := fun (W : World) (hW : Below W1.heap.size W1 W) => Tryd.bytes_IndexByte b (oi + m) (l1.length - m) (ci - m) (l1.drop m) 92 W hdl (fun i hi => (hH.more hW).cell i (by rw [hdl]; exact hi))
    have hHp := fun (W : World) (hW : Below W1.heap.size W1 W) => hH.more hW
    rw [e1] at k2 hHp
    have HPr := Aside0.mk (show ∀ W, Below W1.heap.size W1 W → Hd b (oi + m) pre W from fun W hW => ⟨fun i hi => by
      rw [(hHp W hW).cell i (by rw [List.length_append]; omega)]
      simp [List.getD_eq_getElem?_getD, List.getElem?_append_left hi]⟩)
    have k3 : ∀ W, Calls Tryd.prog 37 #[.slice (some ⟨b, oi, none⟩) 0 0, .int .u8 92] W fun e w' => e = .returned (.int .i64 (-1)) ∧ w' = W := fun W => Tryd.bytes_IndexByte b oi 0 0 [] 92 W rfl (fun i hi => absurd hi (Nat.not_lt_zero _))
    clear hH hHp hdl
    have m1 : ((m : Int) == -1) = false := beq_eq_false_iff_ne.2 (by omega)
    rcases h3 with ⟨rfl, rfl⟩ | ⟨m3, e3, r4, hes, rfl, hun⟩
    · rw [List.append_nil] at e1 e2 k2
      have hi2 := idx_none pre hrng
      rw [hi2] at k2
      obtain ⟨L, hL⟩ : ∃ L, l1.length = L := ⟨_, rfl⟩
      obtain ⟨el, hel⟩ : ∃ el, e.length = el := ⟨_, rfl⟩
      have HS := Aside0.mk (show ∀ W2, Ob (w.heap.size + 1) 5 (splice (wrt out j e) (j + el) pre) W2 → j + el + (L - m) = r.length ∧ ∃ out, out.length = n ∧ out.take r.length = r ∧ Ob (w.heap.size + 1) 5 out W2 from fun W2 hO => by
        have h5 := HR.out.last (e1.trans e2.symm) (by rw [hel, e2]; exact hO)
        rw [hel, e2] at h5
        rw [hL] at hlen
        rw [hlen]
        simpa using h5)
      rw [hL] at k1 k2 hlen hhb hhc h2 ⊢
      rw [hel] at k1 h2
      simp only [List.length_nil, Nat.add_zero] at hlen
      have HZ := Aside0.mk (And.intro hlen (And.intro hhb (And.intro hhc (And.intro h2 (And.intro hhj (And.intro hho hwl))))))
      have a1 : m ≤ L := h2.2.1
      have a1' : (m : Int) ≤ (L : Int) := by omega
      have a2 : el ≤ bl := by omega
      have a2' : (el : Int) ≤ (bl : Int) := by omega
      have a3 : bl ≠ el := by omega
      have a4 : L - m ≤ bl - el := by omega
      have a4' : ((L - m : Nat) : Int) ≤ ((bl - el : Nat) : Int) := by omega
      have a5 : bl - el ≠ L - m := by omega
      have a6 : (bl - el - (L - m)) ≤ n := by omega
      have a6' : ((bl - el - (L - m) : Nat) : Int) ≤ (n : Int) := by omega
      have a8 : (bl ≤ el) = False := eq_false (by omega)
      have a9 : (n : Int) ≤ 140737488355328 := by omega
      have a7 : ((n : Int) - ((bl - el - (L - m) : Nat) : Int)).toNat = j + el + (L - m) := by omega
      have HA7 := Aside0.mk a7
      by_cases hcm : ci = m
      · obtain rfl : L = m := by omega
        subst hcm
        clear a7 hlen hhb hhc h2 hhj hho hwl hrng hi2 hL hel e1 e2 k2 h1 hhz
        simp only [Nat.sub_self, Nat.sub_zero] at a4 a4' a5 a6 a6'
        dsimp only [cfgV] at k1
        go_wp2_with (first | (go_at_call 38; (with_reducible refine k1.mono ?_); rintro e w1 ⟨rfl, HB, HW⟩; have H2 := Aside0.mk HB; have H3 := Aside0.mk HW; clear HB HW k1) | (go_at_call 37; (with_reducible refine (k3 _).mono ?_); rintro e w2 ⟨rfl, rfl⟩; clear k3) | ((with_reducible refine gate_builtin (b := .copy) (xs := #[.tmp 61, .tmp 62]) rfl ?_); refine copy_step rfl (.tmp 61) (.tmp 62) rfl _ _ _ _ _ _ rfl rfl (w.heap.size + 1) (j + el) (wrt out j e) 5 W1 _ H2.out pre ?hn ?hpos ?hfit H3.out HR.out.hg ?_; (case hn => have h_ := HZ.out.1; rw [Nat.sub_self] at h_; rw [← h_]; exact (Nat.zero_min _).symm); (case hpos => intro h; have := HZ.out.1; omega); (case hfit => have := HZ.out; omega); intro w3 hO3 hb3; have HO3 := Aside0.mk hO3; have HB3 := Aside0.mk hb3; clear hO3 hb3))
        go_ret2
        have h5 := HS.out _ HO3.out
        refine ⟨w.heap.size + 1, ?_, Nat.le_succ _, h5.2, below_step HW1.out HB3.out⟩
        show Ending.returned (.tuple #[.slice (some ⟨w.heap.size + 1, 0, none⟩) (n - (bl - el)) n, .nilIface]) = .returned (.tuple #[.slice (some ⟨w.heap.size + 1, 0, none⟩) r.length n, .nilIface])
        have h6 := HZ.out
        rw [show n - (bl - el) = r.length from by omega]
      · have k2b := k2
        clear a7 hlen hhb hhc h2 hhj hho hwl hrng hi2 hL hel e1 e2 k2 h1 hhz k3
        dsimp only [cfgV] at k1
        go_wp2_with (first | (go_at_call 38; (with_reducible refine k1.mono ?_); rintro e w1 ⟨rfl, HB, HW⟩; have H2 := Aside0.mk HB; have H3 := Aside0.mk HW; clear HB HW k1) | (go_at_call 37; (with_reducible refine (k2b _ H3.out).mono ?_); rintro e w2 ⟨rfl, rfl⟩; clear k2b) | ((with_reducible refine gate_builtin (b := .copy) (xs := #[.tmp 61, .tmp 62]) rfl ?_); refine copy_step rfl (.tmp 61) (.tmp 62) rfl _ _ _ _ _ _ rfl rfl (w.heap.size + 1) (j + el) (wrt out j e) 5 W1 _ H2.out pre ?hn ?hpos ?hfit H3.out HR.out.hg ?_; (case hn => rw [← HZ.out.1]; exact (Nat.min_eq_left a4).symm); (case hpos => intro _; exact ⟨rfl, b, _, rfl, HPr.out _ H3.out⟩); (case hfit => have := HZ.out; omega); intro w3 hO3 hb3; have HO3 := Aside0.mk hO3; have HB3 := Aside0.mk hb3; clear hO3 hb3))
        go_ret2
        have h5 := HS.out _ HO3.out
        refine ⟨w.heap.size + 1, ?_, Nat.le_succ _, h5.2, below_step HW1.out HB3.out⟩
        show Ending.returned (.tuple #[.slice (some ⟨w.heap.size + 1, 0, none⟩) (n - (bl - el - (L - m))) n, .nilIface]) = .returned (.tuple #[.slice (some ⟨w.heap.size + 1, 0, none⟩) r.length n, .nilIface])
        have h6 := HZ.out
        rw [show n - (bl - el - (L - m)) = r.length from by omega]
    · obtain ⟨t3, ht3⟩ := hes.head
      have hi2 := idx_at pre t3 hrng
      rw [← ht3] at hi2
      rw [hi2] at k2
      have h23 := hes.two
      obtain ⟨L, hL⟩ : ∃ L, l1.length = L := ⟨_, rfl⟩
      obtain ⟨el, hel⟩ : ∃ el, e.length = el := ⟨_, rfl⟩
      obtain ⟨q, hq⟩ : ∃ q, pre.length = q := ⟨_, rfl⟩
      have HS := Aside0.mk (show ∀ W2, Ob (w.heap.size + 1) 5 (splice (wrt out j e) (j + el) pre) W2 → Below W1.heap.size W1 W2 → Rd b (w.heap.size + 1) n 5 l3 (oi + m + q) (ci - m - q) (j + el + q) (bl - el - q) (splice (wrt out j e) (j + el) pre) m3 e3 r4 r W1 W2 from fun W2 hO hB => by
        rw [← hel, ← hq]
        exact HR.out.next e1 e2 hes hun (by rw [hel]; exact hO) hB)
      rw [hL] at k1 k2 hlen hhb hhc h2 ⊢
      rw [hel] at k1 h2
      rw [hq] at hlen k2
      have HZ := Aside0.mk (And.intro hlen (And.intro hhb (And.intro hhc (And.intro h2 (And.intro hhj (And.intro hho (And.intro hwl (And.intro h23 hq))))))))
      have a1 : m ≤ L := h2.2.1
      have a1' : (m : Int) ≤ (L : Int) := by omega
      have a2 : el ≤ bl := by omega
      have a2' : (el : Int) ≤ (bl : Int) := by omega
      have a3 : bl ≠ el := by omega
      have a4 : q ≤ L - m := by omega
      have a4' : (q : Int) ≤ ((L - m : Nat) : Int) := by omega
      have a5 : ci - m ≠ q := by omega
      have a6 : q ≤ bl - el := by omega
      have a6' : (q : Int) ≤ ((bl - el : Nat) : Int) := by omega
      have a7 : bl - el ≠ q := by omega
      have a8 : q ≤ ci - m := by omega
      have a9 : ((q : Int) == -1) = false := beq_eq_false_iff_ne.2 (by omega)
      have a10 : ci ≠ m := by omega
      have HL3 := Aside0.mk (show L - m - q = l3.length from by omega)
      have HMs := Aside0.mk (show l3.length < L from by omega)
      clear hlen hhb hhc h2 hhj hho hwl hrng hi2 hL hel e1 e2 h1 hhz k3 h23 hes hun ht3 hq
      dsimp only [cfgV] at k1
      go_wp2_with (first | (go_at_call 38; (with_reducible refine k1.mono ?_); rintro e w1 ⟨rfl, HB, HW⟩; have H2 := Aside0.mk HB; have H3 := Aside0.mk HW; clear HB HW k1) | (go_at_call 37; (with_reducible refine (k2 _ H3.out).mono ?_); rintro e w2 ⟨rfl, rfl⟩; clear k2) | ((with_reducible refine gate_builtin (b := .copy) (xs := #[.tmp 68, .tmp 71]) rfl ?_); refine copy_step rfl (.tmp 68) (.tmp 71) rfl _ _ _ _ _ _ rfl rfl (w.heap.size + 1) (j + el) (wrt out j e) 5 W1 _ H2.out pre ?hn ?hpos ?hfit H3.out HR.out.hg ?_; (case hn => rw [HZ.out.2.2.2.2.2.2.2.2]; exact (Nat.min_eq_left a6).symm); (case hpos => intro _; exact ⟨rfl, b, _, rfl, HPr.out _ H3.out⟩); (case hfit => have := HZ.out; omega); intro w3 hO3 hb3; have HO3 := Aside0.mk hO3; have HB3 := Aside0.mk hb3; clear hO3 hb3))
      go_roundw
      case rel => exact ⟨l3, _, _, _, _, _, _, _, _, by rw [HL3.out], rfl, ⟨HS.out _ HO3.out HB3.out⟩⟩
      case measure => show L - m - q < L; rw [HL3.out]; exact HMs.out
end Go.Proofs.YtobmnfbplmefoaaDoor.PFnJqPathOf
