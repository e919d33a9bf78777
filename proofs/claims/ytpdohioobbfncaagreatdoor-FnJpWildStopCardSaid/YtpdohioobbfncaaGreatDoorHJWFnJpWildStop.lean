/- Two errors of errors.New's make, held against each other; no condition beside those that each theorem states. -/
import Derived.Test.YtpdohioobbfncaaGreatDoorHHFnJpWildStop
import Derived.LaidEql
import Derived.Test.YtpdohioobbfncaaGreatDoorChecked
import Derived.Stop.Asserts
import Derived.RowKitTokens
import Derived.Test.YtpdohioobbfncaaGreatDoorHKYFnJpWildStop
import Derived.Deep.LoopGhost
import Derived.Deep.DeepCutAuto
namespace Go.Proofs.YtpdohioobbfncaaGreatDoor.PFnJpWildStop
open Go.RowKit Go.Proofs.YtpdohioobbfncaaGreatDoorW.PrintWords Go.Proofs.YtpdohioobbfncaaGreatDoorW.PrintLast Go.Proofs.YtpdohioobbfncaaGreatDoorW.PrintMore
set_option linter.unusedVariables false
set_option linter.unusedSimpArgs false
theorem errComp : (Tryz.prog.info? 161).map (·.comparable) = some true := by kernel_rfl
theorem errSize : (Tryz.prog.info? 163).map (·.size) = some 1 := by kernel_rfl
theorem errIface : Tryz.prog.underlying 48 = some (.interface #[("Error", 176)]) := by kernel_rfl
theorem errPtr : Tryz.prog.underlying 161 = some (.pointer 163) := by kernel_rfl
/-- Two errors of errors.New's make, held against each other. -/
theorem eql_ptr {W : World} (x a : Addr) {cx ca : Array Value} {tx ta : TypeId} (hx : W.heap[x.block]? = some (.cells cx tx (0, 0))) (ha : W.heap[a.block]? = some (.cells ca ta (0, 0))) :
    (binOp .eql 48 (.iface 161 (.pointer (some x))) (.iface 161 (.pointer (some a)))).run Tryz.prog W = .ok (.bool (decide (x = a))) W := by
  obtain ⟨i, hi, hcmp⟩ := Option.map_eq_some_iff.1 errComp
  obtain ⟨j, hj, hjs⟩ := Option.map_eq_some_iff.1 errSize
  by_cases h : x = a
  · subst h
    simpa using run_eql_iface_ptr_same (P := Tryz.prog) W x errIface errPtr hi hcmp hj
  · simpa [h] using run_eql_iface_ptr_other (P := Tryz.prog) W errIface errPtr hi hcmp hj (by rw [hjs]; decide) h hx ha
theorem Sent.self {g1 : Nat} {t1 : List UInt8} {w : World} (h1 : Sent g1 t1 w) :
    ∃ a1, w.cell? ⟨g1, 0, none⟩ = some (.iface 161 (.pointer (some a1))) ∧ (binOp .eql 48 (.iface 161 (.pointer (some a1))) (.iface 161 (.pointer (some a1)))).run Tryz.prog w = .ok (.bool true) w := by
  obtain ⟨a1, s1, c1, u1, x1, y1, z1, k1⟩ := h1
  exact ⟨a1, x1, by rw [eql_ptr a1 a1 k1 k1, decide_eq_true rfl]⟩
end Go.Proofs.YtpdohioobbfncaaGreatDoor.PFnJpWildStop/- errors.Is of two errors of errors.New's make; no condition beside those that each theorem states. -/
namespace Go.Proofs.YtpdohioobbfncaaGreatDoor.PFnJpWildStop
open Go.RowKit Go.Extern.Stop Go.Stop Go.Extern
set_option linter.unusedVariables false
set_option linter.unusedSimpArgs false
theorem isTypeOf (v : Value) (w : World) : (Extern.ReflectliteType.typeOf #[.iface 161 v]).run Tryz.prog w = .ok (.iface 132 (.agg #[.pointer (some ⟨21, 161, none⟩)])) w := by kernel_rfl
/-- What the model does at Comparable. -/
def cmpF : Array Value → Sem Value := Extern.ReflectliteType.method fun t => do Extern.Rtype.noPackHeld "Comparable" t; pure (.bool (← typeInfo t).comparable)
theorem isComparable (w : World) : (cmpF #[.agg #[.pointer (some ⟨21, 161, none⟩)]]).run Tryz.prog w = .ok (.bool true) w := by kernel_rfl
theorem isMethodComparable (v : Value) (w : World) : (Go.method 309 132 v "Comparable").run Tryz.prog w = .ok (139, v) w := by kernel_rfl
theorem noIsE (v : Value) (xT : TypeId) (w : World) : (Instr.typeAssert (.iface 161 v) xT 134 true).run Tryz.prog w = .ok (.tuple #[.nilIface, .bool false]) w := run_typeAssert_lacksB Tryz.underlying134 (by kernel_rfl) (by kernel_rfl) v xT w
theorem noUnwrapE (v : Value) (xT : TypeId) (w : World) : (Instr.typeAssert (.iface 161 v) xT 137 true).run Tryz.prog w = .ok (.tuple #[.nilIface, .bool false]) w := run_typeAssert_lacksB Tryz.underlying137 (by kernel_rfl) (by kernel_rfl) v xT w
theorem noUnwrapsE (v : Value) (xT : TypeId) (w : World) : (Instr.typeAssert (.iface 161 v) xT 139 true).run Tryz.prog w = .ok (.tuple #[.nilIface, .bool false]) w := run_typeAssert_lacksB Tryz.underlying139 (by kernel_rfl) (by kernel_rfl) v xT w
set_option maxRecDepth 100000 in
theorem is_other (a b : Addr) (ca cb : Array Value) (ta tb : TypeId) (w : World) (hne : a ≠ b) (ha : w.heap[a.block]? = some (.cells ca ta (0, 0))) (hb : w.heap[b.block]? = some (.cells cb tb (0, 0))) :
    Calls Tryz.prog 65 #[.iface 161 (.pointer (some a)), .iface 161 (.pointer (some b))] w fun e w' => e = .returned (.bool false) ∧ w' = w := by
  have heq := eql_ptr (W := w) a b ha hb
  rw [decide_eq_false hne] at heq
  have h8 := @run_callFunc_extern Tryz.prog 79 _ Extern.ReflectliteType.typeOf Tryz.func79 (by kernel_rfl) (by kernel_rfl) (by kernel_rfl) (by kernel_rfl)
  have h32 := @run_callFunc_extern Tryz.prog 139 _ cmpF Tryz.func139 (by kernel_rfl) (by kernel_rfl) (by kernel_rfl) (by kernel_rfl)
  have tT := isTypeOf
  have cT := isComparable
  have mR := isMethodComparable
  have nE := noIsE
  have uE := noUnwrapE
  have vE := noUnwrapsE
  have kis : Calls Tryz.prog 80 #[.iface 161 (.pointer (some a)), .iface 161 (.pointer (some b)), .bool true] w fun e w' => e = .returned (.bool false) ∧ w' = w := by
    go_enter Tryz.func80, Tryz.ntmps80
    go_wp2
    refine wp_loop_rounds 1 ?_
    rw [rounds_succ]
    go_wp2
    go_ret
    exact ⟨rfl, rfl⟩
  go_enter Tryz.func65, Tryz.ntmps65
  go_wp2_with (go_at_call 80; (with_reducible refine kis.mono ?_); rintro e' w4 ⟨rfl, rfl⟩)
  go_ret
  exact ⟨rfl, rfl⟩
end Go.Proofs.YtpdohioobbfncaaGreatDoor.PFnJpWildStop/- arrayEachErr where keys lead to an array, with any call back, told by hand; no condition beside those that each theorem states. -/
namespace Go.Proofs.YtpdohioobbfncaaGreatDoor.PFnJpWildStop
open Go.RowKit Go.Proofs.YtpdohioobbfncaaGreatDoorW.PrintWords Go.Proofs.YtpdohioobbfncaaGreatDoorW.PrintLast Go.Proofs.YtpdohioobbfncaaGreatDoorW.PrintMore
set_option linter.unusedVariables false
set_option linter.unusedSimpArgs false
set_option maxHeartbeats 2000000 in
set_option maxRecDepth 100000 in
/-- nextToken at what is found. -/
theorem ntk_calls {s : ByteArray} {e a x : Nat} (h : NT s e a x) (b c : Nat) (W : World) (he : e ≤ s.size) (hz : s.size ≤ 2147483647) (hc : e - a ≤ c) (hG : Glob W) (hT : Tx b s W) :
    Calls Tryz.prog 37 #[.slice (some ⟨b, a, none⟩) (e - a) c] W fun e' w' => e' = .returned (.int .i64 ((x - a : Nat) : Int)) ∧ Below W.heap.size W w' := by
  obtain ⟨k, hk⟩ := h
  have HK := Aside0.mk (next_calls hk b c W he hz hc hT)
  have g0 := hG.e2_0
  have g1 := hG.e2_1
  have g2 := hG.e2_2
  obtain ⟨n, hn⟩ : ∃ n, e - a = n := ⟨_, rfl⟩
  obtain ⟨r, hr⟩ : ∃ r, x - a = r := ⟨_, rfl⟩
  rw [hn, hr] at HK
  rw [hn, hr]
  dsimp only [cfgV] at HK
  clear hk hG hT hc hn hr
  go_enter Tryz.func37, Tryz.ntmps37
  go_wp2_with (go_at_call 48; (with_reducible refine HK.out.mono ?_); rintro e' w3 ⟨rfl, HB⟩; have HW3 := Aside0.mk HB; clear HB)
  go_ret
  exact ⟨rfl, HW3.out⟩
set_option maxHeartbeats 2000000 in
set_option maxRecDepth 100000 in
theorem skeys_calls {s : ByteArray} {keys : List ByteArray} {q0 : Nat} (h : SR s s.size keys 0 0 0 true (some q0)) (hn0 : keys = [] → q0 = 0) (b c kb ko kc : Nat) (kA : Option Addr) (w : World) (hQ : Qk b c kb ko kc kA s keys w) :
    Calls Tryz.prog 63 #[.slice (some ⟨b, 0, none⟩) s.size c, .slice kA keys.length kc] w fun e' w' => e' = .returned (.int .i64 (q0 : Int)) ∧ Below w.heap.size w w' := by
  have K1 := search_all (keys.length + 1) keys (Nat.lt_succ_self _) s s.size 0 (some q0) h (fun hh => by rw [hn0 hh]) b c kb ko kc kA w (Nat.le_refl _) hQ.hz (Nat.zero_le _) (by have := hQ.hc; omega) hQ.hks hQ.hkc trivial hQ.hkA hQ.glob hQ.text hQ.key
  rw [show ret 0 (some q0) = (q0 : Int) from rfl, Nat.sub_zero] at K1
  have g0 := hQ.glob.e2_0
  have g1 := hQ.glob.e2_1
  have g2 := hQ.glob.e2_2
  obtain ⟨n, hn⟩ : ∃ n, s.size = n := ⟨_, rfl⟩
  obtain ⟨N, hN⟩ : ∃ N, keys.length = N := ⟨_, rfl⟩
  rw [hn, hN] at K1
  rw [hn, hN]
  have HK := Aside0.mk K1
  dsimp only [cfgV] at HK
  clear K1 h hQ hn hN hn0
  go_enter Tryz.func63, Tryz.ntmps63
  go_wp2_with (go_at_call 49; (with_reducible refine HK.out.mono ?_); rintro e' w3 ⟨rfl, HB⟩; have HW3 := Aside0.mk HB; clear HB)
  go_ret
  exact ⟨rfl, HW3.out⟩
set_option maxHeartbeats 2000000 in
set_option maxRecDepth 100000 in
theorem iget0_calls {s : ByteArray} {e a x y : Nat} {kd : Int} (h : GV s e a x y kd) (b c kc : Nat) (kA : Option Addr) (w : World) (he : e ≤ s.size) (hz : s.size ≤ 2147483647) (hc : e - a ≤ c) (hG : Glob w) (hT : Tx b s w) :
    Calls Tryz.prog 34 #[.slice (some ⟨b, a, none⟩) (e - a) c, .slice kA 0 kc] w fun e' w' => e' = .returned (.tuple #[vsl b x y kd, .int .i64 kd, .int .i64 ((x - a : Nat) : Int), .int .i64 ((y - a : Nat) : Int), .nilIface]) ∧ Below w.heap.size w w' := by
  have K1 := get0_calls h b c kc kA w he hz hc hG hT
  have g0 := hG.e2_0
  have g1 := hG.e2_1
  have g2 := hG.e2_2
  obtain ⟨v, hv⟩ : ∃ v, vsl b x y kd = v := ⟨_, rfl⟩
  obtain ⟨n, hn⟩ : ∃ n, e - a = n := ⟨_, rfl⟩
  obtain ⟨o, ho⟩ : ∃ n, x - a = n := ⟨_, rfl⟩
  obtain ⟨z, hzz⟩ : ∃ n, y - a = n := ⟨_, rfl⟩
  rw [hv, hn, ho, hzz] at K1
  rw [hv, hn, ho, hzz]
  have HK := Aside0.mk K1
  dsimp only [cfgV] at HK
  clear K1 h hG hT hv hn ho hzz hc hz he
  go_enter Tryz.func34, Tryz.ntmps34
  go_wp2_with (go_at_call 51; (with_reducible refine HK.out.mono ?_); rintro e' w3 ⟨rfl, HB⟩; have HW3 := Aside0.mk HB; clear HB)
  refine bodyPost_ret (results_tmp5 rfl _ _ _) rfl ?_
  exact ⟨by simp, HW3.out⟩
set_option maxHeartbeats 2000000 in
set_option maxRecDepth 100000 in
theorem pget0_calls {s : ByteArray} {e a x y : Nat} {kd : Int} (h : GV s e a x y kd) (b c kc : Nat) (kA : Option Addr) (w : World) (he : e ≤ s.size) (hz : s.size ≤ 2147483647) (hc : e - a ≤ c) (hG : Glob w) (hT : Tx b s w) :
    Calls Tryz.prog 64 #[.slice (some ⟨b, a, none⟩) (e - a) c, .slice kA 0 kc] w fun e' w' => e' = .returned (.tuple #[vsl b x y kd, .int .i64 kd, .int .i64 ((y - a : Nat) : Int), .nilIface]) ∧ Below w.heap.size w w' := by
  have K1 := iget0_calls h b c kc kA w he hz hc hG hT
  obtain ⟨v, hv⟩ : ∃ v, vsl b x y kd = v := ⟨_, rfl⟩
  obtain ⟨n, hn⟩ : ∃ n, e - a = n := ⟨_, rfl⟩
  obtain ⟨o, ho⟩ : ∃ n, x - a = n := ⟨_, rfl⟩
  obtain ⟨z, hzz⟩ : ∃ n, y - a = n := ⟨_, rfl⟩
  rw [hv, hn, ho, hzz] at K1
  rw [hv, hn, hzz]
  have HK := Aside0.mk K1
  clear K1 h hG hT hv hn ho hzz hc hz he
  go_enter Tryz.func64, Tryz.ntmps64
  go_wp2_with (go_at_call 34; (with_reducible refine HK.out.mono ?_); rintro e' w3 ⟨rfl, HB⟩; have HW3 := Aside0.mk HB; clear HB)
  refine bodyPost_ret (results_tmp4 rfl _ _ _) rfl ?_
  exact ⟨by simp, HW3.out⟩
/-- What is asked at a call of arrayEachErr. -/
structure Aq (s : ByteArray) (keys : List ByteArray) (n0 q0 p : Nat) : Prop where
  sr : SR s s.size keys 0 0 0 true (some q0)
  nil : keys = [] → q0 = 0 ∧ n0 = p
  nta : NT s s.size 0 n0
  nas : n0 < s.size
  nt : NT s s.size q0 p
  qp : q0 ≤ p
  ps : p < s.size
/-- What is kept while an array is gone over. -/
structure Tw (b : Nat) (s : ByteArray) (P : Nat → Prop) (I : Nat → World → Prop) (j : Nat) (w0 W : World) : Prop where
  bes : Bes P w0 W
  inv : I j W
  glob : Glob W
  text : Tx b s W
theorem Tw.more {b : Nat} {s : ByteArray} {P : Nat → Prop} {I : Nat → World → Prop} {j : Nat} {w0 W W' : World} (h : Tw b s P I j w0 W) (hI : ∀ j W W', I j W → Below W.heap.size W W' → I j W') (hb : Below W.heap.size W W') : Tw b s P I j w0 W' := ⟨h.bes.step hb, hI _ _ _ h.inv hb, h.glob.below hb, h.text.more hb⟩
/-- Where the walk over the elements stands. -/
structure Lx (b : Nat) (s : ByteArray) (els : List (Nat × Nat × Int)) (f stop : Nat) (P : Nat → Prop) (I : Nat → World → Prop) (o j gk : Nat) (w0 W : World) : Prop where
  te : Tw b s P I j w0 W
  el : ∃ r, els.drop j = r ∧ EL s s.size o r f
  gk : s.size - o ≤ gk
  js : j ≤ stop
theorem Lx.split {b : Nat} {s : ByteArray} {els : List (Nat × Nat × Int)} {f stop : Nat} {P : Nat → Prop} {I : Nat → World → Prop} {o j gk : Nat} {w0 W : World} (h : Lx b s els f stop P I o j gk w0 W) :
    ∃ (hj : j < els.length), GV s s.size o els[j].1 els[j].2.1 els[j].2.2 ∧ ∃ z, NT s s.size els[j].2.1 z ∧ els[j].2.1 ≤ z ∧ z < s.size ∧ ((bt s (z : Int) = 93 ∧ j + 1 = els.length) ∨ (bt s (z : Int) = 44 ∧ ∃ r, els.drop (j + 1) = r ∧ EL s s.size (z + 1) r f)) := by
  obtain ⟨r, hr, hol⟩ := h.el
  have key : ∀ (q : Nat × Nat × Int) (r2 : List (Nat × Nat × Int)), r = q :: r2 → ∃ hj : j < els.length, els[j] = q ∧ els.drop (j + 1) = r2 := by
    rintro q r2 rfl
    have hj : j < els.length := by
      apply Nat.lt_of_not_le
      intro hle
      rw [List.drop_eq_nil_of_le hle] at hr
      cases hr
    rw [List.drop_eq_getElem_cons hj] at hr
    exact ⟨hj, (List.cons.inj hr).1, (List.cons.inj hr).2⟩
  cases hol with
  | last hg nt yz ze hz =>
    obtain ⟨hj, h1, h2⟩ := key _ _ rfl
    refine ⟨hj, by rw [h1]; exact hg, _, by rw [h1]; exact nt, by rw [h1]; exact yz, ze, .inl ⟨hz, ?_⟩⟩
    have := congrArg List.length h2
    rw [List.length_drop] at this
    simp at this
    omega
  | more hg nt yz ze hz t =>
    obtain ⟨hj, h1, h2⟩ := key _ _ rfl
    exact ⟨hj, by rw [h1]; exact hg, _, by rw [h1]; exact nt, by rw [h1]; exact yz, ze, .inr ⟨hz, _, h2, t⟩⟩
/-- What a call back gives that stops at a number with an error of its own. -/
def Cb (stop j : Nat) (v : Value) (W' : World) : Prop := (j ≠ stop ∧ v = .nilIface) ∨ (j = stop ∧ ∃ te pe t2 p2, v = .iface te pe ∧ W'.cell? ⟨0, 0, none⟩ = some (.iface t2 p2) ∧ Calls Tryz.prog 65 #[.iface te pe, .iface t2 p2] W' fun e w' => e = .returned (.bool false) ∧ w' = W')
set_option maxHeartbeats 8000000 in
set_option maxRecDepth 100000 in
theorem aerr_calls {s : ByteArray} {keys : List ByteArray} {n0 q0 p : Nat} {els : List (Nat × Nat × Int)} {f : Nat} (h : Aq s keys n0 q0 p) (hae : AE s s.size p els f) (stop : Nat) (hel : els.length ≤ 2147483647) (kf : Nat) (cap : Array Value) (b c kb ko kc : Nat) (kA : Option Addr) (w : World) (P : Nat → Prop) (I : Nat → World → Prop)
    (hQ : Qk b c kb ko kc kA s keys w) (hkf : ∀ (args : Array Value) (W : World), (callFunc kf args).run Tryz.prog W = .ok (.enter kf args) W) (hGT : ∀ W, Bes P w W → Glob W ∧ Tx b s W)
    (hIB : ∀ j W W', I j W → Below W.heap.size W W' → I j W') (h0 : I 0 w)
    (hcb : ∀ j (hj : j < els.length) (o : Int) W, j ≤ stop → I j W → Bes P w W → Calls Tryz.prog kf (#[vsl b els[j].1 els[j].2.1 els[j].2.2, .int .i64 els[j].2.2, .int .i64 o, .nilIface] ++ cap) W fun e' W' => (∃ v, e' = .returned v ∧ Cb stop j v W') ∧ I (j + 1) W' ∧ Bes P W W') :
    Calls Tryz.prog 47 #[.slice (some ⟨b, 0, none⟩) s.size c, .func (.func kf) #[] cap, .slice kA keys.length kc] w fun e' w' => (∃ (o : Int) (n : Nat) (v : Value), e' = .returned (.tuple #[.int .i64 o, .int .i64 (n : Int), v]) ∧ ((stop < els.length ∧ n = stop + 1 ∧ ∃ te pe, v = .iface te pe) ∨ (els.length ≤ stop ∧ n = els.length ∧ v = .nilIface)) ∧ I n w') ∧ Bes P w w' := by
  have hz := hQ.hz
  have hc := hQ.hc
  have hps := h.ps
  have hqp := h.qp
  have hn0 := h.nas
  have HKF := Aside0.mk hkf
  have HCB := Aside0.mk hcb
  have HIB := Aside0.mk hIB
  have HT0 := Aside0.mk (show Tw b s P I 0 w w from ⟨Bes.refl _ _, h0, hQ.glob, hQ.text⟩)
  have HGT := Aside0.mk hGT
  have NX : ∀ a x, NT s s.size a x → ∀ W, Glob W → Tx b s W → Calls Tryz.prog 37 #[.slice (some ⟨b, a, none⟩) (s.size - a) (c - a)] W fun e' w' => e' = .returned (.int .i64 ((x - a : Nat) : Int)) ∧ Below W.heap.size W w' :=
    fun a x hx W hG hT => ntk_calls hx b (c - a) W (Nat.le_refl _) hz (by omega) hG hT
  have HNX := Aside0.mk NX
  have HBY := Aside0.mk (show ∀ q : Nat, q < s.size → ∀ W, Tx b s W → W.cell? ⟨b, q, none⟩ = some (.int .u8 (bt s (q : Int))) from fun q hq W hW => hW.cell q hq)
  have KS := Aside0.mk (show ∀ W, Below w.heap.size w W → _ from fun W hB => skeys_calls h.sr (fun hh => (h.nil hh).1) b c kb ko kc kA W ⟨hQ.hz, hQ.hc, hQ.hks, hQ.hkc, hQ.hkA, hQ.glob.below hB, hQ.text.more hB, hQ.key.more hB⟩)
  have K0 := Aside0.mk (HNX.out 0 n0 h.nta)
  have K1 := Aside0.mk (HNX.out q0 p h.nt)
  have B0 := Aside0.mk (HBY.out n0 hn0)
  have B1 := Aside0.mk (HBY.out p hps)
  have HN0 := Aside0.mk (show keys.length = 0 → q0 = 0 ∧ n0 = p from fun hh => h.nil (List.eq_nil_of_length_eq_zero hh))
  obtain ⟨_, _, ho, q, nq, hq1, hq2, hel2⟩ := hae
  have K2 := Aside0.mk (HNX.out (p + 1) q nq)
  have B2 := Aside0.mk (HBY.out q hq2)
  have HO := Aside0.mk ho
  have HO0 := Aside0.mk (show keys.length = 0 → bt s (n0 : Int) = 91 from fun hh => by rw [(HN0.out hh).2]; exact ho)
  rw [ho] at B1
  obtain ⟨n, hn⟩ : ∃ n, s.size = n := ⟨_, rfl⟩
  obtain ⟨N, hN⟩ : ∃ N, keys.length = N := ⟨_, rfl⟩
  obtain ⟨o1, ho1⟩ : ∃ o1, p - q0 = o1 := ⟨_, rfl⟩
  obtain ⟨p5, hp5⟩ : ∃ p5, p + 1 = p5 := ⟨_, rfl⟩
  obtain ⟨qo, hqo⟩ : ∃ qo, q - (p + 1) = qo := ⟨_, rfl⟩
  have HSN := Aside0.mk hn
  rw [hn, hN] at KS
  rw [hN] at HN0 HO0
  rw [hn, Nat.sub_zero, Nat.sub_zero, Nat.sub_zero] at K0
  rw [hn, ho1] at K1
  rw [hn, hqo, hp5] at K2
  rw [hn, hN]
  rw [hn] at hz hc hps hn0 hq2
  have p1 : (q0 : Int) ≤ (n : Int) := by omega
  have p2 : q0 ≤ n := by omega
  have p3 : c ≠ q0 := by omega
  have p4 : (p : Int) < (n : Int) := by omega
  have p6 : ((n : Int) == 0) = false := beq_eq_false_iff_ne.2 (by omega)
  have p6' : (n == 0) = false := beq_eq_false_iff_ne.2 (by omega)
  have p7 : ((n0 : Int) == -1) = false := beq_eq_false_iff_ne.2 (by omega)
  have p8 : (n0 : Int) < (n : Int) := by omega
  have m1 : ((o1 : Int) == -1) = false := beq_eq_false_iff_ne.2 (by omega)
  have m3 : ((q0 : Int) == -1) = false := beq_eq_false_iff_ne.2 (by omega)
  have q1 : (p5 : Int) ≤ (n : Int) := by omega
  have q2 : p5 ≤ n := by omega
  have q3 : c ≠ p5 := by omega
  have q4 : (q : Int) < (n : Int) := by omega
  have q4' : q < n := by omega
  have q5 : ((qo : Int) == -1) = false := beq_eq_false_iff_ne.2 (by omega)
  obtain ⟨m2, m4, m5, q7⟩ : IntKind.i64.wrap ((q0 : Int) + (o1 : Int)) = (p : Int) ∧ IntKind.i64.wrap ((p : Int) + 1) = (p5 : Int) ∧ (N = 0 → IntKind.i64.wrap ((n0 : Int) + 1) = (p5 : Int)) ∧ IntKind.i64.wrap ((p5 : Int) + (qo : Int)) = (q : Int) := by
    refine ⟨?_, ?_, ?_, ?_⟩
    · rw [IntKind.wrap_i64]; omega
    · rw [IntKind.wrap_i64]; omega
    · intro hh
      rw [(HN0.out hh).2, IntKind.wrap_i64]
      omega
    · rw [IntKind.wrap_i64]; omega
  have HQ1 := Aside0.mk (And.intro hz (And.intro hc hel))
  clear h hQ hkf hcb NX hn hN ho1 hz hc hqp hp5 hqo hGT hIB h0 nq hps hn0 hq1 hq2 ho hel
  go_enter Tryz.func47, Tryz.ntmps47
  go_upto_region 6 with (first | (go_at_call 37; (with_reducible refine (K0.out _ HT0.out.glob HT0.out.text).mono ?_); rintro e' w1 ⟨rfl, HB⟩; have HT1 := Aside0.mk (HT0.out.more HIB.out HB); have HB1 := Aside0.mk HB; have x0 := B0.out _ HT1.out.text; clear HB))
  go_cut [7, 36] (fun v7 v36 wc => v7 = .int .i64 0 ∧ v36 = .bool false ∧ Aside0 (Tw b s P I 0 w wc ∧ Below w.heap.size w wc))
  case first =>
    by_cases hN : N = 0
    · have h91 := HO0.out hN
      rw [h91] at x0
      subst hN
      go_wp2
      go_meet
      case rel => exact ⟨by simp, by simp, ⟨HT1.out, HB1.out⟩⟩
    · have n2' : ((N : Int) == 0) = false := beq_eq_false_iff_ne.2 (by omega)
      have n3' : (N == 0) = false := beq_eq_false_iff_ne.2 hN
      go_wp2
      go_meet
      case rel => exact ⟨by simp, by simp, ⟨HT1.out, HB1.out⟩⟩
  clear x0
  obtain ⟨rfl, rfl, HT2⟩ := hcut
  go_upto_if 42 with (fail)
  go_cut [6, 7] (fun v6 v7 wc => v6 = .int .i64 (p5 : Int) ∧ v7 = .int .i64 0 ∧ Aside0 (Tw b s P I 0 w wc))
  case first =>
    by_cases hN : N = 0
    · have m6 := m5 hN
      subst hN
      go_wp2
      go_meet
      case rel => exact ⟨by first | rfl | exact congrArg (Value.int .i64) m6 | (have h := m6; rw [IntKind.wrap_i64] at h; simp <;> (unfold wrap64 <;> omega)), by simp, ⟨HT2.out.1⟩⟩
    · have n0' : decide ((N : Int) > 0) = true := decide_eq_true (by omega)
      have n1' : decide (0 < N) = true := decide_eq_true (by omega)
      clear m5
      go_wp2_with (first | (go_at_call 63; (with_reducible refine (KS.out _ HT2.out.2).mono ?_); rintro e' w2 ⟨rfl, HB⟩; have HT3 := Aside0.mk (HT2.out.1.more HIB.out HB); clear HB) | (go_at_call 37; (with_reducible refine (K1.out _ HT3.out.glob HT3.out.text).mono ?_); rintro e' w3 ⟨rfl, HB⟩; have HT4 := Aside0.mk (HT3.out.more HIB.out HB); have x1 := B1.out _ HT4.out.text; clear HB))
      go_meet
      case rel => exact ⟨by first | rfl | exact congrArg (Value.int .i64) m4 | (have h := m4; rw [IntKind.wrap_i64] at h; simp <;> (unfold wrap64 <;> omega)), by simp, HT4⟩
  obtain ⟨rfl, rfl, HT5⟩ := hcut
  clear m5
  go_upto_region 24 with (first | (go_at_call 37; (with_reducible refine (K2.out _ HT5.out.glob HT5.out.text).mono ?_); rintro e' w4 ⟨rfl, HB⟩; have HT6 := Aside0.mk (HT5.out.more HIB.out HB); have x2 := B2.out _ HT6.out.text; clear HB))
  rcases hel2 with ⟨h93, rfl, rfl⟩ | ⟨h93, hol⟩
  · rw [h93] at x2
    clear h93
    go_wp2
    refine bodyPost_ret (results_tmp3 rfl _ _ _) rfl ?_
    exact ⟨⟨(f : Int), 0, .nilIface, by simp, .inr ⟨Nat.zero_le _, rfl, rfl⟩, HT6.out.inv⟩, HT6.out.bes⟩
  · have c93 : (bt s (q : Int) == 93) = false := beq_eq_false_iff_ne.2 h93
    obtain ⟨cz, hcz⟩ : ∃ cz, bt s (q : Int) = cz := ⟨_, rfl⟩
    rw [hcz] at c93 x2
    have HR0 := Aside0.mk (show Lx b s els f stop P I q 0 s.size w _ from ⟨HT6.out, ⟨els, rfl, hol⟩, by omega, Nat.zero_le _⟩)
    clear h93 hcz hol
    go_wp2
    go_loopg [6, 7] s.size (fun gk vo vc wr => ∃ o j : Nat, vo = .int .i64 ((o : Nat) : Int) ∧ vc = .int .i64 ((j : Nat) : Int) ∧ Aside0 (Lx b s els f stop P I o j gk w wr))
    case atStart => exact ⟨q, 0, rfl, rfl, HR0⟩
    case round =>
      clear HR0 x2 c93
      obtain ⟨o, j, rfl, rfl, HR⟩ := hrel
      have HR1 := Aside0.mk HR.out.te
      obtain ⟨hj, hgv, z, hnz, hyz, hzn, hcase⟩ := HR.out.split
      have hjs := HR.out.js
      obtain ⟨x, y, kd, hxy⟩ : ∃ x y kd, els[j] = (x, y, kd) := ⟨_, _, _, rfl⟩
      have HCJ := Aside0.mk (fun (o : Int) (W : World) => HCB.out j hj o W hjs)
      rw [hxy] at hgv hnz hyz HCJ
      dsimp only at hgv hnz hyz HCJ
      have ax := hgv.ax
      have xy := hgv.xy
      have ye := hgv.ye
      have hsn := HSN.out
      obtain ⟨hz, hc, hel⟩ := HQ1.out
      obtain ⟨yo, hyo⟩ : ∃ yo, y - o = yo := ⟨_, rfl⟩
      obtain ⟨zo, hzo⟩ : ∃ zo, z - y = zo := ⟨_, rfl⟩
      obtain ⟨j1, hj1⟩ : ∃ j1, j + 1 = j1 := ⟨_, rfl⟩
      obtain ⟨vx, vl, hv, hv1, hv2, hv3⟩ := vsl_slice b x y kd
      have K3 := Aside0.mk (fun (W : World) (hW : Tw b s P I j w W) => pget0_calls hgv b (c - o) 0 none W (Nat.le_refl _) (by omega) (by omega) hW.glob hW.text)
      rw [hv, hsn, hyo] at K3
      rw [hv, hj1] at HCJ
      have K4 := Aside0.mk (fun (W : World) (hG : Glob W) (hT : Tx b s W) => HNX.out y z hnz W hG hT)
      rw [hsn, hzo] at K4
      have B4 := Aside0.mk (HBY.out z hzn)
      have HM := Aside0.mk (show s.size - o ≤ gk ∧ o < z ∧ z < s.size from ⟨HR.out.gk, by omega, hzn⟩)
      rw [hsn] at hzn ye
      have i0 : (o : Int) ≤ (n : Int) := by omega
      have i1 : o ≤ n := by omega
      have i2 : c ≠ o := by omega
      have i3 : ((yo : Int) == 0) = false := beq_eq_false_iff_ne.2 (by omega)
      have i8 : (y : Int) ≤ (n : Int) := by omega
      have i9 : y ≤ n := by omega
      have ia : c ≠ y := by omega
      have ib : ((zo : Int) == -1) = false := beq_eq_false_iff_ne.2 (by omega)
      have ie : (z : Int) < (n : Int) := by omega
      have ie' : z < n := by omega
      obtain ⟨z1, hz1⟩ : ∃ z1, z + 1 = z1 := ⟨_, rfl⟩
      obtain ⟨i4, ic, id, ih⟩ : IntKind.i64.wrap ((o : Int) + (yo : Int)) = (y : Int) ∧ IntKind.i64.wrap ((y : Int) + (zo : Int)) = (z : Int) ∧ IntKind.i64.wrap ((j : Int) + 1) = (j1 : Int) ∧ IntKind.i64.wrap ((z : Int) + 1) = (z1 : Int) := by
        clear m2 m4 q7
        refine ⟨?_, ?_, ?_, ?_⟩ <;> (rw [IntKind.wrap_i64]; omega)
      have HQ := Aside0.mk (show (bt s (z : Int) = 93 ∧ j1 = els.length) ∨ (bt s (z : Int) = 44 ∧ ∃ r, els.drop j1 = r ∧ EL s s.size z1 r f) from by rw [← hz1, ← hj1]; exact hcase)
      have HZ1 := Aside0.mk (And.intro hz1 (And.intro hj1 (And.intro hj hjs)))
      clear hcase hgv hnz HR hz hc ax xy ye hyo hzo hv hv1 hv2 hv3 hyz hzn hz1 hsn hj1 hjs hj hel hxy
      go_wp2_with (first | (go_at_call 64; (with_reducible refine (K3.out _ HR1.out).mono ?_); rintro e' wq ⟨rfl, HB⟩; have HR2 := Aside0.mk (HR1.out.more HIB.out HB); clear HB))
      rw [HKF.out, Oper.upon_enter]
      refine (HCJ.out _ _ HR2.out.inv HR2.out.bes).mono ?_
      rintro e' w4 ⟨⟨v4, rfl, hcb⟩, hI4, hB4⟩
      have hgt := HGT.out _ (HR2.out.bes.trans hB4)
      have HR4 := Aside0.mk (show Tw b s P I j1 w w4 from ⟨HR2.out.bes.trans hB4, hI4, hgt.1, hgt.2⟩)
      clear hI4 hB4 hgt
      rcases hcb with ⟨hne, rfl⟩ | ⟨heq, te, pe, t2, p2, rfl, hce, his⟩
      · have HNE := Aside0.mk hne
        clear hne
        rcases HQ.out with ⟨h93, hjn⟩ | ⟨h44, r2, hr2, ht⟩
        · rw [h93] at B4
          clear h93
          go_wp2_with (first | (go_at_call 37; (with_reducible refine (K4.out _ HR4.out.glob HR4.out.text).mono ?_); rintro e' wq ⟨rfl, HB⟩; have HR5 := Aside0.mk (HR4.out.more HIB.out HB); have x4 := B4.out _ HR5.out.text; clear HB))
          refine bodyPost_ret (results_tmp3 rfl _ _ _) rfl ?_
          exact ⟨⟨(z : Int), j1, .nilIface, by simp [hjn], .inr ⟨by have := HZ1.out; have := HNE.out; omega, hjn, rfl⟩, HR5.out.inv⟩, HR5.out.bes⟩
        · rw [h44] at B4
          have hlt : z1 < s.size := by
            cases ht with
            | last hg => have := hg.ax; have := hg.xy; have := hg.ye; omega
            | more hg => have := hg.ax; have := hg.xy; have := hg.ye; omega
          go_wp2_with (first | (go_at_call 37; (with_reducible refine (K4.out _ HR4.out.glob HR4.out.text).mono ?_); rintro e' wq ⟨rfl, HB⟩; have HR5 := Aside0.mk (HR4.out.more HIB.out HB); have x4 := B4.out _ HR5.out.text; clear HB))
          have HY := Aside0.mk (show s.size - z1 < gk ∧ Lx b s els f stop P I z1 j1 (s.size - z1) w _ from ⟨by have := HM.out; have := HZ1.out; omega, HR5.out, ⟨r2, hr2, ht⟩, Nat.le_refl _, by have := HZ1.out; have := HNE.out; omega⟩)
          go_roundg (s.size - z1)
          case measure => exact HY.out.1
          case rel => exact ⟨z1, j1, by simp, by simp, ⟨HY.out.2⟩⟩
      · have HIS := Aside0.mk his
        clear his
        go_wp2_with (go_at_call 65; (with_reducible refine HIS.out.mono ?_); rintro e' w5 ⟨rfl, rfl⟩)
        refine bodyPost_ret (results_tmp3 rfl _ _ _) rfl ?_
        exact ⟨⟨(o : Int), j1, .iface te pe, by simp, .inl ⟨by have := HZ1.out; omega, by have := HZ1.out; omega, te, pe, rfl⟩, HR4.out.inv⟩, HR4.out.bes⟩
end Go.Proofs.YtpdohioobbfncaaGreatDoor.PFnJpWildStop/- impl.JqWildStop, its call backs and ArrayEachWildcard, told by hand; no condition beside those that each theorem states. -/
namespace Go.Proofs.YtpdohioobbfncaaGreatDoor.PFnJpWildStop
open Go.RowKit Go.Proofs.YtpdohioobbfncaaGreatDoorW.PrintWords Go.Proofs.YtpdohioobbfncaaGreatDoorW.PrintLast Go.Proofs.YtpdohioobbfncaaGreatDoorW.PrintMore
set_option linter.unusedVariables false
set_option linter.unusedSimpArgs false
/-- errors.Is of the call back's own error and io.EOF. -/
theorem eis_calls {W : World} (hG : Glob W) : ∃ te pe t2 p2, W.cell? ⟨1, 0, none⟩ = some (.iface te pe) ∧ W.cell? ⟨0, 0, none⟩ = some (.iface t2 p2) ∧ Calls Tryz.prog 65 #[.iface te pe, .iface t2 p2] W fun e w' => e = .returned (.bool false) ∧ w' = W := by
  obtain ⟨a1, s1, c1, u1, x1, y1, z1, k1⟩ := hG.s1
  obtain ⟨a2, s2, c2, u2, x2, y2, z2, k2⟩ := hG.s0
  refine ⟨_, _, _, _, x1, x2, is_other a1 a2 c1 c2 u1 u2 W ?_ k1 k2⟩
  rintro rfl
  rw [y1] at y2
  obtain rfl := Value.string.inj (Option.some.inj y2)
  rw [z1] at z2
  exact absurd z2 (by decide)
set_option maxRecDepth 100000 in
theorem stopby_calls (j stop : Nat) (W : World) (hG : Glob W) : Calls Tryz.prog 20 #[.int .i64 (j : Int), .int .i64 (stop : Int), .bool false] W fun e w' => (∃ v, e = .returned v ∧ Cb stop j v w') ∧ w' = W := by
  obtain ⟨te, pe, t2, p2, x1, x2, his⟩ := eis_calls hG
  have HIS := Aside0.mk his
  have HX := Aside0.mk x2
  clear his hG x2
  by_cases h : j = stop
  · have h1 : ((j : Int) != (stop : Int)) = false := by subst h; simp
    have HH := Aside0.mk h
    clear h
    go_enter Tryz.func20, Tryz.ntmps20
    go_wp2
    go_ret
    exact ⟨⟨_, rfl, .inr ⟨HH.out, te, pe, t2, p2, rfl, HX.out, HIS.out⟩⟩, rfl⟩
  · have h1 : ((j : Int) != (stop : Int)) = true := bne_iff_ne.2 (by omega)
    have HH := Aside0.mk h
    clear h
    go_enter Tryz.func20, Tryz.ntmps20
    go_wp2
    go_ret
    exact ⟨⟨_, rfl, .inl ⟨HH.out, rfl⟩⟩, rfl⟩
theorem infoA : (Tryz.prog.info? 36).map (fun i => (i.zero, i.size, i.bytes)) = some (some (.agg #[.int .i64 0, .string ByteArray.empty, .int .i64 0]), 3, 32) := by kernel_rfl
/-- What has been gathered by turn j. -/
def rowC (tx : Nat → ByteArray) (kd : Nat → Int) (j : Nat) : List Value := (List.range j).flatMap fun (i : Nat) => [Value.int .i64 (i : Int), .string (tx i), .int .i64 (kd i)]
theorem rowC_succ (tx : Nat → ByteArray) (kd : Nat → Int) (j : Nat) : rowC tx kd (j + 1) = rowC tx kd j ++ [.int .i64 (j : Int), .string (tx j), .int .i64 (kd j)] := by
  unfold rowC
  rw [List.range_succ, List.flatMap_append]
  simp
/-- A variable that holds what has been gathered. -/
def Ja (g B : Nat) (tx : Nat → ByteArray) (kd : Nat → Int) (j : Nat) (W : World) : Prop := ∃ v, Bx g v W ∧ W.ownsRow B 36 3 v j (rowC tx kd j)
theorem Ja.more {g B : Nat} {tx : Nat → ByteArray} {kd : Nat → Int} {j : Nat} {W W' : World} (h : Ja g B tx kd j W) (hb : Below W.heap.size W W') : Ja g B tx kd j W' := by
  obtain ⟨v, h1, h2⟩ := h
  exact ⟨v, h1.more hb, pw_own_below h2 hb⟩
theorem Ja.set {g B k : Nat} {tx : Nat → ByteArray} {kd : Nat → Int} {j : Nat} {W : World} (h : Ja g B tx kd j W) (hk : g ≠ k) (hB : k < B) (u : Value) : Ja g B tx kd j (W.setCell ⟨k, 0, none⟩ u) := by
  obtain ⟨v, h1, h2⟩ := h
  exact ⟨v, h1.other hk, own_setCell h2 (fun he => by have := own_base h2 k he.symm; omega) _⟩
set_option maxHeartbeats 4000000 in
set_option maxRecDepth 100000 in
theorem clA_calls {s : ByteArray} {tx : Nat → ByteArray} {kd : Nat → Int} {b go gs B stop : Nat} (hgB : go < B) {j : Nat} (hj : j ≤ 2147483647) (x y : Nat) (off : Int) (hy : y ≤ s.size) (h2 : kd j = 1 → x + 2 ≤ y) (hxy : x < y) (htx : tx j = strOfNums (if kd j = 1 then win s (x + 1) (y - 1) else win s x y)) (W : World) (hJ : Ja go B tx kd j W) (hB : B ≤ W.heap.size) (hT : Tx b s W) (hGT : ∀ W', Bes (fun k => k = go ∨ B ≤ k) W W' → Glob W') (hgs : W.cell? ⟨gs, 0, none⟩ = some (.int .i64 (stop : Int))) (hgso : gs ≠ go) (hgsB : gs < B) :
    Calls Tryz.prog 19 (#[.int .i64 (j : Int), vsl b x y (kd j), .int .i64 (kd j), .int .i64 off, .nilIface] ++ #[.pointer (some ⟨go, 0, none⟩), .pointer (some ⟨gs, 0, none⟩)]) W fun e' W' => (∃ v, e' = .returned v ∧ Cb stop j v W') ∧ Ja go B tx kd (j + 1) W' ∧ Bes (fun k => k = go ∨ B ≤ k) W W' := by
  obtain ⟨v, hb, ho⟩ := hJ
  obtain ⟨vx, vl, hv, hwin⟩ : ∃ vx vl : Nat, vsl b x y (kd j) = .slice (some ⟨b, vx, none⟩) vl vl ∧ (vx + vl ≤ s.size ∧ (if kd j = 1 then win s (x + 1) (y - 1) else win s x y) = win s vx (vx + vl)) := by
    unfold vsl
    by_cases hk : kd j = 1
    · have := h2 hk
      exact ⟨x + 1, y - x - 2, if_pos hk, by omega, by rw [if_pos hk]; congr 1; omega⟩
    · exact ⟨x, y - x, if_neg hk, by omega, by rw [if_neg hk]; congr 1; omega⟩
  have hh := hT.hd vx (vx + vl) hwin.1
  have hcv : (convert 51 9 (.slice (some ⟨b, vx, none⟩) vl vl)).run Tryz.prog W = .ok (.string (tx j)) W := by
    rw [htx, hwin.2]
    exact run_convert_bytes_arg W 51 5 Tryz.underlying51 Tryz.underlying5 b vx vl vl (win s vx (vx + vl)) (by rw [win_len]; omega) (fun i hi => hh.cell i (by rw [win_len]; omega)) 9 Tryz.underlying9
  rw [hv]
  have HS := Aside0.mk (rowC_succ tx kd j)
  obtain ⟨tj, etj⟩ : ∃ t, tx j = t := ⟨_, rfl⟩
  obtain ⟨kj, ekj⟩ : ∃ t, kd j = t := ⟨_, rfl⟩
  rw [etj] at hcv
  rw [etj, ekj] at HS
  rw [ekj]
  obtain ⟨r0, hr0⟩ : ∃ r, rowC tx kd j = r := ⟨_, rfl⟩
  obtain ⟨j1, hj1⟩ : ∃ j1, j + 1 = j1 := ⟨_, rfl⟩
  rw [hr0, hj1] at HS
  rw [hr0] at ho
  rw [hj1]
  have HX := Aside0.mk hb
  have HO := Aside0.mk ho
  have HB := Aside0.mk hB
  have HN := Aside0.mk hj
  have HGB := Aside0.mk (And.intro hgB (And.intro hgso hgsB))
  have HJ1 := Aside0.mk hj1
  have HGT := Aside0.mk hGT
  have n1 := hgso
  have g0 := hb.cell
  have KS := Aside0.mk (fun (W' : World) (hG' : Glob W') => stopby_calls j stop W' hG')
  have i1 : IntKind.i64.wrap ((j1 : Int) - 1) = (j : Int) := by rw [IntKind.wrap_i64]; omega
  have HGS := Aside0.mk hgs
  show Calls Tryz.prog 19 #[.int .i64 (j : Int), .slice (some ⟨b, vx, none⟩) vl vl, .int .i64 kj, .int .i64 off, .nilIface, .pointer (some ⟨go, 0, none⟩), .pointer (some ⟨gs, 0, none⟩)] W _
  clear hv hwin hh etj ekj hT hb ho hB hj hgB h2 hxy hy hGT hgs htx hgso hgsB hr0 hj1
  go_enter Tryz.func19, Tryz.ntmps19
  go_wp2_with (first | ((with_reducible refine gate_builtin (b := .append) (xs := #[.tmp 13, .tmp 19]) rfl ?_); at_builtin; refine print_append_cells (w0 := W) B rfl (.tmp 13) (.tmp 19) 32 36 _ 3 32 rfl Tryz.underlying32 infoA rfl (by decide) (by decide) v j r0 [.int .i64 (j : Int), .string tj, .int .i64 kj] rfl rfl rfl (by simp [Value.oneCell']) HO.out (Below.refl _ _) HB.out (by have := HN.out; omega) ?_; intro v1 w1 ho1 hb1 hg1 hat1; obtain ⟨sa, sc, rfl⟩ := own_slice ho1; have HO1 := Aside0.mk ho1; have HB1 := Aside0.mk hb1; have hne : some go ≠ v.ownBlock := (fun he => by have := own_base HO.out go he.symm; have := HGB.out.1; omega); have hne2 : some gs ≠ v.ownBlock := (fun he => by have := own_base HO.out gs he.symm; have := HGB.out.2.2; omega); have HX1 := Aside0.mk (show Bx go v w1 from by obtain ⟨t, ht⟩ := HX.out; exact ⟨t, blk_grown ht hg1 hne⟩); have HJ2 := HJ1.out; rw [HJ2] at ho1 HO1; rw [HJ2]; have q1 := HX1.out.cell; have q2 := HX1.out.free; have q3 := (show w1.cell? ⟨gs, 0, none⟩ = some (.int .i64 (stop : Int)) from (World.cell?_of_block (w := W) (hg1.block gs (World.block_lt_of_cell? W _ HGS.out) hne2)).trans HGS.out); have HBs := Aside0.mk (show Bes (fun k => k = go ∨ B ≤ k) W w1 from ⟨HB1.out.os, HB1.out.tape, HB1.out.output, HB1.out.size, fun i hi hp => HB1.out.block i (by omega)⟩); clear ho1 hb1 hg1 hat1 hne hne2 g0 HJ2) | (go_at_call 20; (with_reducible refine (KS.out _ (HGT.out _ (HBs.out.set go 0 _ (.inl rfl)))).mono ?_); rintro e' w' ⟨⟨v2, rfl, hcb⟩, rfl⟩; have HC := Aside0.mk hcb; clear hcb))
  go_ret
  have hne1 : some go ≠ (Value.slice sa j1 sc).ownBlock := fun he => by have := own_base HO1.out go he.symm; have := HGB.out.1; omega
  exact ⟨⟨v2, rfl, HC.out⟩, ⟨_, HX1.out.put, by rw [HS.out]; exact own_setCell HO1.out hne1 _⟩, HBs.out.set go 0 _ (.inl rfl)⟩
theorem Bes.imp2 {P Q : Nat → Prop} {w w' : World} (h : Bes P w w') (hq : ∀ k, P k → Q k) : Bes Q w w' := ⟨h.os, h.tape, h.output, h.size, fun k hk hp => h.block k hk (fun hh => hp (hq k hh))⟩
/-- What stands while the array is gone over: what has been gathered, and the number. -/
structure Jw (go gi B : Nat) (tx : Nat → ByteArray) (kd : Nat → Int) (j : Nat) (W : World) : Prop where
  out : Ja go B tx kd j W
  ix : Bx gi (.int .i64 (j : Int)) W
set_option maxHeartbeats 4000000 in
set_option maxRecDepth 100000 in
theorem clB_calls {go gs gi gf B stop : Nat} {tx : Nat → ByteArray} {kd : Nat → Int} {j : Nat} (hj : j ≤ 2147483647) (V K O : Value) (W : World) (hJ : Jw go gi B tx kd j W) (hgf : W.cell? ⟨gf, 0, none⟩ = some (.func (.func 19) #[] #[.pointer (some ⟨go, 0, none⟩), .pointer (some ⟨gs, 0, none⟩)])) (hfi : gf ≠ gi) (hoi : go ≠ gi) (hiB : gi < B)
    (HK : ∀ W', W' = W.setCell ⟨gi, 0, none⟩ (.int .i64 ((j + 1 : Nat) : Int)) → Ja go B tx kd j W' → Calls Tryz.prog 19 (#[.int .i64 (j : Int), V, K, O, .nilIface] ++ #[.pointer (some ⟨go, 0, none⟩), .pointer (some ⟨gs, 0, none⟩)]) W' fun e' W2 => (∃ v, e' = .returned v ∧ Cb stop j v W2) ∧ Ja go B tx kd (j + 1) W2 ∧ Bes (fun k => k = go ∨ B ≤ k) W' W2) :
    Calls Tryz.prog 32 (#[V, K, O, .nilIface] ++ #[.pointer (some ⟨gi, 0, none⟩), .pointer (some ⟨gf, 0, none⟩)]) W fun e' W' => (∃ v, e' = .returned v ∧ Cb stop j v W') ∧ Jw go gi B tx kd (j + 1) W' ∧ Bes (fun k => k = go ∨ k = gi ∨ B ≤ k) W W' := by
  have KA := Aside0.mk (show Calls Tryz.prog 19 #[.int .i64 (j : Int), V, K, O, .nilIface, .pointer (some ⟨go, 0, none⟩), .pointer (some ⟨gs, 0, none⟩)] _ _ from HK _ rfl (hJ.out.set hoi hiB _))
  have HB := Aside0.mk (show Bes (fun k => k = go ∨ k = gi ∨ B ≤ k) W (W.setCell ⟨gi, 0, none⟩ (.int .i64 ((j + 1 : Nat) : Int))) from (Bes.refl _ W).set gi 0 _ (.inr (.inl rfl)))
  have HX := Aside0.mk (hJ.ix.put (u := .int .i64 ((j + 1 : Nat) : Int)))
  have HI := Aside0.mk (And.intro hoi hiB)
  obtain ⟨j1, hj1⟩ : ∃ j1, j + 1 = j1 := ⟨_, rfl⟩
  have i1 : IntKind.i64.wrap ((j : Int) + 1) = (j1 : Int) := by rw [IntKind.wrap_i64]; omega
  have g0 := hJ.ix.cell
  have g1 := hJ.ix.free
  rw [hj1] at KA HB HX ⊢
  clear HK hJ hj hj1 hoi hiB
  show Calls Tryz.prog 32 #[V, K, O, .nilIface, .pointer (some ⟨gi, 0, none⟩), .pointer (some ⟨gf, 0, none⟩)] W _
  go_enter Tryz.func32, Tryz.ntmps32
  go_wp2_with (go_at_call 19; (with_reducible refine KA.out.mono ?_); rintro e' w4 ⟨⟨v, rfl, hcb⟩, hJ4, hB4⟩; have HC := Aside0.mk hcb; have HJ4 := Aside0.mk hJ4; have HB4 := Aside0.mk hB4; clear hcb hJ4 hB4 g0 g1 hgf)
  go_ret
  refine ⟨⟨v, rfl, HC.out⟩, ⟨HJ4.out, ?_⟩, HB.out.trans (HB4.out.imp2 (fun k hk => hk.elim .inl (fun h => .inr (.inr h))))⟩
  obtain ⟨t, ht⟩ := HX.out
  exact ⟨t, (HB4.out.block gi (blk_lt ht) (by rintro (h | h); exact HI.out.1 h.symm; have := HI.out.2; omega)).trans ht⟩
set_option maxHeartbeats 2000000 in
set_option maxRecDepth 100000 in
/-- ArrayEachErr tells the count and the error. -/
theorem aerr_pub (D F KK : Value) (w : World) (R : Int → Value → World → Prop) (HK : Calls Tryz.prog 47 #[D, F, KK] w fun e' w' => ∃ (o n : Int) (v : Value), e' = .returned (.tuple #[.int .i64 o, .int .i64 n, v]) ∧ R n v w') :
    Calls Tryz.prog 31 #[D, F, KK] w fun e' w' => ∃ (n : Int) (v : Value), e' = .returned (.tuple #[.int .i64 n, v]) ∧ R n v w' := by
  have HK := Aside0.mk HK
  go_enter Tryz.func31, Tryz.ntmps31
  go_wp2_with (go_at_call 47; (with_reducible refine HK.out.mono ?_); rintro e' w3 ⟨o, n, v, rfl, hR⟩; have HR := Aside0.mk hR; clear hR)
  go_ret2
  exact ⟨n, v, rfl, HR.out⟩
/-- The star that is let in at a path's end. -/
abbrev starB : ByteArray := ⟨#[91, 42, 93]⟩
set_option maxHeartbeats 4000000 in
set_option maxRecDepth 100000 in
/-- ArrayEachWildcard, whether a star ends the path or not. -/
theorem wild_calls (D : Value) (kf : Nat) (cap : Array Value) (kA : Option Addr) (kb ko kc N M : Nat) (row : List ByteArray) (w : World) (hM : row.length = M) (hMc : M ≤ kc) (hMz : M ≤ 4294967296) (hkA : row ≠ [] → kA = some ⟨kb, ko, none⟩) (hK : Ky kb ko row w)
    (hcase : (M = N ∧ ∀ (h : 0 < M), (row.getD (M - 1) ByteArray.empty).toList ≠ [91, 42, 93]) ∨ (M = N + 1 ∧ row.getD N ByteArray.empty = starB)) (R : Int → Value → World → Prop)
    (HK : ∀ W1, Bx w.heap.size (.func (.func kf) #[] cap) W1 → Bx (w.heap.size + 1) (.int .i64 0) W1 → Below w.heap.size w W1 → W1.heap.size = w.heap.size + 2 → Calls Tryz.prog 31 #[D, .func (.func 32) #[] #[.pointer (some ⟨w.heap.size + 1, 0, none⟩), .pointer (some ⟨w.heap.size, 0, none⟩)], .slice kA N kc] W1 fun e' w' => ∃ (n : Int) (v : Value), e' = .returned (.tuple #[.int .i64 n, v]) ∧ R n v w') :
    Calls Tryz.prog 18 #[D, (.func (.func kf) #[] cap), .slice kA M kc] w fun e' w' => ∃ (n : Int) (v : Value), e' = .returned (.tuple #[.int .i64 n, v]) ∧ R n v w' := by
  have HKK := Aside0.mk HK
  obtain ⟨WA, hWA⟩ : ∃ W, w.alloc (.cells #[(.func (.func kf) #[] cap)] 54) = W := ⟨_, rfl⟩
  have hb1 := below_alloc_ w (.cells #[(.func (.func kf) #[] cap)] 54)
  have hx1 := Bx.new w (.func (.func kf) #[] cap) 54
  have hs1 : WA.heap.size = w.heap.size + 1 := by rw [← hWA]; exact Go.Deep.nblk_alloc _ _
  rw [hWA] at hb1 hx1
  have hb2 := below_alloc_ WA (.cells #[.int .i64 0] 3)
  have hx2 := Bx.new WA (.int .i64 0) 3
  have hs2 : (WA.alloc (.cells #[.int .i64 0] 3)).heap.size = w.heap.size + 2 := (Go.Deep.nblk_alloc _ _).trans (by rw [hs1])
  rw [hs1] at hx2
  have KK := Aside0.mk (HK _ (hx1.more hb2) hx2 (below_step hb1 hb2) hs2)
  have hk1 := hK.more hb1
  rw [← hWA] at KK hk1
  rcases hcase with ⟨rfl, hne⟩ | ⟨rfl, hst⟩
  · by_cases h0 : M = 0
    · subst h0
      clear HK HKK hK hkA hne hk1 hM hb1 hx1 hs1 hb2 hx2 hs2 hWA
      go_enter Tryz.func18, Tryz.ntmps18
      go_wp2_with (go_at_call 31; (with_reducible refine KK.out.mono ?_); rintro e' w3 ⟨n, v, rfl, hR⟩; have HR := Aside0.mk hR; clear hR)
      go_ret2
      exact ⟨n, v, rfl, HR.out⟩
    · obtain ⟨m, rfl⟩ : ∃ m, M = m + 1 := ⟨M - 1, by omega⟩
      have hA := hkA (by intro h; rw [h] at hM; simp at hM)
      subst hA
      have c0 := hk1.cell m (by omega)
      have hn1 := hne (by omega)
      rw [Nat.add_sub_cancel] at hn1
      obtain ⟨kl, hkl⟩ : ∃ kl, row.getD m ByteArray.empty = kl := ⟨_, rfl⟩
      rw [hkl] at c0 hn1
      have e2 : (kl.toList == [91, 42, 93]) = false := beq_eq_false_iff_ne.2 hn1
      have i1 : IntKind.i64.wrap (((m + 1 : Nat) : Int) - 1) = (m : Int) := by rw [IntKind.wrap_i64]; omega
      obtain ⟨m1, hm1⟩ : ∃ m1, m + 1 = m1 := ⟨_, rfl⟩
      have i2 : (m : Int) < (m1 : Int) := by omega
      have i2' : m < m1 := by omega
      have i3 : decide ((m1 : Int) > 0) = true := decide_eq_true (by omega)
      have i3' : decide (0 < m1) = true := decide_eq_true (by omega)
      rw [hm1] at KK i1 ⊢
      clear HK HKK hK hkA hne hk1 hM hb1 hx1 hs1 hb2 hx2 hs2 hWA hn1 hkl h0 hMc hMz hm1
      go_enter Tryz.func18, Tryz.ntmps18
      go_wp2_with (go_at_call 31; (with_reducible refine KK.out.mono ?_); rintro e' w3 ⟨n, v, rfl, hR⟩; have HR := Aside0.mk hR; clear hR)
      go_ret2
      exact ⟨n, v, rfl, HR.out⟩
  · have hA := hkA (by intro h; rw [h] at hM; simp at hM)
    subst hA
    have c0 := hk1.cell N (by omega)
    rw [hst] at c0
    have i1 : IntKind.i64.wrap (((N + 1 : Nat) : Int) - 1) = (N : Int) := by rw [IntKind.wrap_i64]; omega
    obtain ⟨m1, hm1⟩ : ∃ m1, N + 1 = m1 := ⟨_, rfl⟩
    have i2 : (N : Int) < (m1 : Int) := by omega
    have i2' : N < m1 := by omega
    have i3 : decide ((m1 : Int) > 0) = true := decide_eq_true (by omega)
    have i3' : decide (0 < m1) = true := decide_eq_true (by omega)
    have i4 : (N : Int) ≤ (m1 : Int) := by omega
    have i5 : (N : Int) ≤ (kc : Int) := by omega
    have i5' : N ≤ kc := by omega
    rw [hm1] at i1 ⊢
    clear HK HKK hK hkA hk1 hM hb1 hx1 hs1 hb2 hx2 hs2 hWA hst hMc hMz hm1
    go_enter Tryz.func18, Tryz.ntmps18
    go_wp2_with (go_at_call 31; (with_reducible refine KK.out.mono ?_); rintro e' w3 ⟨n, v, rfl, hR⟩; have HR := Aside0.mk hR; clear hR)
    go_ret2
    exact ⟨n, v, rfl, HR.out⟩
theorem own_mono_ {w : World} {base base2 : Nat} {e : TypeId} {size : Nat} {v : Value} {n : Nat} {xs : List Value} (h : w.ownsRow base e size v n xs) (hb : base2 ≤ base) : w.ownsRow base2 e size v n xs := ⟨h.1, h.2.imp id (fun ⟨g, cap, cur, h1, h2, h3⟩ => ⟨g, cap, cur, h1, Nat.le_trans hb h2, h3⟩)⟩
/-- What impl.JqWildStop comes to. -/
def Wn (els : List (Nat × Nat × Int)) (stop : Nat) : Nat := if stop < els.length then stop + 1 else els.length
set_option maxHeartbeats 4000000 in
set_option maxRecDepth 100000 in
theorem jqwild_calls {s : ByteArray} {keys row : List ByteArray} {n0 q0 p : Nat} {els : List (Nat × Nat × Int)} {f : Nat} (h : Aq s keys n0 q0 p) (hae : AE s s.size p els f) (stop : Nat) (hel : els.length ≤ 2147483647) (tx : Nat → ByteArray) (kd : Nat → Int)
    (hels : ∀ j (hj : j < els.length), els[j].2.2 = kd j ∧ els[j].1 < els[j].2.1 ∧ els[j].2.1 ≤ s.size ∧ (kd j = 1 → els[j].1 + 2 ≤ els[j].2.1) ∧ tx j = strOfNums (if kd j = 1 then win s (els[j].1 + 1) (els[j].2.1 - 1) else win s els[j].1 els[j].2.1))
    (hz : s.size ≤ 2147483647) (hks : ∀ k ∈ keys, k.size ≤ 2147483647) (hrow : (row = keys ∧ ∀ (h : 0 < row.length), (row.getD (row.length - 1) ByteArray.empty).toList ≠ [91, 42, 93]) ∨ row = keys ++ [starB]) (hrz : row.length ≤ 4294967296) (A1 : Option Addr) (c1 kb ko : Nat) (hkc : row.length ≤ c1) (hkA : row ≠ [] → A1 = some ⟨kb, ko, none⟩) (w : World) (hK : Ky kb ko row w) (hG : Glob w) :
    Calls Tryz.prog 8 #[.string s, .slice A1 row.length c1, .int .i64 (stop : Int)] w fun e' w' => (∃ v, e' = .returned (.tuple #[v, .int .i64 (Wn els stop : Int), .bool (decide (els.length ≤ stop))]) ∧ w'.ownsRow w.heap.size 36 3 v (Wn els stop) (rowC tx kd (Wn els stop))) ∧ Below w.heap.size w w' := by
  have kb1 := fun W => print_bytes (P := Tryz.prog) 9 51 5 Tryz.underlying9 Tryz.underlying51 Tryz.underlying5 s W
  -- the blocks: gs = |w|, go = |w| + 1, the text |w| + 2, gf = |w| + 3, gi = |w| + 4
  obtain ⟨w1, hw1⟩ : ∃ W, w.alloc (.cells #[.int .i64 (stop : Int)] 3) = W := ⟨_, rfl⟩
  have b1 := below_alloc_ w (.cells #[.int .i64 (stop : Int)] 3)
  have x1 := Bx.new w (.int .i64 (stop : Int)) 3
  have s1 : w1.heap.size = w.heap.size + 1 := by rw [← hw1]; exact Go.Deep.nblk_alloc _ _
  rw [hw1] at b1 x1
  obtain ⟨w2, hw2⟩ : ∃ W, w1.alloc (.cells #[.slice none 0 0] 32) = W := ⟨_, rfl⟩
  have b2 := below_alloc_ w1 (.cells #[.slice none 0 0] 32)
  have x2 := Bx.new w1 (.slice none 0 0) 32
  have s2 : w2.heap.size = w1.heap.size + 1 := by rw [← hw2]; exact Go.Deep.nblk_alloc _ _
  rw [hw2] at b2 x2
  have b3 := below_bytes w2 5 s
  have s3 : (Lib.bytesWorld w2 5 s).heap.size = w2.heap.size + 1 := Lib.bytesWorld_size _ _ _
  have t3 := tx_of s w2
  obtain ⟨w3, hw3⟩ : ∃ W, Lib.bytesWorld w2 5 s = W := ⟨_, rfl⟩
  rw [hw3] at b3 s3 t3
  have k3 := ((hK.more b1).more b2).more b3
  have B03 : Below w.heap.size w w3 := below_step (below_step b1 b2) b3
  obtain ⟨N, hN, hcase⟩ : ∃ N, keys.length = N ∧ ((row.length = N ∧ ∀ (h : 0 < row.length), (row.getD (row.length - 1) ByteArray.empty).toList ≠ [91, 42, 93]) ∨ (row.length = N + 1 ∧ row.getD N ByteArray.empty = starB)) := by
    refine ⟨keys.length, rfl, ?_⟩
    rcases hrow with ⟨rfl, hne⟩ | rfl
    · exact .inl ⟨rfl, hne⟩
    · exact .inr ⟨by simp, by simp [List.getD_eq_getElem?_getD]⟩
  have hsub : ∀ j, j < keys.length → row.getD j ByteArray.empty = keys.getD j ByteArray.empty := by
    intro j hj
    rcases hrow with ⟨rfl, _⟩ | rfl
    · rfl
    · simp [List.getD_eq_getElem?_getD, List.getElem?_append_left hj]
  have hle : keys.length ≤ row.length := by rcases hcase with ⟨h1, _⟩ | ⟨h1, _⟩ <;> omega
  have hkne : keys ≠ [] → row ≠ [] := fun h hr => by
    have := List.length_pos_iff.2 h
    rw [hr] at hle
    simp at hle
    exact h hle
  have wild := wild_calls (.slice (some ⟨w2.heap.size, 0, none⟩) s.size (grownCap w2 s.size 0 5)) 19 #[.pointer (some ⟨w1.heap.size, 0, none⟩), .pointer (some ⟨w.heap.size, 0, none⟩)] A1 kb ko c1 N row.length row w3 rfl hkc hrz hkA k3 hcase
    (fun n v W => n = (Wn els stop : Int) ∧ ((els.length ≤ stop ∧ v = .nilIface) ∨ (stop < els.length ∧ ∃ te pe, v = .iface te pe)) ∧ Ja w1.heap.size w.heap.size tx kd (Wn els stop) W ∧ Below w.heap.size w W) (fun W1 hf hi hB hs => by
      obtain ⟨P, hP⟩ : ∃ P : Nat → Prop, P = (fun k => k = w1.heap.size ∨ k = w3.heap.size + 1 ∨ W1.heap.size ≤ k) := ⟨_, rfl⟩
      have hPB : ∀ W, Bes P W1 W → Below w.heap.size w W := fun W hW => by
        rw [hP] at hW
        have hb1 : Below w.heap.size w W1 := below_then B03 B03.size hB
        exact hb1.trans (hW.below (by omega) (fun k hk => by rcases hk with h | h | h <;> omega))
      have hGT : ∀ W, Bes P W1 W → Glob W ∧ Tx w2.heap.size s W := fun W hW => by
        refine ⟨hG.below (hPB W hW), ⟨fun i hi => ?_⟩⟩
        refine hW.cell ?_ (keep_ (t3.cell i hi) hB)
        rw [hP]
        show ¬ (w2.heap.size = w1.heap.size ∨ w2.heap.size = w3.heap.size + 1 ∨ W1.heap.size ≤ w2.heap.size)
        omega
      have hgs : ∀ W, Bes P W1 W → W.cell? ⟨w.heap.size, 0, none⟩ = some (.int .i64 (stop : Int)) := fun W hW => by
        refine hW.cell ?_ (keep_ (keep_ (keep_ x1.cell b2) b3) hB)
        rw [hP]
        show ¬ (w.heap.size = w1.heap.size ∨ w.heap.size = w3.heap.size + 1 ∨ W1.heap.size ≤ w.heap.size)
        omega
      have hgf : ∀ W, Bes P W1 W → W.cell? ⟨w3.heap.size, 0, none⟩ = some (.func (.func 19) #[] #[.pointer (some ⟨w1.heap.size, 0, none⟩), .pointer (some ⟨w.heap.size, 0, none⟩)]) := fun W hW => by
        refine hW.cell ?_ hf.cell
        rw [hP]
        show ¬ (w3.heap.size = w1.heap.size ∨ w3.heap.size = w3.heap.size + 1 ∨ W1.heap.size ≤ w3.heap.size)
        omega
      have hQ : Qk w2.heap.size (grownCap w2 s.size 0 5) kb ko c1 A1 s keys W1 := ⟨hz, grownCap_ge _ _ _ _, hks, by omega, fun h => hkA (hkne h), (hGT W1 (Bes.refl _ _)).1, (hGT W1 (Bes.refl _ _)).2, ⟨fun j hj => by
        rw [(k3.more hB).cell j (by omega), hsub j hj]⟩⟩
      have hJ0 : Jw w1.heap.size (w3.heap.size + 1) W1.heap.size tx kd 0 W1 := ⟨⟨.slice none 0 0, (x2.more b3).more hB, own_nil _ _ _ _⟩, hi⟩
      have main := aerr_calls h hae stop hel 32 #[.pointer (some ⟨w3.heap.size + 1, 0, none⟩), .pointer (some ⟨w3.heap.size, 0, none⟩)] w2.heap.size (grownCap w2 s.size 0 5) kb ko c1 A1 W1 P (Jw w1.heap.size (w3.heap.size + 1) W1.heap.size tx kd) hQ
        (fun args W => enters_ Tryz.func32 (by kernel_rfl) rfl args W) hGT (fun j W W' hI hb => ⟨hI.out.more hb, hI.ix.more hb⟩) hJ0
        (fun j hj o W hjs hI hBs => by
          obtain ⟨e1, e2, e3, e4, e5⟩ := hels j hj
          have hlt := hBs.size
          refine (clB_calls (gs := w.heap.size) (by omega) _ _ _ W hI (hgf W hBs) (by omega) (by omega) (by omega) (fun W' hW' hJa => ?_)).mono (fun e' W' hh => ⟨hh.1, hh.2.1, by rw [hP]; exact hh.2.2⟩)
          have hBs2 : Bes P W1 W' := by rw [hW', hP]; rw [hP] at hBs; exact hBs.set _ _ _ (.inr (.inl rfl))
          have hsz := hBs2.size
          rw [e1]
          exact clA_calls (B := W1.heap.size) (by omega) (by omega) els[j].1 els[j].2.1 o e3 e4 e2 e5 W' hJa (by omega) (hGT W' hBs2).2 (fun W2 hW2 => (hGT W2 (hBs2.trans (hW2.imp2 (fun k hk => by rw [hP]; exact hk.elim .inl (fun h => .inr (.inr h)))))).1) (hgs W' hBs2) (by omega) (by omega))
      rw [hN] at main
      refine aerr_pub _ _ _ _ _ (main.mono ?_)
      rintro e' W' ⟨⟨o, n, v, rfl, hv, hI⟩, hBs⟩
      have hn : n = Wn els stop := by
        unfold Wn
        rcases hv with ⟨h1, h2, _⟩ | ⟨h1, h2, _⟩
        · rw [if_pos h1, h2]
        · rw [if_neg (by omega), h2]
      subst hn
      refine ⟨_, _, _, rfl, rfl, ?_, ?_, hPB W' hBs⟩
      · rcases hv with ⟨h1, _, h3⟩ | ⟨h1, _, h3⟩
        · exact .inr ⟨h1, h3⟩
        · exact .inl ⟨h1, h3⟩
      · obtain ⟨v2, h2, h3⟩ := hI.out
        exact ⟨v2, h2, own_mono_ h3 (by omega)⟩)
  have HK := Aside0.mk wild
  obtain ⟨n, hn⟩ : ∃ n, s.size = n := ⟨_, rfl⟩
  obtain ⟨M, hM⟩ : ∃ n, row.length = n := ⟨_, rfl⟩
  obtain ⟨q, hq⟩ : ∃ q, Wn els stop = q := ⟨_, rfl⟩
  obtain ⟨L, hL⟩ : ∃ q, els.length = q := ⟨_, rfl⟩
  rw [hn, hM, hq, hL, s2, s1] at HK
  rw [hM, hq, hL]
  rw [← hw3, ← hw2, ← hw1] at HK
  clear wild h hae hel hels hz hks hrow hrz hkc hkA hK hG b1 b2 b3 x1 x2 s1 s2 s3 t3 k3 B03 hN hcase hsub hle hkne hw1 hw2 hw3 hM hq hL
  go_enter Tryz.func8, Tryz.ntmps8
  go_wp2_with (go_at_call 18; (with_reducible refine HK.out.mono ?_); rintro e' w4 ⟨m, v, rfl, rfl, hv, ⟨v2, hx, ho⟩, hB⟩; have HV := Aside0.mk hv; have HO := Aside0.mk ho; have HB := Aside0.mk hB; have g0 := hx.cell; clear hv ho hB hx)
  rcases HV.out with ⟨hl, rfl⟩ | ⟨hl, te, pe, rfl⟩
  · have e1 : decide (L ≤ stop) = true := decide_eq_true hl
    go_wp2
    go_region
    all_goals (try go_wp2)
    all_goals refine bodyPost_ret (results_tmp3 rfl _ _ _) rfl ?_
    all_goals exact ⟨⟨v2, by simp [e1], HO.out⟩, by first | exact HB.out | exact HB.out.drew⟩
  · have e1 : decide (L ≤ stop) = false := decide_eq_false (by omega)
    go_wp2
    go_region
    all_goals (try go_wp2)
    all_goals refine bodyPost_ret (results_tmp3 rfl _ _ _) rfl ?_
    all_goals exact ⟨⟨v2, by simp [e1], HO.out⟩, by first | exact HB.out | exact HB.out.drew⟩
end Go.Proofs.YtpdohioobbfncaaGreatDoor.PFnJpWildStop