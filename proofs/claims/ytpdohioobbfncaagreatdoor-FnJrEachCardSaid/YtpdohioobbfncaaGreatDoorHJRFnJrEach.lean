/- internalGet where keys lead; no condition beside those that each theorem states. -/
import Derived.Test.YtpdohioobbfncaaGreatDoorHKYFnJrEach
import Derived.Test.YtpdohioobbfncaaGreatDoorHHFnJrEach
import Derived.LaidEql
import Derived.Test.YtpdohioobbfncaaGreatDoorHECFnJrEach
import Derived.Test.YtpdohioobbfncaaGreatDoorPFnJrEachx12
import Derived.Lib.BufferWrite
import Derived.Test.YtpdohioobbfncaaGreatDoorHCLFnJrEach
import Derived.Deep.RegionLaw
import Derived.Laws.CopyOwn
import Derived.Test.YtpdohioobbfncaaGreatDoorHAKFnJrEach
import Derived.Test.YtpdohioobbfncaaGreatDoorHOEFnJrEach
namespace Go.Proofs.YtpdohioobbfncaaGreatDoor.PFnJrEach
open Go.RowKit Go.Proofs.YtpdohioobbfncaaGreatDoorW.PrintWords Go.Proofs.YtpdohioobbfncaaGreatDoorW.PrintLast Go.Proofs.YtpdohioobbfncaaGreatDoorW.PrintMore
set_option linter.unusedVariables false
set_option linter.unusedSimpArgs false
set_option maxHeartbeats 2000000 in
set_option maxRecDepth 100000 in
theorem iget_calls {s : ByteArray} {keys : List ByteArray} {q x y : Nat} {kd : Int} (h : GK s keys q x y kd) (b c kb ko kc : Nat) (kA : Option Addr) (w : World) (hQ : Qk b c kb ko kc kA s keys w) :
    Calls Tryz.prog 34 #[.slice (some ⟨b, 0, none⟩) s.size c, .slice kA keys.length kc] w fun e' w' => e' = .returned (.tuple #[vsl b x y kd, .int .i64 kd, .int .i64 (x : Int), .int .i64 (y : Int), .nilIface]) ∧ Below w.heap.size w w' := by
  have K1 := getk_calls h b c kb ko kc kA w hQ.hz hQ.hc hQ.hks hQ.hkc hQ.hkA hQ.glob hQ.text hQ.key
  have g0 := hQ.glob.e2_0
  have g1 := hQ.glob.e2_1
  have g2 := hQ.glob.e2_2
  obtain ⟨v, hv⟩ : ∃ v, vsl b x y kd = v := ⟨_, rfl⟩
  obtain ⟨n, hn⟩ : ∃ n, s.size = n := ⟨_, rfl⟩
  obtain ⟨N, hN⟩ : ∃ N, keys.length = N := ⟨_, rfl⟩
  rw [hv, hn, hN] at K1
  rw [hv, hn, hN]
  have HK := Aside0.mk K1
  dsimp only [cfgV] at HK
  clear K1 h hQ hv hn hN
  go_enter Tryz.func34, Tryz.ntmps34
  go_wp2_with (go_at_call 51; (with_reducible refine HK.out.mono ?_); rintro e' w3 ⟨rfl, HB⟩; have HW3 := Aside0.mk HB; clear HB)
  refine bodyPost_ret (results_tmp5 rfl _ _ _) rfl ?_
  exact ⟨by simp, HW3.out⟩
end Go.Proofs.YtpdohioobbfncaaGreatDoor.PFnJrEach/- impl.jrKind at no error, at MalformedArrayError and at MalformedObjectError; no condition beside those that each theorem states. -/
namespace Go.Proofs.YtpdohioobbfncaaGreatDoor.PFnJrEach
open Go.RowKit Go.Proofs.YtpdohioobbfncaaGreatDoorW.PrintWords Go.Proofs.YtpdohioobbfncaaGreatDoorW.PrintLast Go.Proofs.YtpdohioobbfncaaGreatDoorW.PrintMore
set_option linter.unusedVariables false
set_option linter.unusedSimpArgs false
theorem errComp : (Tryz.prog.info? 161).map (·.comparable) = some true := by kernel_rfl
theorem errSize : (Tryz.prog.info? 163).map (·.size) = some 1 := by kernel_rfl
theorem errIface : Tryz.prog.underlying 48 = some (.interface #[("Error", 176)]) := by kernel_rfl
theorem errPtr : Tryz.prog.underlying 161 = some (.pointer 163) := by kernel_rfl
/-- Two errors of errors.New's make, held against each other. -/
theorem eql_ptr {W : World} (x a : Addr) {cx ca : Array Value} {tx ta : TypeId} (hx : W.heap[x.block]? = some (.cells cx tx (0, 0))) (ha : W.heap[a.block]? = some (.cells ca ta (0, 0))) :
    (binOp .eql 48 (.iface 161 (.pointer (some x))) (.iface 161 (.pointer (some a)))).run Tryz.prog W = .ok (.bool (decide (x = a))) W := by
  obtain ⟨i, hi, hcmp⟩ := Option.map_eq_some_iff.1 errComp
  obtain ⟨j, hj, hjs⟩ := Option.map_eq_some_iff.1 errSize
  by_cases h : x = a
  · subst h
    simpa using run_eql_iface_ptr_same (P := Tryz.prog) W x errIface errPtr hi hcmp hj
  · simpa [h] using run_eql_iface_ptr_other (P := Tryz.prog) W errIface errPtr hi hcmp hj (by rw [hjs]; decide) h hx ha
/-- Two variables whose texts are not alike hold two pointers: what their comparison gives. -/
theorem Sent.ne {g1 g2 : Nat} {t1 t2 : List UInt8} {w : World} (h1 : Sent g1 t1 w) (h2 : Sent g2 t2 w) (ht : t1 ≠ t2) :
    ∃ a1 a2, w.cell? ⟨g1, 0, none⟩ = some (.iface 161 (.pointer (some a1))) ∧ w.cell? ⟨g2, 0, none⟩ = some (.iface 161 (.pointer (some a2))) ∧ (binOp .eql 48 (.iface 161 (.pointer (some a1))) (.iface 161 (.pointer (some a2)))).run Tryz.prog w = .ok (.bool false) w := by
  obtain ⟨a1, s1, c1, u1, x1, y1, z1, k1⟩ := h1
  obtain ⟨a2, s2, c2, u2, x2, y2, z2, k2⟩ := h2
  refine ⟨a1, a2, x1, x2, ?_⟩
  rw [eql_ptr a1 a2 k1 k2, decide_eq_false]
  rintro rfl
  rw [y1] at y2
  obtain rfl := Value.string.inj (Option.some.inj y2)
  exact ht (z1.symm.trans z2)
theorem Sent.self {g1 : Nat} {t1 : List UInt8} {w : World} (h1 : Sent g1 t1 w) :
    ∃ a1, w.cell? ⟨g1, 0, none⟩ = some (.iface 161 (.pointer (some a1))) ∧ (binOp .eql 48 (.iface 161 (.pointer (some a1))) (.iface 161 (.pointer (some a1)))).run Tryz.prog w = .ok (.bool true) w := by
  obtain ⟨a1, s1, c1, u1, x1, y1, z1, k1⟩ := h1
  exact ⟨a1, x1, by rw [eql_ptr a1 a1 k1 k1, decide_eq_true rfl]⟩
theorem ptr_same {w : World} {g : Nat} {t : TypeId} {a1 a2 : Addr} (h1 : w.cell? ⟨g, 0, none⟩ = some (.iface t (.pointer (some a1)))) (h2 : w.cell? ⟨g, 0, none⟩ = some (.iface t (.pointer (some a2)))) : a2 = a1 := by
  rw [h1] at h2
  simpa using h2.symm
set_option maxRecDepth 100000 in
theorem kind_nil (w : World) : Calls Tryz.prog 23 #[.nilIface] w fun e w' => e = .returned (.int .i64 0) ∧ w' = w := by
  go_enter Tryz.func23, Tryz.ntmps23
  go_wp2
  go_ret
  exact ⟨rfl, rfl⟩
set_option maxRecDepth 100000 in
theorem kind_arr {te : TypeId} {pe : Value} (w : World) (hG : Glob w) (h : w.cell? ⟨7, 0, none⟩ = some (.iface te pe)) : Calls Tryz.prog 23 #[.iface te pe] w fun e w' => e = .returned (.int .i64 5) ∧ w' = w := by
  have S := hG.s7
  obtain ⟨a, h5, q5⟩ := S.self
  obtain ⟨a1, b1, x1, h1, q1⟩ := S.ne hG.s3 (by decide)
  obtain ⟨a2, b2, x2, h2, q2⟩ := S.ne hG.s4 (by decide)
  obtain ⟨a3, b3, x3, h3, q3⟩ := S.ne hG.s5 (by decide)
  obtain ⟨a4, b4, x4, h4, q4⟩ := S.ne hG.s6 (by decide)
  obtain rfl := ptr_same h5 x1
  obtain rfl := ptr_same h5 x2
  obtain rfl := ptr_same h5 x3
  obtain rfl := ptr_same h5 x4
  rw [h5] at h
  obtain ⟨rfl, rfl⟩ := Value.iface.inj (Option.some.inj h).symm
  clear S hG h x1 x2 x3 x4
  go_enter Tryz.func23, Tryz.ntmps23
  go_wp2
  go_ret
  exact ⟨rfl, rfl⟩
set_option maxRecDepth 100000 in
theorem kind_obj {te : TypeId} {pe : Value} (w : World) (hG : Glob w) (h : w.cell? ⟨8, 0, none⟩ = some (.iface te pe)) : Calls Tryz.prog 23 #[.iface te pe] w fun e w' => e = .returned (.int .i64 6) ∧ w' = w := by
  have S := hG.s8
  obtain ⟨a, h6, q6⟩ := S.self
  obtain ⟨a1, b1, x1, h1, q1⟩ := S.ne hG.s3 (by decide)
  obtain ⟨a2, b2, x2, h2, q2⟩ := S.ne hG.s4 (by decide)
  obtain ⟨a3, b3, x3, h3, q3⟩ := S.ne hG.s5 (by decide)
  obtain ⟨a4, b4, x4, h4, q4⟩ := S.ne hG.s6 (by decide)
  obtain ⟨a5, b5, x5, h5, q5⟩ := S.ne hG.s7 (by decide)
  obtain rfl := ptr_same h6 x1
  obtain rfl := ptr_same h6 x2
  obtain rfl := ptr_same h6 x3
  obtain rfl := ptr_same h6 x4
  obtain rfl := ptr_same h6 x5
  rw [h6] at h
  obtain ⟨rfl, rfl⟩ := Value.iface.inj (Option.some.inj h).symm
  clear S hG h x1 x2 x3 x4 x5
  go_enter Tryz.func23, Tryz.ntmps23
  go_wp2
  go_ret
  exact ⟨rfl, rfl⟩
end Go.Proofs.YtpdohioobbfncaaGreatDoor.PFnJrEach/- nextToken at any window, WriteToBuffer; no condition beside those that each theorem states. -/
namespace Go.Proofs.YtpdohioobbfncaaGreatDoor.PFnJrEach
open Go.RowKit Go.Proofs.YtpdohioobbfncaaGreatDoorW.PrintWords Go.Proofs.YtpdohioobbfncaaGreatDoorW.PrintLast Go.Proofs.YtpdohioobbfncaaGreatDoorW.PrintMore
set_option linter.unusedVariables false
set_option linter.unusedSimpArgs false
theorem nt_tot (l : List Int) (hl : l.length ≤ 4611686018427387904) : ∃ k v, nTC_.f k false false 0 l = some v := by
  have go : ∀ (d i : Nat), i ≤ l.length → l.length - i ≤ d → ∃ k v, nTC_.l0 k l (l.length : Int) (i : Int) = some v := by
    intro d
    have stop : ∃ k v, nTC_.l0 k l (l.length : Int) (l.length : Int) = some v := ⟨1, -1, by unfold nTC_.l0; rw [if_neg (by omega)]⟩
    induction d with
    | zero =>
      intro i h1 hd
      obtain rfl : i = l.length := by omega
      exact stop
    | succ d ih =>
      intro i h1 hd
      by_cases hi : i < l.length
      · obtain ⟨k, v, h⟩ := ih (i + 1) (by omega) (by omega)
        have hw : wrap64 ((i : Int) + 1) = ((i + 1 : Nat) : Int) := by unfold wrap64; omega
        by_cases hb : rd l (i : Int) = 32 ∨ rd l (i : Int) = 10 ∨ rd l (i : Int) = 13 ∨ rd l (i : Int) = 9
        · refine ⟨k + 1, v, ?_⟩
          unfold nTC_.l0
          rw [if_pos (by omega), if_pos (by omega), if_pos (by omega), hw, h]
          rcases hb with hb | hb | hb | hb <;> simp [hb]
        · refine ⟨1, i, ?_⟩
          unfold nTC_.l0
          rw [if_pos (by omega), if_pos (by omega), if_pos (by omega), if_neg (by omega), if_neg (by omega), if_neg (by omega), if_neg (by omega)]
      · obtain rfl : i = l.length := by omega
        exact stop
  exact go l.length 0 (Nat.zero_le _) (by omega)
set_option maxHeartbeats 2000000 in
set_option maxRecDepth 100000 in
/-- nextToken ends, whatever it is handed. -/
theorem ntok_calls (b a n c : Nat) (l : List Int) (hl : l.length = n) (hc : n ≤ c) (hz : n ≤ 4611686018427387904) (w : World) (hG : Glob w) (hH : Hd b a l w) :
    Calls Tryz.prog 37 #[.slice (some ⟨b, a, none⟩) n c] w fun e w' => (∃ v : Int, e = .returned (.int .i64 v)) ∧ Below w.heap.size w w' := by
  obtain ⟨k, v, h⟩ := nt_tot l (by omega)
  have g := nTC_.calls k false false 0 (some ⟨b, a, none⟩) c l v w (hH.reads (by omega)) (by omega) h
  rw [hl] at g
  have g0 := hG.e2_0
  have g1 := hG.e2_1
  have g2 := hG.e2_2
  have HK := Aside0.mk g
  clear g h hG hH hl hc hz
  go_enter Tryz.func37, Tryz.ntmps37
  go_wp2_with (go_at_call 48; (with_reducible refine HK.out.mono ?_); rintro e' w3 ⟨rfl, HB⟩; have HW3 := Aside0.mk HB; clear HB)
  go_ret
  exact ⟨⟨v, rfl⟩, HW3.out⟩
/-- A text's bytes as numbers. -/
def bts (s : ByteArray) : List Int := s.data.toList.map fun x => (x.toNat : Int)
theorem bts_len (s : ByteArray) : (bts s).length = s.size := by
  unfold bts
  rw [List.length_map]
  rfl
theorem nums_bts (s : ByteArray) : nums .u8 (bts s) = Lib.byteCells s.data.toList := by
  unfold nums bts Lib.byteCells
  rw [List.map_map]
  rfl
/-- copy of a string into a row. -/
theorem copy_str {ops : Array Oper} {rest : List Oper} {o : Oper} {a : Act} {Q : Exit → Act → World → Prop} {w : World} (hgd : o.guard = none) (d s : Operand)
    (ho : o.op = .call { callee := .builtin .copy, args := #[d, s], argTypes := #[51, 9] }) (g off dLen dCap : Nat) (str : ByteArray) (hd : a.eval d = .slice (some ⟨g, off, none⟩) dLen dCap) (hs : a.eval s = .string str)
    (out : List Int) (t : TypeId) (hO : Ob g t out w) (hle : str.size ≤ dLen) (hfit : off + str.size ≤ out.length)
    (h : ∀ W2, Ob g t (splice out off (bts str)) W2 → Bes (fun k => k = g) w W2 → wpList Tryz.prog ops Q rest (a.put o.dst (goInt str.size)) W2) : wpList Tryz.prog ops Q (o :: rest) a w := by
  refine wpList_plain hgd fun K hK => ?_
  have hrun := Lib.run_copy_row_string (P := Tryz.prog) w 51 9 o.type 5 g off dLen dCap str (nums .u8 out).toArray t Tryz.underlying51 (by kernel_rfl) hO.row hle (by simpa [nums] using hfit)
  obtain ⟨cs, hcs⟩ : ∃ cs, ((nums .u8 out).toArray.toList.take off ++ Lib.byteCells str.data.toList ++ (nums .u8 out).toArray.toList.drop (off + str.size)).toArray = cs := ⟨_, rfl⟩
  rw [hcs] at hrun
  have h4 : (w.setRow g cs).heap[g]? = some (.cells cs t (0, 0)) := setRow_heap w g _ _ t _ hO.row
  have h2 := h (w.setRow g cs) ⟨by
      rw [h4, ← hcs, ← nums_bts]
      unfold splice nums
      rw [bts_len]
      simp [List.map_take, List.map_drop]⟩ ⟨rfl, rfl, rfl, by simp [World.setRow], fun k hk hq => setRow_other w g k _ hq⟩
  unfold Oper.wp
  simp [execOp, ho, resolve, invoke, builtin, hd, hs, hrun, Result.andThen]
  exact hK _ _ h2
set_option maxHeartbeats 2000000 in
set_option maxRecDepth 100000 in
theorem wtb_calls (g off n cap : Nat) (t : TypeId) (out : List Int) (ch : ByteArray) (hn : ch.size ≤ n) (hfit : off + ch.size ≤ out.length) (w : World) (hO : Ob g t out w) :
    Calls Tryz.prog 35 #[.slice (some ⟨g, off, none⟩) n cap, .string ch] w fun e w' => e = .returned (.int .i64 (ch.size : Int)) ∧ Ob g t (splice out off (bts ch)) w' ∧ Bes (fun k => k = g) w w' := by
  have HO := Aside0.mk hO
  have HN := Aside0.mk (And.intro hn hfit)
  clear hO hn hfit
  go_enter Tryz.func35, Tryz.ntmps35
  go_wp2_with ((with_reducible refine gate_builtin (b := .copy) (xs := #[.tmp 5, .tmp 6]) rfl ?_); refine copy_str rfl (.tmp 5) (.tmp 6) rfl g off n cap ch rfl rfl out t HO.out HN.out.1 HN.out.2 ?_; intro w2 hO2 hb2; have HO2 := Aside0.mk hO2; have HB2 := Aside0.mk hb2; clear hO2 hb2)
  go_ret
  exact ⟨by simp, HO2.out, HB2.out⟩
end Go.Proofs.YtpdohioobbfncaaGreatDoor.PFnJrEach/- Append at what is there; no condition beside those that each theorem states. -/
namespace Go.Proofs.YtpdohioobbfncaaGreatDoor.PFnJrEach
open Go.RowKit Go.Proofs.YtpdohioobbfncaaGreatDoorW.PrintWords Go.Proofs.YtpdohioobbfncaaGreatDoorW.PrintLast Go.Proofs.YtpdohioobbfncaaGreatDoorW.PrintMore
set_option linter.unusedVariables false
set_option linter.unusedSimpArgs false
theorem ob_made (W : World) (n : Nat) : Ob W.heap.size 5 (List.replicate n 0) (W.alloc (.cells (madeCells #[.int .u8 0] n) 5)) := ⟨by
  rw [heap_alloc_new]
  congr 2
  apply Array.ext
  · simp [nums, size_madeCells]
  · intro i h1 h2
    simp [nums, madeCells, Nat.mod_one]⟩
theorem Bes.imp {P Q : Nat → Prop} {w w' : World} (h : Bes P w w') (hq : ∀ k, P k → Q k) : Bes Q w w' := ⟨h.os, h.tape, h.output, h.size, fun k hk hp => h.block k hk (fun hh => hp (hq k hh))⟩
theorem comma_calls (g off n cap : Nat) (t : TypeId) (out : List Int) (hn : 1 ≤ n) (hfit : off + 1 ≤ out.length) (w : World) (hO : Ob g t out w) :
    Calls Tryz.prog 35 #[.slice (some ⟨g, off, none⟩) n cap, .string ⟨#[44]⟩] w fun e w' => e = .returned (.int .i64 1) ∧ Ob g t (splice out off (bts ⟨#[44]⟩)) w' ∧ Bes (fun k => k = g) w w' := wtb_calls g off n cap t out ⟨#[44]⟩ hn hfit w hO
theorem nums_len (l : List Int) : (nums .u8 l).length = l.length := by simp [nums]
theorem nums_one (l : List Int) : ∀ v ∈ nums .u8 l, v.oneCell' = true := by
  intro v hv
  simp only [nums, List.mem_map] at hv
  obtain ⟨x, _, rfl⟩ := hv
  rfl
theorem nums_src {b o : Nat} {l : List Int} {W : World} (h : Hd b o l W) : ∀ j v, (nums .u8 l)[j]? = some v → W.cell? ((⟨b, o, none⟩ : Addr).add j) = some v := by
  intro j v hv
  have hj : j < l.length := by
    have := (List.getElem?_eq_some_iff.1 hv).1
    simpa [nums] using this
  rw [show (⟨b, o, none⟩ : Addr).add j = ⟨b, o + j, none⟩ by simp [Addr.add], h.cell j hj]
  simp [nums, hj] at hv
  rw [← hv]
  simp [List.getD_eq_getElem?_getD, hj]
/-- What a row of the call's own is made of, and what is kept beside. -/
structure Apd (b vb : Nat) (s : ByteArray) (vl : List Int) (w0 W : World) : Prop where
  bes : Bes (fun k => w0.heap.size ≤ k) w0 W
  text : Tx b s W
  val : Hd vb 0 vl W
  glob : Glob W
theorem Apd.step {b vb : Nat} {s : ByteArray} {vl : List Int} {w0 W W' : World} (h : Apd b vb s vl w0 W) (hB : Bes (fun k => w0.heap.size ≤ k) w0 W') (hT : Tx b s w0) (hV : Hd vb 0 vl w0) (hG : Glob w0) : Apd b vb s vl w0 W' := by
  have hb := hB.below (Nat.le_refl _) (fun k hk => hk)
  exact ⟨hB, hT.more hb, hV.more hb, hG.below hb⟩
set_option maxHeartbeats 8000000 in
set_option maxRecDepth 100000 in
theorem append_calls {s : ByteArray} {x y : Nat} {kd : Int} (b c : Nat) (hz : s.size ≤ 2147483647) (hc : s.size ≤ c) (hxy : x < y) (hy : y ≤ s.size) (h4 : kd = 4 → x + 1 < y ∧ bt s ((y - 1 : Nat) : Int) = 93) (KV : Value) (vb vc vn : Nat) (vl : List Int) (hvl : vl.length = vn) (hvc : vn ≤ vc) (hvz : vn ≤ 2147483647) (w : World) (hG : Glob w) (hT : Tx b s w) (hV : Hd vb 0 vl w)
    (HI : Calls Tryz.prog 34 #[.slice (some ⟨b, 0, none⟩) s.size c, KV] w fun e' w' => e' = .returned (.tuple #[vsl b x y kd, .int .i64 kd, .int .i64 (x : Int), .int .i64 (y : Int), .nilIface]) ∧ Below w.heap.size w w') :
    Calls Tryz.prog 24 #[.slice (some ⟨b, 0, none⟩) s.size c, .slice (some ⟨vb, 0, none⟩) vn vc, KV] w fun e' w' => ((kd ≠ 4 ∧ ∃ te pe, e' = .returned (.tuple #[.slice none 0 0, .iface te pe]) ∧ w'.cell? ⟨7, 0, none⟩ = some (.iface te pe)) ∨ (kd = 4 ∧ ∃ u, e' = .returned (.tuple #[u, .nilIface]))) ∧ Below w.heap.size w w' := by
  have HK := Aside0.mk HI
  have HT := Aside0.mk hT
  have HV := Aside0.mk hV
  have HG := Aside0.mk hG
  have HA0 := Aside0.mk (show Apd b vb s vl w w from ⟨Bes.refl _ _, hT, hV, hG⟩)
  have HST := Aside0.mk (show ∀ W W', Apd b vb s vl w W → Bes (fun k => w.heap.size ≤ k) w W' → Apd b vb s vl w W' from fun W W' h hB => h.step hB hT hV hG)
  obtain ⟨v0, hv0⟩ : ∃ v, vsl b x y kd = v := ⟨_, rfl⟩
  rw [hv0] at HK
  by_cases hk : kd = 4
  · obtain ⟨hx1, h93⟩ := h4 hk
    subst hk
    obtain ⟨z, hzy⟩ : ∃ z, y = z + 1 := ⟨y - 1, by omega⟩
    subst hzy
    rw [Nat.add_sub_cancel] at h93
    have HC := Aside0.mk (show ∀ W, Apd b vb s vl w W → W.cell? ⟨b, z, none⟩ = some (.int .u8 93) from fun W h => by rw [h.text.cell z (by omega), h93])
    have KN := Aside0.mk (show ∀ W, Apd b vb s vl w W → _ from fun W h => ntok_calls b (x + 1) (z - (x + 1)) (c - (x + 1)) (win s (x + 1) z) (win_len _ _ _) (by omega) (by omega) W h.glob (h.text.hd (x + 1) z (by omega)))
    have HW0 := Aside0.mk (show ∀ W, Apd b vb s vl w W → Hd b 0 (win s 0 z) W from fun W h => h.text.hd 0 z (by omega))
    have HW1 := Aside0.mk (show ∀ W, Apd b vb s vl w W → Hd b z (win s z s.size) W from fun W h => h.text.hd z s.size (Nat.le_refl _))
    have HL0 := Aside0.mk (show (win s 0 z).length = z from by rw [win_len]; rfl)
    obtain ⟨n, hn⟩ : ∃ n, s.size = n := ⟨_, rfl⟩
    rw [hn] at hz hc hy HK HW1 ⊢
    have HL1 := Aside0.mk (show (win s z n).length = n - z from win_len _ _ _)
    obtain ⟨x1, hx1'⟩ : ∃ x1, x + 1 = x1 := ⟨_, rfl⟩
    rw [hx1'] at KN
    obtain ⟨l0, hl0⟩ : ∃ l, win s 0 z = l := ⟨_, rfl⟩
    obtain ⟨l1, hl1⟩ : ∃ l, win s z n = l := ⟨_, rfl⟩
    rw [hl0] at HW0 HL0
    rw [hl1] at HW1 HL1
    obtain ⟨m0, hm0⟩ : ∃ m, n + vn = m := ⟨_, rfl⟩
    obtain ⟨m1, hm1⟩ : ∃ m, n + (vn + 1) = m := ⟨_, rfl⟩
    obtain ⟨z1, hz1⟩ : ∃ z1, z + 1 = z1 := ⟨_, rfl⟩
    obtain ⟨e0, he0⟩ : ∃ e, z + vn = e := ⟨_, rfl⟩
    obtain ⟨e1, he1⟩ : ∃ e, z1 + vn = e := ⟨_, rfl⟩
    have hmk0 := print_make (P := Tryz.prog) 51 5 .u8 1 Tryz.underlying51 (by kernel_rfl) (by decide) m0 (by omega)
    have hmk1 := print_make (P := Tryz.prog) 51 5 .u8 1 Tryz.underlying51 (by kernel_rfl) (by decide) m1 (by omega)
    have HM := Aside0.mk (show z ≤ m0 ∧ z ≤ m1 ∧ vl.length = vn ∧ vn ≤ m0 - z ∧ vn ≤ m1 - z1 ∧ n - z = m0 - e0 ∧ n - z = m1 - e1 ∧ z + 1 ≤ m1 from by refine ⟨?_, ?_, hvl, ?_, ?_, ?_, ?_, ?_⟩ <;> omega)
    have two_len : (splice (splice (List.replicate m1 (0 : Int)) 0 l0) z (bts ⟨#[44]⟩)).length = m1 := by
      have h1 : (splice (List.replicate m1 (0 : Int)) 0 l0).length = m1 := by rw [splice_len _ _ _ (by rw [HL0.out, List.length_replicate]; omega), List.length_replicate]
      rw [splice_len _ _ _ (by rw [h1, bts_len]; show z + 1 ≤ m1; omega), h1]
    have HL2 := Aside0.mk (show (splice (splice (List.replicate m0 (0 : Int)) 0 l0) z vl).length = m0 from by
      have h1 : (splice (List.replicate m0 (0 : Int)) 0 l0).length = m0 := by rw [splice_len _ _ _ (by rw [HL0.out, List.length_replicate]; omega), List.length_replicate]
      rw [splice_len _ _ _ (by rw [h1, hvl]; omega), h1])
    have HL3 := Aside0.mk (show (splice (splice (splice (List.replicate m1 (0 : Int)) 0 l0) z (bts ⟨#[44]⟩)) z1 vl).length = m1 from by rw [splice_len _ _ _ (by rw [two_len, hvl]; omega), two_len])
    have HE := Aside0.mk (show e0 ≤ m0 ∧ e1 ≤ m1 from by omega)
    have a0 : x < z := by omega
    have a1 : decide ((z : Int) ≤ (x : Int)) = false := decide_eq_false (by omega)
    have a2 : decide ((n : Int) ≤ (z : Int)) = false := decide_eq_false (by omega)
    have a3 : (z : Int) < (n : Int) := by omega
    have a3' : z < n := by omega
    have a4 : (x1 : Int) ≤ (z : Int) := by omega
    have a4' : x1 ≤ z := by omega
    have a5 : (z : Int) ≤ (n : Int) := by omega
    have a5' : z ≤ n := by omega
    have a6 : (z : Int) ≤ (c : Int) := by omega
    have a6' : z ≤ c := by omega
    have a7 : c ≠ x1 := by omega
    have b0 : (z : Int) ≤ (m0 : Int) := by omega
    have b0' : z ≤ m0 := by omega
    have b1 : m0 ≠ z := by omega
    have b2 : (e0 : Int) ≤ (m0 : Int) := by omega
    have b2' : e0 ≤ m0 := by omega
    have b3 : m0 ≠ e0 := by omega
    have d0 : (z : Int) ≤ (m1 : Int) := by omega
    have d0' : z ≤ m1 := by omega
    have d1 : m1 ≠ z := by omega
    have d2 : (z1 : Int) ≤ (m1 : Int) := by omega
    have d2' : z1 ≤ m1 := by omega
    have d3 : m1 ≠ z1 := by omega
    have d4 : (e1 : Int) ≤ (m1 : Int) := by omega
    have d4' : e1 ≤ m1 := by omega
    have d5 : m1 ≠ e1 := by omega
    have c0 : c ≠ z := by omega
    obtain ⟨i0, i1, i2, i3, i4, i5, i6, i7⟩ : IntKind.i64.wrap (((z + 1 : Nat) : Int) - 1) = (z : Int) ∧ IntKind.i64.wrap ((x : Int) + 1) = (x1 : Int) ∧ IntKind.i64.wrap ((vn : Int) + 1) = ((vn + 1 : Nat) : Int) ∧ IntKind.i64.wrap ((n : Int) + (vn : Int)) = (m0 : Int) ∧ IntKind.i64.wrap ((n : Int) + ((vn + 1 : Nat) : Int)) = (m1 : Int) ∧ IntKind.i64.wrap ((z : Int) + 1) = (z1 : Int) ∧ IntKind.i64.wrap ((z : Int) + (vn : Int)) = (e0 : Int) ∧ IntKind.i64.wrap ((z1 : Int) + (vn : Int)) = (e1 : Int) := by
      refine ⟨?_, ?_, ?_, ?_, ?_, ?_, ?_, ?_⟩ <;> (rw [IntKind.wrap_i64]; omega)
    rw [hz1] at HK i0
    obtain ⟨v1, hv1⟩ : ∃ v1, vn + 1 = v1 := ⟨_, rfl⟩
    rw [hv1] at i2 i4
    clear HI hT hV hG hz hc hy hxy hx1 h93 hn hx1' hl0 hl1 hm0 hm1 he0 he1 h4 hv0 hvl hvc hvz hz1 hv1
    go_enter Tryz.func24, Tryz.ntmps24
    go_wp2_with (first | (go_at_call 34; (with_reducible refine HK.out.mono ?_); rintro e' w1 ⟨rfl, HB⟩; have HA1 := Aside0.mk (HST.out _ _ HA0.out (Bes.of_below HB)); have q1 := HC.out _ HA1.out; clear HB) | (go_at_call 37; (with_reducible refine (KN.out _ HA1.out).mono ?_); rintro e' w2 ⟨⟨v, rfl⟩, HB⟩; have HA2 := Aside0.mk (HST.out _ _ HA1.out (HA1.out.bes.step HB)); clear HB)  | ((with_reducible refine gate_builtin (b := .copy) (xs := #[.tmp 102, .tmp 105]) rfl ?_); refine copy_step rfl (.tmp 102) (.tmp 105) rfl _ _ _ _ _ _ rfl rfl w2.heap.size 0 (List.replicate m0 0) 5 (fun k => w.heap.size ≤ k) w _ ?hO l0 ?hn ?hpos ?hfit ?hb HA2.out.bes.size ?_; (case hO => exact ob_made w2 m0); (case hn => rw [HL0.out]; exact (Nat.min_eq_left HM.out.1).symm); (case hpos => intro _; exact ⟨rfl, b, 0, rfl, HW0.out _ (HST.out _ _ HA2.out (HA2.out.bes.step (below_alloc_ _ _)))⟩); (case hfit => rw [HL0.out, List.length_replicate, Nat.zero_add]; exact HM.out.1); (case hb => exact HA2.out.bes.step (below_alloc_ _ _)); intro w3 hO3 hb3; have HO3 := Aside0.mk hO3; have HA3 := Aside0.mk (HST.out _ _ HA2.out hb3); (try rw [HL0.out]); clear hO3 hb3)  | ((with_reducible refine gate_builtin (b := .copy) (xs := #[.tmp 102, .tmp 105]) rfl ?_); refine copy_step rfl (.tmp 102) (.tmp 105) rfl _ _ _ _ _ _ rfl rfl w2.heap.size 0 (List.replicate m1 0) 5 (fun k => w.heap.size ≤ k) w _ ?hO l0 ?hn ?hpos ?hfit ?hb HA2.out.bes.size ?_; (case hO => exact ob_made w2 m1); (case hn => rw [HL0.out]; exact (Nat.min_eq_left HM.out.2.1).symm); (case hpos => intro _; exact ⟨rfl, b, 0, rfl, HW0.out _ (HST.out _ _ HA2.out (HA2.out.bes.step (below_alloc_ _ _)))⟩); (case hfit => rw [HL0.out, List.length_replicate, Nat.zero_add]; exact HM.out.2.1); (case hb => exact HA2.out.bes.step (below_alloc_ _ _)); intro w3 hO3 hb3; have HO3 := Aside0.mk hO3; have HA3 := Aside0.mk (HST.out _ _ HA2.out hb3); (try rw [HL0.out]); clear hO3 hb3)  | (go_at_call 35; (with_reducible refine (comma_calls w2.heap.size z (m1 - z) (m1 - z) 5 (splice (List.replicate m1 0) 0 l0) ?hn ?hf w3 HO3.out).mono ?_); (case hn => have := HM.out.2.2.2.2.2.2.2; omega); (case hf => rw [splice_len _ _ _ (by rw [HL0.out, List.length_replicate]; have := HM.out.2.1; omega), List.length_replicate]; exact HM.out.2.2.2.2.2.2.2); rintro e' w4 ⟨rfl, hO4, hb4⟩; have HO4 := Aside0.mk hO4; have HA4 := Aside0.mk (HST.out _ _ HA3.out (HA3.out.bes.trans (hb4.imp (fun k hk => hk ▸ HA2.out.bes.size)))); clear hO4 hb4)  | ((with_reducible refine gate_builtin (b := .copy) (xs := #[.tmp 117, .tmp 118]) rfl ?_); refine copy_step rfl (.tmp 117) (.tmp 118) rfl _ _ _ _ _ _ rfl rfl w2.heap.size z (splice (List.replicate m0 0) 0 l0) 5 (fun k => w.heap.size ≤ k) w w3 HO3.out vl ?hn ?hpos ?hfit HA3.out.bes HA2.out.bes.size ?_; (case hn => rw [HM.out.2.2.1]; exact (Nat.min_eq_left HM.out.2.2.2.1).symm); (case hpos => intro _; exact ⟨rfl, vb, 0, rfl, HA3.out.val⟩); (case hfit => rw [splice_len _ _ _ (by rw [HL0.out, List.length_replicate]; have := HM.out.1; omega), List.length_replicate, HM.out.2.2.1]; have := HM.out; omega); intro w5 hO5 hb5; have HO5 := Aside0.mk hO5; have HA5 := Aside0.mk (HST.out _ _ HA3.out hb5); rw [HM.out.2.2.1]; clear hO5 hb5)  | ((with_reducible refine gate_builtin (b := .copy) (xs := #[.tmp 117, .tmp 118]) rfl ?_); refine copy_step rfl (.tmp 117) (.tmp 118) rfl _ _ _ _ _ _ rfl rfl w2.heap.size z1 (splice (splice (List.replicate m1 0) 0 l0) z (bts ⟨#[44]⟩)) 5 (fun k => w.heap.size ≤ k) w w4 HO4.out vl ?hn ?hpos ?hfit HA4.out.bes HA2.out.bes.size ?_; (case hn => rw [HM.out.2.2.1]; exact (Nat.min_eq_left HM.out.2.2.2.2.1).symm); (case hpos => intro _; exact ⟨rfl, vb, 0, rfl, HA4.out.val⟩); (case hfit => rw [two_len, HM.out.2.2.1]; have := HM.out; omega); intro w5 hO5 hb5; have HO5 := Aside0.mk hO5; have HA5 := Aside0.mk (HST.out _ _ HA4.out hb5); rw [HM.out.2.2.1]; clear hO5 hb5))
    · have HR := Aside0.mk (show w5.heap[w2.heap.size]? = some (.cells (nums .u8 (splice (splice (splice (List.replicate m1 0) 0 l0) z (bts ⟨#[44]⟩)) z1 vl)).toArray 5 (0, 0)) from HO5.out.row)
      have HN1 := Aside0.mk (show (nums .u8 l1).length = Nat.min (n - z) (m1 - e1) from by rw [nums_len, HL1.out]; have := HM.out; exact (Nat.min_eq_left (by omega)).symm)
      have HP := Aside0.mk (show 0 < (nums .u8 l1).length → (some ⟨w2.heap.size, e1, none⟩ : Option Addr) = some ⟨w2.heap.size, e1, none⟩ ∧ ∃ ad, (some ⟨b, z, none⟩ : Option Addr) = some ad ∧ ∀ j v, (nums .u8 l1)[j]? = some v → w5.cell? (ad.add j) = some v from fun _ => ⟨rfl, _, rfl, nums_src (HW1.out _ HA5.out)⟩)
      have HF := Aside0.mk (show e1 + (nums .u8 l1).length ≤ (nums .u8 (splice (splice (splice (List.replicate m1 0) 0 l0) z (bts ⟨#[44]⟩)) z1 vl)).length from by rw [nums_len, nums_len, HL1.out, HL3.out]; have := HM.out; have := HE.out; omega)
      have H1 := Aside0.mk (nums_one l1)
      have HB5 := Aside0.mk (HA5.out.bes.below (Nat.le_refl _) (fun k hk => hk))
      have HBg := Aside0.mk (show w.heap.size ≤ w2.heap.size from HA2.out.bes.size)
      go_region_law (refine step_copy_splice rfl (.tmp 123) (.tmp 126) 51 51 rfl 5 Tryz.underlying51 (by kernel_rfl) (some ⟨w2.heap.size, e1, none⟩) (some ⟨b, z, none⟩) (m1 - e1) (m1 - e1) (n - z) (c - z) (by simp [Act.eval, Act.put]) (by simp [Act.eval, Act.put]) w2.heap.size e1 (nums .u8 (splice (splice (splice (List.replicate m1 0) 0 l0) z (bts ⟨#[44]⟩)) z1 vl)) 5 HR.out (nums .u8 l1) HN1.out HP.out HF.out H1.out w.heap.size w ?hb HBg.out ?_; (case hb => repeat (first | exact HB5.out | apply below_drew | apply pw_below_drewN)); intro w6 hg6 hb6; have HB6 := Aside0.mk hb6; clear hg6 hb6)
      all_goals go_wp2
      all_goals go_ret2
      all_goals (first | exact ⟨.inr ⟨rfl, _, rfl⟩, HB6.out⟩ | exact ⟨⟨_, rfl⟩, HB6.out⟩ | exact HB6.out)
    · have HR := Aside0.mk (show w5.heap[w2.heap.size]? = some (.cells (nums .u8 (splice (splice (List.replicate m0 0) 0 l0) z vl)).toArray 5 (0, 0)) from HO5.out.row)
      have HN1 := Aside0.mk (show (nums .u8 l1).length = Nat.min (n - z) (m0 - e0) from by rw [nums_len, HL1.out]; have := HM.out; exact (Nat.min_eq_left (by omega)).symm)
      have HP := Aside0.mk (show 0 < (nums .u8 l1).length → (some ⟨w2.heap.size, e0, none⟩ : Option Addr) = some ⟨w2.heap.size, e0, none⟩ ∧ ∃ ad, (some ⟨b, z, none⟩ : Option Addr) = some ad ∧ ∀ j v, (nums .u8 l1)[j]? = some v → w5.cell? (ad.add j) = some v from fun _ => ⟨rfl, _, rfl, nums_src (HW1.out _ HA5.out)⟩)
      have HF := Aside0.mk (show e0 + (nums .u8 l1).length ≤ (nums .u8 (splice (splice (List.replicate m0 0) 0 l0) z vl)).length from by rw [nums_len, nums_len, HL1.out, HL2.out]; have := HM.out; have := HE.out; omega)
      have H1 := Aside0.mk (nums_one l1)
      have HB5 := Aside0.mk (HA5.out.bes.below (Nat.le_refl _) (fun k hk => hk))
      have HBg := Aside0.mk (show w.heap.size ≤ w2.heap.size from HA2.out.bes.size)
      go_region_law (refine step_copy_splice rfl (.tmp 123) (.tmp 126) 51 51 rfl 5 Tryz.underlying51 (by kernel_rfl) (some ⟨w2.heap.size, e0, none⟩) (some ⟨b, z, none⟩) (m0 - e0) (m0 - e0) (n - z) (c - z) (by simp [Act.eval, Act.put]) (by simp [Act.eval, Act.put]) w2.heap.size e0 (nums .u8 (splice (splice (List.replicate m0 0) 0 l0) z vl)) 5 HR.out (nums .u8 l1) HN1.out HP.out HF.out H1.out w.heap.size w ?hb HBg.out ?_; (case hb => repeat (first | exact HB5.out | apply below_drew | apply pw_below_drewN)); intro w6 hg6 hb6; have HB6 := Aside0.mk hb6; clear hg6 hb6)
      all_goals go_wp2
      all_goals go_ret2
      all_goals (first | exact ⟨.inr ⟨rfl, _, rfl⟩, HB6.out⟩ | exact ⟨⟨_, rfl⟩, HB6.out⟩ | exact HB6.out)
  · have k4 : (kd != 4) = true := bne_iff_ne.2 hk
    have HN4 := Aside0.mk hk
    clear HI hT hV hG hz hc hy hxy h4 hv0 hvl hvc hvz hk
    go_enter Tryz.func24, Tryz.ntmps24
    go_wp2_with (go_at_call 34; (with_reducible refine HK.out.mono ?_); rintro e' w1 ⟨rfl, HB⟩; have HA1 := Aside0.mk (HST.out _ _ HA0.out (Bes.of_below HB)); have ge := HA1.out.glob.e7; clear HB)
    obtain ⟨te, pe, hge⟩ := ge
    have HB1 := Aside0.mk (HA1.out.bes.below (Nat.le_refl _) (fun k hk => hk))
    go_region
    all_goals (try go_wp2)
    all_goals go_ret2
    all_goals exact ⟨.inl ⟨HN4.out, te, pe, rfl, by first | exact hge | simpa using hge⟩, by first | exact HB1.out | exact HB1.out.drew⟩
end Go.Proofs.YtpdohioobbfncaaGreatDoor.PFnJrEach/- impl.JrArray, JrAppend and JrObject, told by hand; no condition beside those that each theorem states. -/
namespace Go.Proofs.YtpdohioobbfncaaGreatDoor.PFnJrEach
open Go.RowKit Go.Proofs.YtpdohioobbfncaaGreatDoorW.PrintWords Go.Proofs.YtpdohioobbfncaaGreatDoorW.PrintLast Go.Proofs.YtpdohioobbfncaaGreatDoorW.PrintMore
set_option linter.unusedVariables false
set_option linter.unusedSimpArgs false
set_option maxRecDepth 100000 in
theorem noneA (v0 v1 v2 v3 : Value) (W : World) : Calls Tryz.prog 22 (#[v0, v1, v2, v3] ++ #[]) W fun e' W' => e' = .returned (.tuple #[]) ∧ Below W.heap.size W W' := by
  show Calls Tryz.prog 22 #[v0, v1, v2, v3] W _
  go_enter Tryz.func22, Tryz.ntmps22
  go_wp2
  go_end0
  exact ⟨rfl, Below.refl _ _⟩
set_option maxRecDepth 100000 in
theorem noneO (v0 v1 v2 v3 : Value) (W : World) : Calls Tryz.prog 26 (#[v0, v1, v2, v3] ++ #[]) W fun e' W' => e' = .returned .nilIface ∧ Below W.heap.size W W' := by
  show Calls Tryz.prog 26 #[v0, v1, v2, v3] W _
  go_enter Tryz.func26, Tryz.ntmps26
  go_wp2
  go_ret
  exact ⟨rfl, Below.refl _ _⟩
set_option maxHeartbeats 2000000 in
set_option maxRecDepth 100000 in
/-- ArrayEach is arrayEachConfig with the default configuration. -/
theorem apub_calls (D F KK : Value) (w : World) (hG : Glob w) (R : Value → Value → World → Prop) (HK : Calls Tryz.prog 33 #[cfgV, D, F, KK] w fun e' w' => ∃ u v, e' = .returned (.tuple #[u, v]) ∧ R u v w') :
    Calls Tryz.prog 21 #[D, F, KK] w fun e' w' => ∃ u v, e' = .returned (.tuple #[u, v]) ∧ R u v w' := by
  have g0 := hG.e2_0
  have g1 := hG.e2_1
  have g2 := hG.e2_2
  have HK := Aside0.mk HK
  dsimp only [cfgV] at HK
  clear hG
  go_enter Tryz.func21, Tryz.ntmps21
  go_wp2_with (go_at_call 33; (with_reducible refine HK.out.mono ?_); rintro e' w3 ⟨u, v, rfl, hR⟩; have HR := Aside0.mk hR; clear hR)
  go_ret2
  exact ⟨u, v, rfl, HR.out⟩
set_option maxHeartbeats 2000000 in
set_option maxRecDepth 100000 in
/-- ObjectEach is objectEachConfig with the default configuration. -/
theorem opub_calls (D F KK : Value) (w : World) (hG : Glob w) (R : Value → World → Prop) (HK : Calls Tryz.prog 38 #[cfgV, D, F, KK] w fun e' w' => ∃ v, e' = .returned v ∧ R v w') :
    Calls Tryz.prog 25 #[D, F, KK] w fun e' w' => ∃ v, e' = .returned v ∧ R v w' := by
  have g0 := hG.e2_0
  have g1 := hG.e2_1
  have g2 := hG.e2_2
  have HK := Aside0.mk HK
  dsimp only [cfgV] at HK
  clear hG
  go_enter Tryz.func25, Tryz.ntmps25
  go_wp2_with (go_at_call 38; (with_reducible refine HK.out.mono ?_); rintro e' w3 ⟨v, rfl, hR⟩; have HR := Aside0.mk hR; clear hR)
  go_ret
  exact ⟨v, rfl, HR.out⟩
/-- What an error is to jrKind. -/
def Kn (n : Int) (v : Value) (W : World) : Prop := Calls Tryz.prog 23 #[v] W fun e w' => e = .returned (.int .i64 n) ∧ w' = W
theorem Kn.calls {n : Int} {v : Value} {W : World} (h : Kn n v W) : Calls Tryz.prog 23 #[v] W fun e w' => e = .returned (.int .i64 n) ∧ w' = W := h
theorem qk_of {s : ByteArray} {keys : List ByteArray} (hz : s.size ≤ 2147483647) (hks : ∀ k ∈ keys, k.size ≤ 2147483647) {A1 : Option Addr} {c1 kb ko : Nat} (hkc : keys.length ≤ c1) (hkA : keys ≠ [] → A1 = some ⟨kb, ko, none⟩) {w : World} (hK : Ky kb ko keys w) (hG : Glob w) :
    Qk w.heap.size (grownCap w s.size 0 5) kb ko c1 A1 s keys (Lib.bytesWorld w 5 s) :=
  ⟨hz, grownCap_ge _ _ _ _, hks, hkc, hkA, hG.below (below_bytes w 5 s), tx_of s w, hK.more (below_bytes w 5 s)⟩
set_option maxHeartbeats 2000000 in
set_option maxRecDepth 100000 in
theorem jrarr_calls {s : ByteArray} {keys : List ByteArray} {n0 q0 p : Nat} {els : List (Nat × Nat × Int)} {f : Nat} (h : Aq s keys n0 q0 p) (hv : bt s (p : Int) ≠ 91 ∨ AE s s.size p els f) (hz : s.size ≤ 2147483647) (hks : ∀ k ∈ keys, k.size ≤ 2147483647) (A1 : Option Addr) (c1 kb ko : Nat) (hkc : keys.length ≤ c1) (hkA : keys ≠ [] → A1 = some ⟨kb, ko, none⟩) (w : World) (hK : Ky kb ko keys w) (hG : Glob w) :
    Calls Tryz.prog 11 #[.string s, .slice A1 keys.length c1] w fun e' w' => e' = .returned (.int .i64 (if bt s (p : Int) = 91 then 0 else 5)) ∧ Below w.heap.size w w' := by
  have kb1 := fun W => print_bytes (P := Tryz.prog) 9 51 5 Tryz.underlying9 Tryz.underlying51 Tryz.underlying5 s W
  have hQ := qk_of hz hks hkc hkA hK hG
  have hb := below_bytes w 5 s
  have main := aeach_calls h hv 22 #[] w.heap.size (grownCap w s.size 0 5) kb ko c1 A1 (Lib.bytesWorld w 5 s) hQ (fun args W => enters_ Tryz.func22 (by kernel_rfl) rfl args W) noneA
  obtain ⟨r, hr⟩ : ∃ r : Int, (if bt s (p : Int) = 91 then 0 else 5) = r := ⟨_, rfl⟩
  have pub := apub_calls _ _ _ _ hQ.glob (fun u v W => Kn r v W ∧ Below w.heap.size w W) (main.mono (by
    rintro e' W' ⟨⟨hne, i, te, pe, rfl, hge⟩ | ⟨he, i, rfl⟩, hB⟩
    · exact ⟨_, _, rfl, by rw [← hr, if_neg hne]; exact kind_arr W' (hQ.glob.below hB) hge, below_step hb hB⟩
    · exact ⟨_, _, rfl, by rw [← hr, if_pos he]; exact kind_nil W', below_step hb hB⟩))
  have HK := Aside0.mk pub
  obtain ⟨N, hN⟩ : ∃ N, keys.length = N := ⟨_, rfl⟩
  obtain ⟨n, hn⟩ : ∃ n, s.size = n := ⟨_, rfl⟩
  rw [hN, hn] at HK
  rw [hN, hr]
  clear pub main hb hQ hr hN hK hG hkA hkc hks hz hv h
  go_enter Tryz.func11, Tryz.ntmps11
  go_wp2_with (first | (go_at_call 21; (with_reducible refine HK.out.mono ?_); rintro e' w3 ⟨u, v, rfl, hR, hB⟩; have HR := Aside0.mk hR; have HB := Aside0.mk hB; clear hR hB) | (go_at_call 23; (with_reducible refine (Kn.calls HR.out).mono ?_); rintro e' w4 ⟨rfl, rfl⟩))
  go_ret
  exact ⟨rfl, HB.out⟩
set_option maxHeartbeats 2000000 in
set_option maxRecDepth 100000 in
theorem jrobj_calls {s : ByteArray} {keys : List ByteArray} {q0 p : Nat} {els : List OM} {f : Nat} (h : Oq s keys q0 p els f) (hz : s.size ≤ 2147483647) (hks : ∀ k ∈ keys, k.size ≤ 2147483647) (A1 : Option Addr) (c1 kb ko : Nat) (hkc : keys.length ≤ c1) (hkA : keys ≠ [] → A1 = some ⟨kb, ko, none⟩) (w : World) (hK : Ky kb ko keys w) (hG : Glob w) :
    Calls Tryz.prog 13 #[.string s, .slice A1 keys.length c1] w fun e' w' => e' = .returned (.int .i64 (if bt s (p : Int) = 123 then 0 else 6)) ∧ Below w.heap.size w w' := by
  have kb1 := fun W => print_bytes (P := Tryz.prog) 9 51 5 Tryz.underlying9 Tryz.underlying51 Tryz.underlying5 s W
  have hQ := qk_of hz hks hkc hkA hK hG
  have hb := below_bytes w 5 s
  have hBb : ∀ W, Bes (fun _ => False) (Lib.bytesWorld w 5 s) W → Below (Lib.bytesWorld w 5 s).heap.size (Lib.bytesWorld w 5 s) W := fun W hB => hB.below (Nat.le_refl _) (fun k hk => hk.elim)
  have main := oeach_calls h 26 #[] w.heap.size (grownCap w s.size 0 5) kb ko c1 A1 (Lib.bytesWorld w 5 s) (fun _ => False) (fun _ _ => True) hQ (fun args W => enters_ Tryz.func26 (by kernel_rfl) rfl args W) id (fun W hB => ⟨hQ.glob.below (hBb W hB), hQ.text.more (hBb W hB)⟩) (fun _ _ _ _ _ => trivial) trivial
    (fun j hj G k cp W _ hB hlt hH => (noneO _ _ _ _ W).mono (fun e' W' hh => ⟨hh.1, trivial, Bes.of_below hh.2⟩))
  obtain ⟨r, hr⟩ : ∃ r : Int, (if bt s (p : Int) = 123 then 0 else 6) = r := ⟨_, rfl⟩
  have pub := opub_calls _ _ _ _ hQ.glob (fun v W => Kn r v W ∧ Below w.heap.size w W) (main.mono (by
    rintro e' W' ⟨⟨hne, ⟨te, pe, rfl, hge⟩, _⟩ | ⟨he, rfl, _⟩, hB⟩
    · exact ⟨_, rfl, by rw [← hr, if_neg hne]; exact kind_obj W' (hQ.glob.below (hBb W' hB)) hge, below_step hb (hBb W' hB)⟩
    · exact ⟨_, rfl, by rw [← hr, if_pos he]; exact kind_nil W', below_step hb (hBb W' hB)⟩))
  have HK := Aside0.mk pub
  obtain ⟨N, hN⟩ : ∃ N, keys.length = N := ⟨_, rfl⟩
  obtain ⟨n, hn⟩ : ∃ n, s.size = n := ⟨_, rfl⟩
  rw [hN, hn] at HK
  rw [hN, hr]
  clear pub main hb hBb hQ hr hN hK hG hkA hkc hks hz h
  go_enter Tryz.func13, Tryz.ntmps13
  go_wp2_with (first | (go_at_call 25; (with_reducible refine HK.out.mono ?_); rintro e' w3 ⟨v, rfl, hR, hB⟩; have HR := Aside0.mk hR; have HB := Aside0.mk hB; clear hR hB) | (go_at_call 23; (with_reducible refine (Kn.calls HR.out).mono ?_); rintro e' w4 ⟨rfl, rfl⟩))
  go_ret
  exact ⟨rfl, HB.out⟩
set_option maxHeartbeats 2000000 in
set_option maxRecDepth 100000 in
theorem jrapp_calls {s one : ByteArray} {keys : List ByteArray} {q x y : Nat} {kd : Int} (h : GK s keys q x y kd) (h4 : kd = 4 → x + 1 < y ∧ bt s ((y - 1 : Nat) : Int) = 93) (h1 : one.size ≤ 2147483647) (hz : s.size ≤ 2147483647) (hks : ∀ k ∈ keys, k.size ≤ 2147483647) (A1 : Option Addr) (c1 kb ko : Nat) (hkc : keys.length ≤ c1) (hkA : keys ≠ [] → A1 = some ⟨kb, ko, none⟩) (w : World) (hK : Ky kb ko keys w) (hG : Glob w) :
    Calls Tryz.prog 12 #[.string s, .string one, .slice A1 keys.length c1] w fun e' w' => e' = .returned (.int .i64 (if kd = 4 then 0 else 5)) ∧ Below w.heap.size w w' := by
  have kb1 := fun (s : ByteArray) W => print_bytes (P := Tryz.prog) 9 51 5 Tryz.underlying9 Tryz.underlying51 Tryz.underlying5 s W
  have hQ0 := qk_of hz hks hkc hkA hK hG
  have hb0 := below_bytes w 5 s
  have hs0 : (Lib.bytesWorld w 5 s).heap.size = w.heap.size + 1 := Lib.bytesWorld_size _ _ _
  generalize hw1 : Lib.bytesWorld w 5 s = w1 at hQ0 hb0 hs0
  have hb1 := below_bytes w1 5 one
  have hQ := hQ0.more hb1
  have hV : Hd w1.heap.size 0 (win one 0 one.size) (Lib.bytesWorld w1 5 one) := (tx_of one w1).hd 0 one.size (Nat.le_refl _)
  have main := append_calls w.heap.size (grownCap w s.size 0 5) hz (grownCap_ge _ _ _ _) h.gv.xy h.gv.ye h4 (.slice A1 keys.length c1) w1.heap.size (grownCap w1 one.size 0 5) one.size (win one 0 one.size) (win_len _ _ _) (grownCap_ge _ _ _ _) h1 _ hQ.glob hQ.text hV (iget_calls h _ _ kb ko c1 A1 _ hQ)
  obtain ⟨r, hr⟩ : ∃ r : Int, (if kd = 4 then 0 else 5) = r := ⟨_, rfl⟩
  have pub : Calls Tryz.prog 24 _ _ (fun e' W => ∃ u v, e' = .returned (.tuple #[u, v]) ∧ Kn r v W ∧ Below w.heap.size w W) := main.mono (by
    rintro e' W' ⟨⟨hne, te, pe, rfl, hge⟩ | ⟨he, u, rfl⟩, hB⟩
    · exact ⟨_, _, rfl, by rw [← hr, if_neg hne]; exact kind_arr W' (hQ.glob.below hB) hge, below_step (below_step hb0 hb1) hB⟩
    · exact ⟨_, _, rfl, by rw [← hr, if_pos he]; exact kind_nil W', below_step (below_step hb0 hb1) hB⟩)
  have HK := Aside0.mk pub
  obtain ⟨N, hN⟩ : ∃ N, keys.length = N := ⟨_, rfl⟩
  obtain ⟨n, hn⟩ : ∃ n, s.size = n := ⟨_, rfl⟩
  obtain ⟨n1, hn1⟩ : ∃ n, one.size = n := ⟨_, rfl⟩
  rw [hN, hn, hn1] at HK
  rw [hN, hr]
  clear pub main hb0 hb1 hQ hQ0 hr hN hK hG hkA hkc hks hz h h4 h1 hV hs0
  subst hw1
  go_enter Tryz.func12, Tryz.ntmps12
  go_wp2_with (first | (go_at_call 24; (with_reducible refine HK.out.mono ?_); rintro e' w3 ⟨u, v, rfl, hR, hB⟩; have HR := Aside0.mk hR; have HB := Aside0.mk hB; clear hR hB) | (go_at_call 23; (with_reducible refine (Kn.calls HR.out).mono ?_); rintro e' w4 ⟨rfl, rfl⟩))
  go_ret
  exact ⟨rfl, HB.out⟩
end Go.Proofs.YtpdohioobbfncaaGreatDoor.PFnJrEach