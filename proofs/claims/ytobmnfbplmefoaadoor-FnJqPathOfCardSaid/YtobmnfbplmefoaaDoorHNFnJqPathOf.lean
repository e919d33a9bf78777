/- jsonparser's Unescape of a text whose escapes are RFC 8259's, told by hand; no condition beside those that each theorem states. -/
import Derived.Test.YtobmnfbplmefoaaDoorHNAFnJqPathOf
import Derived.Test.YtobmnfbplmefoaaDoorPFnJqPathOfx5
import Derived.Lib.LaidU8
namespace Go.Proofs.YtobmnfbplmefoaaDoor.PFnJqPathOf
open Go.RowKit Go.Proofs.YtobmnfbplmefoaaDoorW.PrintWords Go.Proofs.YtobmnfbplmefoaaDoorW.PrintLast Go.Proofs.YtobmnfbplmefoaaDoorW.PrintMore
set_option linter.unusedVariables false
set_option linter.unusedSimpArgs false
theorem below_alloc_ (w : World) (o : Obj) : Below w.heap.size w (w.alloc o) := by
  repeat (first | exact Below.refl _ _ | apply below_alloc)
theorem keep_ {W W' : World} {a : Addr} {v : Value} (h : W.cell? a = some v) (hb : Below W.heap.size W W') : W'.cell? a = some v := (hb.cell (World.block_lt_of_cell? W _ h)).trans h
abbrev cfgV : Value := .agg #[.bool false, .bool false, .int .i64 0]
/-- A text's bytes, from a place of a block on. -/
structure Hd (b o : Nat) (l : List Int) (W : World) : Prop where
  cell : ∀ i, i < l.length → W.cell? ⟨b, o + i, none⟩ = some (.int .u8 (l.getD i 0))
theorem Hd.more {b o : Nat} {l : List Int} {W W' : World} (h : Hd b o l W) (hb : Below W.heap.size W W') : Hd b o l W' := ⟨fun i hi => keep_ (h.cell i hi) hb⟩
theorem Hd.drop {b o : Nat} {l : List Int} {W : World} (h : Hd b o l W) (k : Nat) : Hd b (o + k) (l.drop k) W := by
  refine ⟨fun i hi => ?_⟩
  rw [List.length_drop] at hi
  rw [Nat.add_assoc, h.cell (k + i) (by omega)]
  simp [List.getD_eq_getElem?_getD, List.getElem?_drop]
theorem Hd.at_ {b o : Nat} {l : List Int} {W : World} (h : Hd b o l W) (i : Nat) (x : Int) (hi : i < l.length) (hx : rd l (i : Int) = x) : W.cell? ⟨b, o + i, none⟩ = some (.int .u8 x) := by
  rw [h.cell i hi, ← hx]
  rfl
theorem Hd.reads {b o : Nat} {l : List Int} {W : World} (h : Hd b o l W) (hz : l.length ≤ 9223372036854775807) : Kd.C (Kd.int .u8) W (some ⟨b, o, none⟩) l.length l := by
  refine Kd.C_of_reads (d := 0) (h1 := fun _ => rfl) ⟨rfl, hz, fun hn => ⟨_, rfl, fun j hj => ?_⟩⟩
  rw [← h.cell j hj]
  congr 1
  simp [Addr.add]
theorem Hd.of_C {A : Option Addr} {l : List Int} {W : World} (h : Kd.C (Kd.int .u8) W A l.length l) (hn : 0 < l.length) : ∃ b o, A = some ⟨b, o, none⟩ ∧ Hd b o l W := by
  obtain ⟨hl, hm, hc⟩ := Kd.reads_of_C h
  obtain ⟨⟨b, o, sp⟩, hA, hc⟩ := hc hn
  have h0 := hc 0 hn
  have hsp : sp = none := by
    cases sp with
    | none => rfl
    | some s =>
      have h1 := cell_spot (b := ((⟨b, o, some s⟩ : Addr).add 0).block) (o := ((⟨b, o, some s⟩ : Addr).add 0).off) (sp := ((⟨b, o, some s⟩ : Addr).add 0).spot) h0
      simp [Addr.add] at h1
  subst hsp
  exact ⟨b, o, hA, ⟨fun i hi => by rw [← hc i hi]; congr 1; simp [Addr.add]⟩⟩
theorem below_setc {B g k : Nat} {w0 w : World} {v : Value} (h : Below B w0 w) (hg : B ≤ g) : Below B w0 (w.setCell ⟨g, k, none⟩ v) := h.setCell hg _
/-! ### what an escape stands for -/
def simpleE (c : Int) : Bool := c == 34 || c == 92 || c == 47 || c == 98 || c == 102 || c == 110 || c == 114 || c == 116
def okR (x m : Int) : Prop := (m = 6 ∨ m = 12) ∧ 0 ≤ x ∧ x ≤ 1114111 ∧ (x < 55296 ∨ 57343 < x)
instance (x m : Int) : Decidable (okR x m) := by unfold okR; infer_instance
/-- What an escape at the begin of a text writes, and how many bytes it takes. -/
inductive Es (l : List Int) : Nat → List Int → Prop
  | sh (c : Int) (h0 : rd l 0 = 92) (h1 : rd l 1 = c) (hs : simpleE c = true) (hl : 2 ≤ l.length) : Es l 2 [escT.getD c.toNat 0]
  | un (k : Nat) (x : Int) (m : Nat) (h0 : rd l 0 = 92) (h1 : rd l 1 = 117) (hd : jsonparser_decodeUnicodeEscape.f k l = some (x, (m : Int))) (ho : okR x m) (hl : m ≤ l.length) : Es l m (encN x)
theorem Es.two {l : List Int} {m : Nat} {e : List Int} (h : Es l m e) : 2 ≤ m ∧ m ≤ l.length ∧ 0 < e.length ∧ e.length ≤ 4 ∧ e.length + 1 ≤ m := by
  cases h with
  | sh c h0 h1 hs hl => exact ⟨by omega, hl, by simp, by simp, by simp⟩
  | un k x m h0 h1 hd ho hl =>
    have := encN_len x
    have := ho.1
    omega
set_option maxHeartbeats 8000000 in
set_option maxRecDepth 100000 in
/-- One escape. -/
theorem one_calls (l : List Int) (m : Nat) (e : List Int) (he : Es l m e) (hz : l.length ≤ 9223372036854775807) (b o c g j n cap : Nat) (t : TypeId) (out : List Int) (hc : l.length ≤ c) (hn : l.length ≤ n) (hjo : j + n ≤ out.length)
    (w0 w : World) (hG : Glob w) (hH : Hd b o l w) (hb : Below w0.heap.size w0 w) (hg : w0.heap.size ≤ g) (hO : Ob g t out w) :
    Calls Tryd.prog 38 #[cfgV, .slice (some ⟨b, o, none⟩) l.length c, .slice (some ⟨g, j, none⟩) n cap] w fun e' w' => e' = .returned (.tuple #[.int .i64 m, .int .i64 (e.length : Int)]) ∧ Ob g t (wrt out j e) w' ∧ Below w0.heap.size w0 w' := by
  have h2 := he.two
  have hr := hH.reads hz
  obtain ⟨n1, hn1⟩ : ∃ n1, l.length = n1 := ⟨_, rfl⟩
  have q0 : 0 < n1 := by omega
  have q1 : 1 < n1 := by omega
  have q2 : decide ((n1 : Int) < 2) = false := decide_eq_false (by omega)
  have q3 : 0 < n := by omega
  have hA := fun ob => below_alloc_ w ob
  have HA := Aside0.mk hA
  cases he with
  | sh c' h0 h1 hs hl =>
    have x0 := hH.at_ 0 92 (by omega) h0
    rw [Nat.add_zero] at x0
    have x1 := hH.at_ 1 c' (by omega) h1
    have y0 := fun ob => keep_ x0 (below_alloc_ w ob)
    have y1 := fun ob => keep_ x1 (below_alloc_ w ob)
    have hOa := fun ob => hO.more (below_alloc_ w ob)
    have o0 := fun ob => (hOa ob).cell j (by omega)
    have o1 := fun ob => (hOa ob).free j
    obtain ⟨z0, hz0⟩ : ∃ z, out.getD j 0 = z := ⟨_, rfl⟩
    rw [hz0] at o0
    have hs' : c' = 34 ∨ c' = 92 ∨ c' = 47 ∨ c' = 98 ∨ c' = 102 ∨ c' = 110 ∨ c' = 114 ∨ c' = 116 := by
      simpa [simpleE, or_assoc] using hs
    have hT := fun ob => keep_ (hG.escTAt c'.toNat (by omega)) (below_alloc_ w ob)
    obtain ⟨v, hv⟩ : ∃ v, escT.getD c'.toNat 0 = v := ⟨_, rfl⟩
    rw [hv] at hT ⊢
    have HO := Aside0.mk (fun ob => (hOa ob).put j v)
    have HBw := Aside0.mk (fun ob => below_setc (k := j) (v := .int .u8 v) (below_step hb (below_alloc_ w ob)) hg)
    rw [hn1] at hr ⊢
    clear hr hO h0 h1 h2 hl hc hn hb hg x0 x1 hG hH hjo hz hn1 hA hs hOa hz0 hv
    dsimp only [cfgV]
    rcases hs' with rfl | rfl | rfl | rfl | rfl | rfl | rfl | rfl
    all_goals
      simp only [Int.reduceToNat] at hT
      go_enter Tryd.func38, Tryd.ntmps38
      go_wp2
      go_ret2
      exact ⟨rfl, HO.out _, HBw.out _⟩
  | un k x m h0 h1 hd ho hl =>
    have x0 := hH.at_ 0 92 (by omega) h0
    rw [Nat.add_zero] at x0
    have x1 := hH.at_ 1 117 (by omega) h1
    have y0 := fun ob => keep_ x0 (below_alloc_ w ob)
    have y1 := fun ob => keep_ x1 (below_alloc_ w ob)
    have k1 := fun (W : World) (hW : Below w.heap.size w W) => jsonparser_decodeUnicodeEscape.calls k (some ⟨b, o, none⟩) c l x (m : Int) W (Kd.C_below hr hW) (by omega) hd
    have hm := ho.1
    have k2 := fun (W : World) (hW : Below w.heap.size w W) => enc_calls x ho.2.1 ho.2.2.1 ho.2.2.2 g j n cap t out (by omega) (by omega) w0.heap.size w0 W (below_step hb hW) hg (hO.more hW)
    rw [hn1] at k1 ⊢
    have m1 : ((m : Int) == -1) = false := beq_eq_false_iff_ne.2 (by omega)
    clear hr hO hd hm h0 h1 h2 hl hc hn hb hg x0 x1 hG hH hjo hz hn1 hA ho
    dsimp only [cfgV]
    go_enter Tryd.func38, Tryd.ntmps38
    go_wp2_with (first | (go_at_call 40; (with_reducible refine (k1 _ (HA.out _)).mono ?_); rintro e w1 ⟨rfl, HD⟩; have H1 := Aside0.mk (below_step (HA.out _) HD.below); clear HD) | (go_at_call 41; (with_reducible refine (k2 _ H1.out).mono ?_); rintro e w2 ⟨rfl, HB, HW⟩; have H2 := Aside0.mk HB; have H3 := Aside0.mk HW; clear HB HW))
    go_ret2
    exact ⟨rfl, H2.out, H3.out⟩
/-! ### a text with escapes -/
inductive Un : List Int → List Int → Prop
  | nil : Un [] []
  | ch {c : Int} {t r : List Int} (hc : c ≠ 92) (h : Un t r) : Un (c :: t) (c :: r)
  | es {l : List Int} {m : Nat} {e r : List Int} (he : Es l m e) (h : Un (l.drop m) r) : Un l (e ++ r)
theorem Es.head {l : List Int} {m : Nat} {e : List Int} (h : Es l m e) : ∃ t, l = 92 :: t := by
  have h2 := h.two
  cases l with
  | nil => simp at h2; omega
  | cons c t =>
    have : rd (c :: t) 0 = 92 := by cases h <;> assumption
    exact ⟨t, by rw [show c = 92 from this]⟩
theorem Un.split {l r : List Int} (h : Un l r) : ∃ pre l' r', l = pre ++ l' ∧ r = pre ++ r' ∧ (∀ x ∈ pre, x ≠ 92) ∧ ((l' = [] ∧ r' = []) ∨ ∃ m e r2, Es l' m e ∧ r' = e ++ r2 ∧ Un (l'.drop m) r2) := by
  induction h with
  | nil => exact ⟨[], [], [], rfl, rfl, by simp, .inl ⟨rfl, rfl⟩⟩
  | ch hc h ih =>
    rename_i c t r
    obtain ⟨pre, l', r', rfl, rfl, h1, h2⟩ := ih
    exact ⟨c :: pre, l', r', rfl, rfl, fun x hx => (List.mem_cons.1 hx).elim (fun e => e ▸ hc) (h1 x), h2⟩
  | es he h ih => exact ⟨[], _, _, rfl, rfl, by simp, .inr ⟨_, _, _, he, rfl, h⟩⟩
theorem Un.len {l r : List Int} (h : Un l r) : r.length ≤ l.length := by
  induction h with
  | nil => exact Nat.le_refl _
  | ch hc h ih => simp only [List.length_cons]; omega
  | es he h ih => have := he.two; rw [List.length_drop] at ih; rw [List.length_append]; omega
theorem byte92 (x : Int) (h0 : 0 ≤ x) (h1 : x < 256) (h : x ≠ 92) : (UInt8.ofNat x.toNat == (92 : Int).toNat.toUInt8) = false := by
  apply beq_eq_false_iff_ne.2
  intro he
  have h2 := congrArg UInt8.toNat he
  have h3 : (UInt8.ofNat x.toNat).toNat = x.toNat := by simp; omega
  rw [h3] at h2
  have h4 : ((92 : Int).toNat.toUInt8).toNat = 92 := by decide
  omega
theorem idx_none (pre : List Int) (h : ∀ x ∈ pre, x ≠ 92 ∧ 0 ≤ x ∧ x < 256) : Lib.indexByte (Lib.bytesOf pre) (92 : Int).toNat.toUInt8 = -1 := by
  induction pre with
  | nil => rfl
  | cons c t ih =>
    have hc := h c (by simp)
    show (if UInt8.ofNat c.toNat == (92 : Int).toNat.toUInt8 then 0 else if Lib.indexByte (Lib.bytesOf t) (92 : Int).toNat.toUInt8 == -1 then -1 else Lib.indexByte (Lib.bytesOf t) (92 : Int).toNat.toUInt8 + 1) = -1
    rw [byte92 c hc.2.1 hc.2.2 hc.1, ih (fun x hx => h x (by simp [hx]))]
    rfl
theorem idx_at (pre t : List Int) (h : ∀ x ∈ pre, x ≠ 92 ∧ 0 ≤ x ∧ x < 256) : Lib.indexByte (Lib.bytesOf (pre ++ 92 :: t)) (92 : Int).toNat.toUInt8 = (pre.length : Int) := by
  induction pre with
  | nil => rfl
  | cons c u ih =>
    have hc := h c (by simp)
    show (if UInt8.ofNat c.toNat == (92 : Int).toNat.toUInt8 then 0 else if Lib.indexByte (Lib.bytesOf (u ++ 92 :: t)) (92 : Int).toNat.toUInt8 == -1 then -1 else Lib.indexByte (Lib.bytesOf (u ++ 92 :: t)) (92 : Int).toNat.toUInt8 + 1) = ((u.length + 1 : Nat) : Int)
    rw [byte92 c hc.2.1 hc.2.2 hc.1, ih (fun x hx => h x (by simp [hx]))]
    have : (((u.length : Int)) == -1) = false := beq_eq_false_iff_ne.2 (by omega)
    rw [this]
    simp
/-- copy of some bytes into the row. -/
theorem copy_step {ops : Array Oper} {rest : List Oper} {o : Oper} {a : Act} {Q : Exit → Act → World → Prop} (hgd : o.guard = none) (d s : Operand)
    (ho : o.op = .call { callee := .builtin .copy, args := #[d, s], argTypes := #[23, 23] }) (dp sp : Option Addr) (dLen dCap sLen sCap : Nat) (hd : a.eval d = .slice dp dLen dCap) (hs : a.eval s = .slice sp sLen sCap)
    (g off : Nat) (out : List Int) (t : TypeId) (w0 W : World) (hO : Ob g t out W) (ch : List Int) (hn : ch.length = Nat.min sLen dLen) (hpos : 0 < ch.length → dp = some ⟨g, off, none⟩ ∧ ∃ b o', sp = some ⟨b, o', none⟩ ∧ Hd b o' ch W)
    (hfit : off + ch.length ≤ out.length) (hb : Below w0.heap.size w0 W) (hg : w0.heap.size ≤ g)
    (h : ∀ W2, Ob g t (splice out off ch) W2 → Below w0.heap.size w0 W2 → wpList Tryd.prog ops Q rest (a.put o.dst (goInt ch.length)) W2) : wpList Tryd.prog ops Q (o :: rest) a W := by
  refine wpList_copy_splice hgd d s 23 23 ho 5 Tryd.underlying23 (by kernel_rfl) dp sp dLen dCap sLen sCap hd hs g off (nums .u8 out) t hO.row (nums .u8 ch) (by simpa [nums] using hn) (fun hp => ?_) (by simpa [nums] using hfit) (fun v hv => ?_) w0.heap.size w0 hb hg (fun W2 h2 hb2 => ?_)
  · obtain ⟨h1, b, o', h2, h3⟩ := hpos (by simpa [nums] using hp)
    refine ⟨h1, _, h2, fun j v hv => ?_⟩
    have hj : j < ch.length := by
      have := (List.getElem?_eq_some_iff.1 hv).1
      simpa [nums] using this
    rw [show (⟨b, o', none⟩ : Addr).add j = ⟨b, o' + j, none⟩ by simp [Addr.add], h3.cell j hj]
    simp [nums, hj] at hv
    rw [← hv]
    simp [List.getD_eq_getElem?_getD, hj]
  · simp only [nums, List.mem_map] at hv
    obtain ⟨x, _, rfl⟩ := hv
    rfl
  · have hlen : (nums .u8 ch).length = ch.length := by simp [nums]
    have h3 := h W2 ⟨by
      have h4 := h2.out
      rw [h4]
      congr 2
      simp [splice, nums, List.map_take, List.map_drop]⟩ hb2
    rwa [hlen]
end Go.Proofs.YtobmnfbplmefoaaDoor.PFnJqPathOf
