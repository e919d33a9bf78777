/- A character's bytes, written into a row at a place (unicode/utf8.EncodeRune); no condition beside those that each theorem states. -/
import Derived.Test.YtpdohioobbfncaaGreatDoorHHFnJpWildStop
import Derived.Test.YtpdohioobbfncaaGreatDoorSHFnJpWildStop
import Derived.Laws.CopyOwn
import Derived.Test.YtpdohioobbfncaaGreatDoorPFnJpWildStopx17
namespace Go.Proofs.YtpdohioobbfncaaGreatDoor.PFnJpWildStop
open Go.RowKit Go.Proofs.YtpdohioobbfncaaGreatDoorW.PrintWords Go.Proofs.YtpdohioobbfncaaGreatDoorW.PrintLast Go.Proofs.YtpdohioobbfncaaGreatDoorW.PrintMore
set_option linter.unusedVariables false
set_option linter.unusedSimpArgs false
def encN (r : Int) : List Int := if r ≤ 127 then [r] else if r ≤ 2047 then [192 + r / 64, 128 + r % 64] else if r ≤ 65535 then [224 + r / 4096, 128 + r / 64 % 64, 128 + r % 64] else [240 + r / 262144, 128 + r / 4096 % 64, 128 + r / 64 % 64, 128 + r % 64]
theorem encN_len (r : Int) : 0 < (encN r).length ∧ (encN r).length ≤ 4 := by unfold encN; split <;> (try split) <;> (try split) <;> simp
/-- A block that is a row of bytes. -/
structure Ob (g : Nat) (t : TypeId) (o : List Int) (W : World) : Prop where
  row : W.heap[g]? = some (.cells (nums .u8 o).toArray t (0, 0))
theorem Ob.cell {g : Nat} {t : TypeId} {o : List Int} {W : World} (h : Ob g t o W) (k : Nat) (hk : k < o.length) : W.cell? ⟨g, k, none⟩ = some (.int .u8 (o.getD k 0)) := by
  rw [blk_cell h.row]
  simp [nums, List.getD_eq_getElem?_getD, hk]
theorem Ob.free {g : Nat} {t : TypeId} {o : List Int} {W : World} (h : Ob g t o W) (k : Nat) : W.frozen? ⟨g, k, none⟩ = false := blk_frozen h.row k
theorem Ob.put {g : Nat} {t : TypeId} {o : List Int} {W : World} (h : Ob g t o W) (k : Nat) (x : Int) : Ob g t (o.set k x) (W.setCell ⟨g, k, none⟩ (.int .u8 x)) := by
  refine ⟨?_⟩
  rw [heap_setCell_same W g k _ t _ h.row]
  congr 2
  apply Array.ext'
  simp [nums, List.map_set]
theorem Ob.more {g : Nat} {t : TypeId} {o : List Int} {W W' : World} (h : Ob g t o W) (hb : Below W.heap.size W W') : Ob g t o W' := ⟨(hb.block g (blk_lt h.row)).trans h.row⟩
theorem Ob.lt {g : Nat} {t : TypeId} {o : List Int} {W : World} (h : Ob g t o W) : g < W.heap.size := blk_lt h.row
/-- Bytes written one behind the other. -/
def wrt : List Int → Nat → List Int → List Int
  | o, _, [] => o
  | o, j, x :: xs => wrt (o.set j x) (j + 1) xs
theorem wr_len (xs : List Int) : ∀ (o : List Int) (j : Nat), (wrt o j xs).length = o.length := by
  induction xs with
  | nil => intro o j; rfl
  | cons x xs ih => intro o j; rw [wrt, ih, List.length_set]
theorem wr_take (xs : List Int) : ∀ (o : List Int) (j : Nat), j + xs.length ≤ o.length → (wrt o j xs).take (j + xs.length) = o.take j ++ xs := by
  induction xs with
  | nil => intro o j _; simp [wrt]
  | cons x xs ih =>
    intro o j h
    simp only [List.length_cons] at h
    rw [wrt, List.length_cons, show j + (xs.length + 1) = j + 1 + xs.length by omega, ih _ _ (by rw [List.length_set]; omega)]
    rw [List.take_add_one, List.take_set_of_le (Nat.le_refl _), List.getElem?_set_self (by omega)]
    simp
theorem splice_len (o xs : List Int) (j : Nat) (h : j + xs.length ≤ o.length) : (splice o j xs).length = o.length := length_splice o j xs h
theorem splice_take (o xs : List Int) (j : Nat) (h : j + xs.length ≤ o.length) : (splice o j xs).take (j + xs.length) = o.take j ++ xs := by
  have hj : (o.take j).length = j := by rw [List.length_take]; omega
  unfold splice
  rw [← List.append_assoc, show j + xs.length = (o.take j ++ xs).length by rw [List.length_append, hj]]
  exact List.take_left
set_option maxHeartbeats 4000000 in
set_option maxRecDepth 100000 in
theorem enc_non (r : Int) (h0 : 127 < r) (h1 : r ≤ 1114111) (h2 : r < 55296 ∨ 57343 < r) (g j n cap : Nat) (t : TypeId) (o : List Int) (hn : 4 ≤ n) (ho : j + 4 ≤ o.length) (P : Nat → Prop) (w0 w : World) (hb : Bes P w0 w) (hg : P g) (hO : Ob g t o w) :
    Calls Tryz.prog 96 #[.slice (some ⟨g, j, none⟩) n cap, .int .i32 r] w fun e w' => e = .returned (.int .i64 ((encN r).length : Int)) ∧ Ob g t (wrt o j (encN r)) w' ∧ Bes P w0 w' := by
  have c0 : w.cell? ⟨g, j, none⟩ = some (.int .u8 (o.getD j 0)) := hO.cell j (by omega)
  have c1 : w.cell? ⟨g, j + 1, none⟩ = some (.int .u8 (o.getD (j + 1) 0)) := hO.cell (j + 1) (by omega)
  have c2 : w.cell? ⟨g, j + 2, none⟩ = some (.int .u8 (o.getD (j + 2) 0)) := hO.cell (j + 2) (by omega)
  have c3 : w.cell? ⟨g, j + 3, none⟩ = some (.int .u8 (o.getD (j + 3) 0)) := hO.cell (j + 3) (by omega)
  have f0 : w.frozen? ⟨g, j, none⟩ = false := hO.free j
  have f1 : w.frozen? ⟨g, j + 1, none⟩ = false := hO.free (j + 1)
  have f2 : w.frozen? ⟨g, j + 2, none⟩ = false := hO.free (j + 2)
  have f3 : w.frozen? ⟨g, j + 3, none⟩ = false := hO.free (j + 3)
  obtain ⟨z0, hz0⟩ : ∃ z, o.getD j 0 = z := ⟨_, rfl⟩
  obtain ⟨z1, hz1⟩ : ∃ z, o.getD (j + 1) 0 = z := ⟨_, rfl⟩
  obtain ⟨z2, hz2⟩ : ∃ z, o.getD (j + 2) 0 = z := ⟨_, rfl⟩
  obtain ⟨z3, hz3⟩ : ∃ z, o.getD (j + 3) 0 = z := ⟨_, rfl⟩
  rw [hz0] at c0
  rw [hz1] at c1
  rw [hz2] at c2
  rw [hz3] at c3
  have e32 : IntKind.u32.wrap r = r := by rw [IntKind.wrap_u32]; omega
  have n0 : 0 < n := by omega
  have n1 : 1 < n := by omega
  have n2 : 2 < n := by omega
  have n3 : 3 < n := by omega
  have HB2 := Aside0.mk (fun a b : Int => (hO.put j a).put (j + 1) b)
  have HB3 := Aside0.mk (fun a b c : Int => ((hO.put j a).put (j + 1) b).put (j + 2) c)
  have HB4 := Aside0.mk (fun a b c d : Int => (((hO.put j a).put (j + 1) b).put (j + 2) c).put (j + 3) d)
  have HB := Aside0.mk hb
  have HG := Aside0.mk hg
  clear hO hb hg ho hz0 hz1 hz2 hz3
  by_cases a1 : r ≤ 2047
  · have d1 : decide (r ≤ 2047) = true := decide_eq_true a1
    have HE := Aside0.mk (show encN r = [192 + r / 64, 128 + r % 64] by unfold encN; rw [if_neg (by omega), if_pos a1])
    go_enter Tryz.func96, Tryz.ntmps96
    go_wp2
    go_ret
    rw [HE.out]
    exact ⟨rfl, HB2.out _ _, (HB.out.set _ _ _ HG.out).set _ _ _ HG.out⟩
  · have d1 : decide (r ≤ 2047) = false := decide_eq_false a1
    by_cases a2 : r ≤ 65535
    · have HE := Aside0.mk (show encN r = [224 + r / 4096, 128 + r / 64 % 64, 128 + r % 64] by unfold encN; rw [if_neg (by omega), if_neg a1, if_pos a2])
      have d2 : decide (r ≤ 65535) = true := decide_eq_true a2
      rcases h2 with h2 | h2
      · have d3 : decide (r < 55296) = true := decide_eq_true h2
        go_enter Tryz.func96, Tryz.ntmps96
        go_wp2
        go_ret
        rw [HE.out]
        exact ⟨rfl, HB3.out _ _ _, ((HB.out.set _ _ _ HG.out).set _ _ _ HG.out).set _ _ _ HG.out⟩
      · have d3 : decide (r < 55296) = false := decide_eq_false (by omega)
        have d4 : decide (57343 < r) = true := decide_eq_true h2
        go_enter Tryz.func96, Tryz.ntmps96
        go_wp2
        go_ret
        rw [HE.out]
        exact ⟨rfl, HB3.out _ _ _, ((HB.out.set _ _ _ HG.out).set _ _ _ HG.out).set _ _ _ HG.out⟩
    · have HE := Aside0.mk (show encN r = [240 + r / 262144, 128 + r / 4096 % 64, 128 + r / 64 % 64, 128 + r % 64] by unfold encN; rw [if_neg (by omega), if_neg a1, if_neg a2])
      have d2 : decide (r ≤ 65535) = false := decide_eq_false a2
      have d3 : decide (r < 55296) = false := decide_eq_false (by omega)
      have d4 : decide (57343 < r) = true := decide_eq_true (by omega)
      have d5 : decide (r > 65535) = true := decide_eq_true (by omega)
      have d6 : decide (r ≤ 1114111) = true := decide_eq_true h1
      go_enter Tryz.func96, Tryz.ntmps96
      go_wp2
      go_ret
      rw [HE.out]
      exact ⟨rfl, HB4.out _ _ _ _, (((HB.out.set _ _ _ HG.out).set _ _ _ HG.out).set _ _ _ HG.out).set _ _ _ HG.out⟩
set_option maxHeartbeats 4000000 in
set_option maxRecDepth 100000 in
theorem enc_calls (r : Int) (h0 : 0 ≤ r) (h1 : r ≤ 1114111) (h2 : r < 55296 ∨ 57343 < r) (g j n cap : Nat) (t : TypeId) (o : List Int) (hn : 4 ≤ n) (ho : j + 4 ≤ o.length) (P : Nat → Prop) (w0 w : World) (hb : Bes P w0 w) (hg : P g) (hO : Ob g t o w) :
    Calls Tryz.prog 87 #[.slice (some ⟨g, j, none⟩) n cap, .int .i32 r] w fun e w' => e = .returned (.int .i64 ((encN r).length : Int)) ∧ Ob g t (wrt o j (encN r)) w' ∧ Bes P w0 w' := by
  have e32 : IntKind.u32.wrap r = r := by rw [IntKind.wrap_u32]; omega
  by_cases a0 : r ≤ 127
  · have d1 : decide (r ≤ 127) = true := decide_eq_true a0
    have c0 : w.cell? ⟨g, j, none⟩ = some (.int .u8 (o.getD j 0)) := hO.cell j (by omega)
    have f0 : w.frozen? ⟨g, j, none⟩ = false := hO.free j
    obtain ⟨z0, hz0⟩ : ∃ z, o.getD j 0 = z := ⟨_, rfl⟩
    rw [hz0] at c0
    have n0 : 0 < n := by omega
    have HE := Aside0.mk (show encN r = [r] by unfold encN; rw [if_pos a0])
    have HB1 := Aside0.mk (hO.put j r)
    have HB := Aside0.mk hb
    have HG := Aside0.mk hg
    clear hO hb hg ho hz0
    go_enter Tryz.func87, Tryz.ntmps87
    go_wp2
    go_ret
    rw [HE.out]
    exact ⟨rfl, HB1.out, HB.out.set _ _ _ HG.out⟩
  · have d1 : decide (r ≤ 127) = false := decide_eq_false a0
    have hc := enc_non r (by omega) h1 h2 g j n cap t o hn ho P w0 w hb hg hO
    clear hO hb hg h0 h1 h2 ho
    go_enter Tryz.func87, Tryz.ntmps87
    go_wp2_with (go_at_call 96; (with_reducible refine hc.mono ?_); rintro e w' ⟨rfl, HB, HW⟩; have H1 := Aside0.mk HB; have H2 := Aside0.mk HW; clear HB HW)
    go_ret
    exact ⟨rfl, H1.out, H2.out⟩
end Go.Proofs.YtpdohioobbfncaaGreatDoor.PFnJpWildStop/- jsonparser's Unescape of a text whose escapes are RFC 8259's, told by hand; no condition beside those that each theorem states. -/
namespace Go.Proofs.YtpdohioobbfncaaGreatDoor.PFnJpWildStop
open Go.RowKit Go.Proofs.YtpdohioobbfncaaGreatDoorW.PrintWords Go.Proofs.YtpdohioobbfncaaGreatDoorW.PrintLast Go.Proofs.YtpdohioobbfncaaGreatDoorW.PrintMore
set_option linter.unusedVariables false
set_option linter.unusedSimpArgs false
def simpleE (c : Int) : Bool := c == 34 || c == 92 || c == 47 || c == 98 || c == 102 || c == 110 || c == 114 || c == 116
def okR (x m : Int) : Prop := (m = 6 ∨ m = 12) ∧ 0 ≤ x ∧ x ≤ 1114111 ∧ (x < 55296 ∨ 57343 < x)
instance (x m : Int) : Decidable (okR x m) := by unfold okR; infer_instance
/-- What an escape at the begin of a text writes, and how many bytes it takes. -/
inductive Es (l : List Int) : Nat → List Int → Prop
  | sh (c : Int) (h0 : rd l 0 = 92) (h1 : rd l 1 = c) (hs : simpleE c = true) (hl : 2 ≤ l.length) : Es l 2 [escT.getD c.toNat 0]
  | un (k : Nat) (x : Int) (m : Nat) (h0 : rd l 0 = 92) (h1 : rd l 1 = 117) (hd : dUE_.f k l = some (x, (m : Int))) (ho : okR x m) (hl : m ≤ l.length) : Es l m (encN x)
theorem Es.two {l : List Int} {m : Nat} {e : List Int} (h : Es l m e) : 2 ≤ m ∧ m ≤ l.length ∧ 0 < e.length ∧ e.length ≤ 4 ∧ e.length + 1 ≤ m := by
  cases h with
  | sh c h0 h1 hs hl => exact ⟨by omega, hl, by simp, by simp, by simp⟩
  | un k x m h0 h1 hd ho hl =>
    have := encN_len x
    have := ho.1
    omega
set_option maxHeartbeats 8000000 in
set_option maxRecDepth 100000 in
/-- One escape. -/
theorem one_calls (l : List Int) (m : Nat) (e : List Int) (he : Es l m e) (hz : l.length ≤ 9223372036854775807) (b o c g j n cap : Nat) (t : TypeId) (out : List Int) (hc : l.length ≤ c) (hn : l.length ≤ n) (hjo : j + n ≤ out.length)
    (P : Nat → Prop) (w0 w : World) (hG : Glob w) (hH : Hd b o l w) (hb : Bes P w0 w) (hg : P g) (hO : Ob g t out w) :
    Calls Tryz.prog 75 #[cfgV, .slice (some ⟨b, o, none⟩) l.length c, .slice (some ⟨g, j, none⟩) n cap] w fun e' w' => e' = .returned (.tuple #[.int .i64 m, .int .i64 (e.length : Int)]) ∧ Ob g t (wrt out j e) w' ∧ Bes P w0 w' := by
  have h2 := he.two
  have hr := hH.reads hz
  obtain ⟨n1, hn1⟩ : ∃ n1, l.length = n1 := ⟨_, rfl⟩
  have q0 : 0 < n1 := by omega
  have q1 : 1 < n1 := by omega
  have q2 : decide ((n1 : Int) < 2) = false := decide_eq_false (by omega)
  have q3 : 0 < n := by omega
  have hA := fun ob => below_alloc_ w ob
  have HA := Aside0.mk hA
  cases he with
  | sh c' h0 h1 hs hl =>
    have x0 := hH.at_ 0 92 (by omega) h0
    rw [Nat.add_zero] at x0
    have x1 := hH.at_ 1 c' (by omega) h1
    have y0 := fun ob => keep_ x0 (below_alloc_ w ob)
    have y1 := fun ob => keep_ x1 (below_alloc_ w ob)
    have hOa := fun ob => hO.more (below_alloc_ w ob)
    have o0 := fun ob => (hOa ob).cell j (by omega)
    have o1 := fun ob => (hOa ob).free j
    obtain ⟨z0, hz0⟩ : ∃ z, out.getD j 0 = z := ⟨_, rfl⟩
    rw [hz0] at o0
    have hs' : c' = 34 ∨ c' = 92 ∨ c' = 47 ∨ c' = 98 ∨ c' = 102 ∨ c' = 110 ∨ c' = 114 ∨ c' = 116 := by
      simpa [simpleE, or_assoc] using hs
    have hT := fun ob => keep_ (hG.escTAt c'.toNat (by omega)) (below_alloc_ w ob)
    obtain ⟨v, hv⟩ : ∃ v, escT.getD c'.toNat 0 = v := ⟨_, rfl⟩
    rw [hv] at hT ⊢
    have HO := Aside0.mk (fun ob => (hOa ob).put j v)
    have HBw := Aside0.mk (fun ob => (hb.step (below_alloc_ w ob)).set g j (.int .u8 v) hg)
    rw [hn1] at hr ⊢
    clear hr hO h0 h1 h2 hl hc hn hb hg x0 x1 hG hH hjo hz hn1 hA hs hOa hz0 hv
    dsimp only [cfgV]
    rcases hs' with rfl | rfl | rfl | rfl | rfl | rfl | rfl | rfl
    all_goals
      simp only [Int.reduceToNat] at hT
      go_enter Tryz.func75, Tryz.ntmps75
      go_wp2
      go_ret2
      exact ⟨rfl, HO.out _, HBw.out _⟩
  | un k x m h0 h1 hd ho hl =>
    have x0 := hH.at_ 0 92 (by omega) h0
    rw [Nat.add_zero] at x0
    have x1 := hH.at_ 1 117 (by omega) h1
    have y0 := fun ob => keep_ x0 (below_alloc_ w ob)
    have y1 := fun ob => keep_ x1 (below_alloc_ w ob)
    have k1 := fun (W : World) (hW : Below w.heap.size w W) => dUE_.calls k (some ⟨b, o, none⟩) c l x (m : Int) W (Kd.C_below hr hW) (by omega) hd
    have hm := ho.1
    have k2 := fun (W : World) (hW : Below w.heap.size w W) => enc_calls x ho.2.1 ho.2.2.1 ho.2.2.2 g j n cap t out (by omega) (by omega) P w0 W (hb.step hW) hg (hO.more hW)
    rw [hn1] at k1 ⊢
    have m1 : ((m : Int) == -1) = false := beq_eq_false_iff_ne.2 (by omega)
    clear hr hO hd hm h0 h1 h2 hl hc hn hb hg x0 x1 hG hH hjo hz hn1 hA ho
    dsimp only [cfgV]
    go_enter Tryz.func75, Tryz.ntmps75
    go_wp2_with (first | (go_at_call 86; (with_reducible refine (k1 _ (HA.out _)).mono ?_); rintro e w1 ⟨rfl, HD⟩; have H1 := Aside0.mk (below_step (HA.out _) HD.below); clear HD) | (go_at_call 87; (with_reducible refine (k2 _ H1.out).mono ?_); rintro e w2 ⟨rfl, HB, HW⟩; have H2 := Aside0.mk HB; have H3 := Aside0.mk HW; clear HB HW))
    go_ret2
    exact ⟨rfl, H2.out, H3.out⟩
inductive Un : List Int → List Int → Prop
  | nil : Un [] []
  | ch {c : Int} {t r : List Int} (hc : c ≠ 92) (h : Un t r) : Un (c :: t) (c :: r)
  | es {l : List Int} {m : Nat} {e r : List Int} (he : Es l m e) (h : Un (l.drop m) r) : Un l (e ++ r)
theorem Es.head {l : List Int} {m : Nat} {e : List Int} (h : Es l m e) : ∃ t, l = 92 :: t := by
  have h2 := h.two
  cases l with
  | nil => simp at h2; omega
  | cons c t =>
    have : rd (c :: t) 0 = 92 := by cases h <;> assumption
    exact ⟨t, by rw [show c = 92 from this]⟩
theorem Un.split {l r : List Int} (h : Un l r) : ∃ pre l' r', l = pre ++ l' ∧ r = pre ++ r' ∧ (∀ x ∈ pre, x ≠ 92) ∧ ((l' = [] ∧ r' = []) ∨ ∃ m e r2, Es l' m e ∧ r' = e ++ r2 ∧ Un (l'.drop m) r2) := by
  induction h with
  | nil => exact ⟨[], [], [], rfl, rfl, by simp, .inl ⟨rfl, rfl⟩⟩
  | ch hc h ih =>
    rename_i c t r
    obtain ⟨pre, l', r', rfl, rfl, h1, h2⟩ := ih
    exact ⟨c :: pre, l', r', rfl, rfl, fun x hx => (List.mem_cons.1 hx).elim (fun e => e ▸ hc) (h1 x), h2⟩
  | es he h ih => exact ⟨[], _, _, rfl, rfl, by simp, .inr ⟨_, _, _, he, rfl, h⟩⟩
theorem Un.len {l r : List Int} (h : Un l r) : r.length ≤ l.length := by
  induction h with
  | nil => exact Nat.le_refl _
  | ch hc h ih => simp only [List.length_cons]; omega
  | es he h ih => have := he.two; rw [List.length_drop] at ih; rw [List.length_append]; omega
theorem byte92 (x : Int) (h0 : 0 ≤ x) (h1 : x < 256) (h : x ≠ 92) : (UInt8.ofNat x.toNat == (92 : Int).toNat.toUInt8) = false := by
  apply beq_eq_false_iff_ne.2
  intro he
  have h2 := congrArg UInt8.toNat he
  have h3 : (UInt8.ofNat x.toNat).toNat = x.toNat := by simp; omega
  rw [h3] at h2
  have h4 : ((92 : Int).toNat.toUInt8).toNat = 92 := by decide
  omega
theorem idx_none (pre : List Int) (h : ∀ x ∈ pre, x ≠ 92 ∧ 0 ≤ x ∧ x < 256) : Lib.indexByte (Lib.bytesOf pre) (92 : Int).toNat.toUInt8 = -1 := by
  induction pre with
  | nil => rfl
  | cons c t ih =>
    have hc := h c (by simp)
    show (if UInt8.ofNat c.toNat == (92 : Int).toNat.toUInt8 then 0 else if Lib.indexByte (Lib.bytesOf t) (92 : Int).toNat.toUInt8 == -1 then -1 else Lib.indexByte (Lib.bytesOf t) (92 : Int).toNat.toUInt8 + 1) = -1
    rw [byte92 c hc.2.1 hc.2.2 hc.1, ih (fun x hx => h x (by simp [hx]))]
    rfl
theorem idx_at (pre t : List Int) (h : ∀ x ∈ pre, x ≠ 92 ∧ 0 ≤ x ∧ x < 256) : Lib.indexByte (Lib.bytesOf (pre ++ 92 :: t)) (92 : Int).toNat.toUInt8 = (pre.length : Int) := by
  induction pre with
  | nil => rfl
  | cons c u ih =>
    have hc := h c (by simp)
    show (if UInt8.ofNat c.toNat == (92 : Int).toNat.toUInt8 then 0 else if Lib.indexByte (Lib.bytesOf (u ++ 92 :: t)) (92 : Int).toNat.toUInt8 == -1 then -1 else Lib.indexByte (Lib.bytesOf (u ++ 92 :: t)) (92 : Int).toNat.toUInt8 + 1) = ((u.length + 1 : Nat) : Int)
    rw [byte92 c hc.2.1 hc.2.2 hc.1, ih (fun x hx => h x (by simp [hx]))]
    have : (((u.length : Int)) == -1) = false := beq_eq_false_iff_ne.2 (by omega)
    rw [this]
    simp
/-- copy into a row, beside which all is kept. -/
theorem copy_bes {P : Program} {w : World} {ops : Array Oper} {rest : List Oper} {o : Oper} {a : Act} {Q : Exit → Act → World → Prop} (hgd : o.guard = none) (d s : Operand) (dT sT : TypeId)
    (ho : o.op = .call { callee := .builtin .copy, args := #[d, s], argTypes := #[dT, sT] }) (elem : TypeId) (hu : P.underlying dT = some (.slice elem)) (hsz : (P.info? elem).map (·.size) = some 1)
    (dp sp : Option Addr) (dLen dCap sLen sCap : Nat) (hd : a.eval d = .slice dp dLen dCap) (hs : a.eval s = .slice sp sLen sCap)
    (g off : Nat) (cur : List Value) (t : TypeId) (hg : w.heap[g]? = some (.cells cur.toArray t (0, 0))) (cs : List Value) (hn : cs.length = Nat.min sLen dLen)
    (hpos : 0 < cs.length → dp = some ⟨g, off, none⟩ ∧ ∃ ad, sp = some ad ∧ ∀ j v, cs[j]? = some v → w.cell? (ad.add j) = some v)
    (hfit : off + cs.length ≤ cur.length) (h1 : ∀ v ∈ cs, v.oneCell' = true) (K : Nat → Prop) (w0 : World) (hb : Bes K w0 w) (hBg : K g)
    (h : ∀ w', Hid (w'.heap[g]? = some (.cells (splice cur off cs).toArray t (0, 0))) → Bes K w0 w' → wpList P ops Q rest (a.put o.dst (goInt cs.length)) w') :
    wpList P ops Q (o :: rest) a w := by
  by_cases h0 : cs.length = 0
  · obtain rfl : cs = [] := List.eq_nil_of_length_eq_zero h0
    refine wpList_copy_nothing hgd d s dT sT ho elem hu hsz dp sp dLen dCap sLen sCap hd hs (by simpa using hn.symm) ?_
    exact h w (show _ = _ by simpa [splice] using hg) hb
  · obtain ⟨rfl, ad, rfl, hsrc⟩ := hpos (by omega)
    refine wpList_copy_own hgd d s dT sT ho elem hu hsz g off dLen dCap ad sLen sCap hd hs cur.toArray t hg cs hn hsrc (by simpa using hfit) h1 ?_
    refine h _ (show _ = _ by simpa [splice] using setRow_heap w g _ _ t _ hg) (hb.trans ⟨rfl, rfl, rfl, by simp [World.setRow], fun k hk hq => setRow_other w g k _ (fun e => hq (e ▸ hBg))⟩)
/-- copy of some bytes into the row. -/
theorem copy_step {ops : Array Oper} {rest : List Oper} {o : Oper} {a : Act} {Q : Exit → Act → World → Prop} (hgd : o.guard = none) (d s : Operand)
    (ho : o.op = .call { callee := .builtin .copy, args := #[d, s], argTypes := #[51, 51] }) (dp sp : Option Addr) (dLen dCap sLen sCap : Nat) (hd : a.eval d = .slice dp dLen dCap) (hs : a.eval s = .slice sp sLen sCap)
    (g off : Nat) (out : List Int) (t : TypeId) (P : Nat → Prop) (w0 W : World) (hO : Ob g t out W) (ch : List Int) (hn : ch.length = Nat.min sLen dLen) (hpos : 0 < ch.length → dp = some ⟨g, off, none⟩ ∧ ∃ b o', sp = some ⟨b, o', none⟩ ∧ Hd b o' ch W)
    (hfit : off + ch.length ≤ out.length) (hb : Bes P w0 W) (hg : P g)
    (h : ∀ W2, Ob g t (splice out off ch) W2 → Bes P w0 W2 → wpList Tryz.prog ops Q rest (a.put o.dst (goInt ch.length)) W2) : wpList Tryz.prog ops Q (o :: rest) a W := by
  refine copy_bes hgd d s 51 51 ho 5 Tryz.underlying51 (by kernel_rfl) dp sp dLen dCap sLen sCap hd hs g off (nums .u8 out) t hO.row (nums .u8 ch) (by simpa [nums] using hn) (fun hp => ?_) (by simpa [nums] using hfit) (fun v hv => ?_) P w0 hb hg (fun W2 h2 hb2 => ?_)
  · obtain ⟨h1, b, o', h2, h3⟩ := hpos (by simpa [nums] using hp)
    refine ⟨h1, _, h2, fun j v hv => ?_⟩
    have hj : j < ch.length := by
      have := (List.getElem?_eq_some_iff.1 hv).1
      simpa [nums] using this
    rw [show (⟨b, o', none⟩ : Addr).add j = ⟨b, o' + j, none⟩ by simp [Addr.add], h3.cell j hj]
    simp [nums, hj] at hv
    rw [← hv]
    simp [List.getD_eq_getElem?_getD, hj]
  · simp only [nums, List.mem_map] at hv
    obtain ⟨x, _, rfl⟩ := hv
    rfl
  · have hlen : (nums .u8 ch).length = ch.length := by simp [nums]
    have h3 := h W2 ⟨by
      have h4 := h2.out
      rw [h4]
      congr 2
      simp [splice, nums, List.map_take, List.map_drop]⟩ hb2
    rwa [hlen]
end Go.Proofs.YtpdohioobbfncaaGreatDoor.PFnJpWildStop/- jsonparser's Unescape of a text whose escapes are RFC 8259's: the walk over the whole text; no condition beside those that each theorem states. -/
namespace Go.Proofs.YtpdohioobbfncaaGreatDoor.PFnJpWildStop
open Go.RowKit Go.Proofs.YtpdohioobbfncaaGreatDoorW.PrintWords Go.Proofs.YtpdohioobbfncaaGreatDoorW.PrintLast Go.Proofs.YtpdohioobbfncaaGreatDoorW.PrintMore
set_option linter.unusedVariables false
set_option linter.unusedSimpArgs false
theorem Hd.bes {b o : Nat} {l : List Int} {P : Nat → Prop} {W W' : World} (h : Hd b o l W) (hp : ¬ P b) (hb : Bes P W W') : Hd b o l W' := ⟨fun i hi => hb.cell hp (h.cell i hi)⟩
/-- What stands at the head of a round: the escape at hand, what is behind it, what is written. -/
structure Rd (b g n : Nat) (t : TypeId) (l' : List Int) (oi ci j bl bc oc : Nat) (out : List Int) (m : Nat) (e r2 r : List Int) (P : Nat → Prop) (w0 W : World) : Prop where
  glob : ∀ W, Bes P w0 W → Glob W
  hd : ∀ W, Bes P w0 W → Hd b oi l' W
  hc : l'.length ≤ ci
  es : Es l' m e
  un : Un (l'.drop m) r2
  rng : ∀ x ∈ l', 0 ≤ x ∧ x < 256
  hb : l'.length ≤ bl
  hj : j + bl = n
  hbc : bc = bl + (oc - n)
  hno : n ≤ oc
  ho : out.length = oc
  res : out.take j ++ (e ++ r2) = r
  ob : Ob g t out W
  below : Bes P w0 W
  hg : P g
  hz : n ≤ 140737488355328
def lenOf : Value → Nat
  | .slice _ n _ => n
  | _ => 0
/-- The text behind an escape. -/
theorem Rd.next {b g n : Nat} {t : TypeId} {l' : List Int} {oi ci j bl bc oc : Nat} {out : List Int} {m : Nat} {e r2 r : List Int} {P : Nat → Prop} {w0 W W2 : World} (h : Rd b g n t l' oi ci j bl bc oc out m e r2 r P w0 W)
    {pre l3 : List Int} {m3 : Nat} {e3 r4 : List Int} (e1 : l'.drop m = pre ++ l3) (e2 : r2 = pre ++ (e3 ++ r4)) (hes : Es l3 m3 e3) (hun : Un (l3.drop m3) r4) (hO : Ob g t (splice (wrt out j e) (j + e.length) pre) W2) (hb : Bes P w0 W2) :
    Rd b g n t l3 (oi + m + pre.length) (ci - m - pre.length) (j + e.length + pre.length) (bl - e.length - pre.length) (bc - e.length - pre.length) oc (splice (wrt out j e) (j + e.length) pre) m3 e3 r4 r P w0 W2 := by
  have h2 := h.es.two
  have hlen : l'.length - m = pre.length + l3.length := by rw [← List.length_drop, e1, List.length_append]
  have hho := h.ho
  have hhj := h.hj
  have hhb := h.hb
  have hhc := h.hc
  have hno := h.hno
  have hbc := h.hbc
  have hwl := wr_len e out j
  have hsp : (splice (wrt out j e) (j + e.length) pre).length = oc := by rw [splice_len _ _ _ (by rw [hwl]; omega), hwl, hho]
  refine ⟨h.glob, fun W hW => ?_, by omega, hes, hun, fun x hx => ?_, by omega, by omega, by omega, hno, hsp, ?_, hO, hb, h.hg, h.hz⟩
  · have hH := (h.hd W hW).drop m
    rw [e1] at hH
    have hH2 := hH.drop pre.length
    rwa [List.drop_left] at hH2
  · exact h.rng x (List.mem_of_mem_drop (i := m) (by rw [e1]; simp [hx]))
  · rw [splice_take _ _ _ (by rw [hwl]; omega), wr_take _ _ _ (by omega), ← h.res, e2]
    simp
/-- No escape behind. -/
theorem Rd.last {b g n : Nat} {t : TypeId} {l' : List Int} {oi ci j bl bc oc : Nat} {out : List Int} {m : Nat} {e r2 r : List Int} {P : Nat → Prop} {w0 W W2 : World} (h : Rd b g n t l' oi ci j bl bc oc out m e r2 r P w0 W)
    (e1 : l'.drop m = r2) (hO : Ob g t (splice (wrt out j e) (j + e.length) r2) W2) :
    j + e.length + r2.length = r.length ∧ ∃ out, out.length = oc ∧ out.take r.length = r ∧ Ob g t out W2 := by
  have h2 := h.es.two
  have hno := h.hno
  have hlen : l'.length - m = r2.length := by rw [← List.length_drop, e1]
  have hho := h.ho
  have hhj := h.hj
  have hhb := h.hb
  have hwl := wr_len e out j
  have hrl : j + e.length + r2.length = r.length := by
    rw [← h.res, List.length_append, List.length_append, List.length_take]
    omega
  refine ⟨hrl, _, ?_, ?_, hO⟩
  · rw [splice_len _ _ _ (by rw [hwl]; omega), hwl, hho]
  · rw [← hrl, splice_take _ _ _ (by rw [hwl]; omega), wr_take _ _ _ (by omega), ← h.res]
    simp
/-- The row that unescapeConfig gives. -/
def UnPost (g oc : Nat) (t : TypeId) (r : List Int) (P : Nat → Prop) (w : World) (e' : Ending) (w' : World) : Prop := e' = .returned (.tuple #[.slice (some ⟨g, 0, none⟩) r.length oc, .nilIface]) ∧ r.length ≤ oc ∧ (∃ out, out.length = oc ∧ out.take r.length = r ∧ Ob g t out w') ∧ Bes P w w'
set_option maxHeartbeats 16000000 in
set_option maxRecDepth 100000 in
/-- The buffer that is handed over. -/
theorem unesc_buf (l r : List Int) (hU : Un l r) (b o n c : Nat) (hl : l.length = n) (hc : n ≤ c) (hz : n ≤ 140737488355328) (hr : ∀ x ∈ l, 0 ≤ x ∧ x < 256) (h92 : 92 ∈ l) (g oc : Nat) (t : TypeId) (out0 : List Int) (hoc : n ≤ oc) (hbg : b ≠ g)
    (w : World) (hG : ∀ W, Bes (fun k => k = g) w W → Glob W) (hH : Hd b o l w) (hO0 : Ob g t out0 w) (hol : out0.length = oc) :
    Calls Tryz.prog 54 #[cfgV, .slice (some ⟨b, o, none⟩) n c, .slice (some ⟨g, 0, none⟩) oc oc] w (UnPost g oc t r (fun k => k = g) w) := by
  obtain ⟨pre, l', r', e1, e2, h1, h2⟩ := hU.split
  rcases h2 with ⟨rfl, rfl⟩ | ⟨m0, es0, r20, hes, rfl, hun⟩
  · rw [List.append_nil] at e1
    rw [e1] at h92
    exact absurd rfl (h1 92 h92)
  have hpl : pre.length + l'.length = n := by rw [← hl, e1, List.length_append]
  have hm0 := hes.two
  obtain ⟨t', ht'⟩ := hes.head
  have hrp : ∀ x ∈ pre, x ≠ 92 ∧ 0 ≤ x ∧ x < 256 := fun x hx => ⟨h1 x hx, hr x (by rw [e1]; simp [hx])⟩
  have hrl : ∀ x ∈ l', 0 ≤ x ∧ x < 256 := fun x hx => hr x (by rw [e1]; simp [hx])
  have hix := idx_at pre t' hrp
  rw [← ht', ← e1] at hix
  have hb1 := fun (t1 : TypeId) => below_alloc_ w (.cells #[.bool false, .bool false, .int .i64 0] t1)
  have k0 := fun (t1 : TypeId) => Tryz.bytes_IndexByte b o n c l 92 (w.alloc (.cells #[.bool false, .bool false, .int .i64 0] t1)) hl (fun i hi => (hH.more (hb1 t1)).cell i (by omega))
  rw [hix] at k0
  obtain ⟨p, hp⟩ : ∃ p, pre.length = p := ⟨_, rfl⟩
  rw [hp] at k0 hpl
  have hN : (w.alloc (.cells #[.bool false, .bool false, .int .i64 0] 72)).heap.size = w.heap.size + 1 := Go.Deep.nblk_alloc _ _
  have HN := Aside0.mk hN
  obtain ⟨P, hP⟩ : ∃ P : Nat → Prop, P = (fun k => k = g) := ⟨_, rfl⟩
  have hPG : P g := by rw [hP]; skip
  have hPc : ¬ P w.heap.size := by rw [hP]; exact Nat.ne_of_gt hO0.lt
  have hB1 := below_alloc_ w (.cells #[.bool false, .bool false, .int .i64 0] 72)
  have hBW : ∀ W, Bes P (w.alloc (.cells #[.bool false, .bool false, .int .i64 0] 72)) W → Bes (fun k => k = g) w W := fun W hW => by
    rw [hP] at hW; exact (Bes.of_below hB1).trans hW
  have HG1 := Aside0.mk (show ∀ W, Bes P (w.alloc (.cells #[.bool false, .bool false, .int .i64 0] 72)) W → Glob W from fun W hW => hG W (hBW W hW))
  have HD1 := Aside0.mk (show ∀ W, Bes P (w.alloc (.cells #[.bool false, .bool false, .int .i64 0] 72)) W → ∀ (o : Nat) (l : List Int), Hd b o l w → Hd b o l W from fun W hW o l h => h.bes hbg (hBW W hW))
  have HBW := Aside0.mk hBW
  have HPG := Aside0.mk hPG
  have HPre := Aside0.mk (show Hd b o pre w from ⟨fun i hi => by
    rw [hH.cell i (by rw [e1, List.length_append]; omega), e1]
    simp [List.getD_eq_getElem?_getD, List.getElem?_append_left hi]⟩)
  have HL := Aside0.mk (show Hd b (o + p) l' w from by
    have h3 := hH.drop pre.length
    rw [e1, List.drop_left, hp] at h3
    exact h3)
  have q1 : ((p : Int) == -1) = false := beq_eq_false_iff_ne.2 (by omega)
  have q2 : (p : Int) ≤ (n : Int) := by omega
  have q2' : p ≤ n := by omega
  have q3 : p ≤ c := by omega
  have q4 : c ≠ p := by omega
  have q5 : n ≠ p := by omega
  have q6 : decide ((oc : Int) < (n : Int)) = false := decide_eq_false (by omega)
  have q8 : (n : Int) ≤ (oc : Int) := by omega
  have q9 : oc ≠ p := by omega
  have q10 : p ≤ oc := by omega
  have q7 : 0 < n := by omega
  have HF := Aside0.mk (And.intro hp (And.intro hpl (And.intro hm0 (And.intro hes (And.intro hun (And.intro hrl (And.intro hc (And.intro hz (And.intro hoc hol)))))))))
  have HE2 := Aside0.mk e2
  have HC := Aside0.mk (show ∀ W, Bes P (w.alloc (.cells #[.bool false, .bool false, .int .i64 0] 72)) W → W.cell? ⟨w.heap.size, 0, none⟩ = some (.bool false) ∧ W.cell? ⟨w.heap.size, 1, none⟩ = some (.bool false) ∧ W.cell? ⟨w.heap.size, 2, none⟩ = some (.int .i64 0) from fun W hW => by
    have k := heap_alloc_new w (.cells #[.bool false, .bool false, .int .i64 0] 72)
    exact ⟨hW.cell hPc ((blk_cell k 0).trans rfl), hW.cell hPc ((blk_cell k 1).trans rfl), hW.cell hPc ((blk_cell k 2).trans rfl)⟩)
  have HO1 := Aside0.mk (hO0.more hB1)
  clear hN hl hc hz hr h92 hG hH e1 e2 hpl hm0 ht' hrp hrl hix hun hes hU hp h1 hb1 hP hPG hPc hB1 hBW hoc hol hO0 hbg
  go_enter Tryz.func54, Tryz.ntmps54
  go_wp2_with (first | (go_at_call 74; (with_reducible refine (k0 _).mono ?_); rintro e w1 ⟨rfl, rfl⟩; clear k0) | ((with_reducible refine gate_builtin (b := .copy) (xs := #[.tmp 30, .tmp 33]) rfl ?_); refine copy_step rfl (.tmp 30) (.tmp 33) rfl _ _ _ _ _ _ rfl rfl g 0 out0 t P (w.alloc (.cells #[.bool false, .bool false, .int .i64 0] 72)) _ ?hO pre ?hn ?hpos ?hfit ?hb HPG.out ?_; (case hO => exact HO1.out); (case hn => rw [HF.out.1]; exact (Nat.min_eq_left (by have := HF.out.2.1; omega)).symm); (case hpos => intro _; exact ⟨rfl, b, o, rfl, HD1.out _ (Bes.refl _ _) _ _ HPre.out⟩); (case hfit => rw [HF.out.1, HF.out.2.2.2.2.2.2.2.2.2]; have := HF.out.2.1; have := HF.out.2.2.2.2.2.2.2.2.1; omega); (case hb => exact Bes.refl _ _); intro w2 hO2 hb2; have HO2 := Aside0.mk hO2; have HB2 := Aside0.mk hb2; clear hO2 hb2))
  obtain ⟨W1, hW1⟩ : ∃ W1, w.alloc (.cells #[.bool false, .bool false, .int .i64 0] 72) = W1 := ⟨_, rfl⟩
  rw [hW1] at HB2 HC HG1 HD1 HBW
  clear hW1 HPre HO1 HN
  have HR0 := Aside0.mk (show Rd b g n t l' (o + p) (c - p) p (n - p) (oc - p) oc (splice out0 0 pre) m0 es0 r20 r P W1 w2 from by
    obtain ⟨hp, hpl, hm0, hes, hun, hrl, hc, hz, hno, hol⟩ := HF.out
    have hs : (splice out0 0 pre).length = oc := by rw [splice_len _ _ _ (by rw [hol]; omega), hol]
    refine ⟨HG1.out, fun W hW => HD1.out W hW _ _ HL.out, by omega, hes, hun, hrl, by omega, by omega, by omega, hno, hs, ?_, HO2.out, HB2.out, HPG.out, hz⟩
    have h3 := splice_take out0 pre 0 (by rw [hol]; omega)
    rw [Nat.zero_add, hp] at h3
    rw [h3, HE2.out]
    simp)
  have hLn : n - p = l'.length := by have := HF.out.2.1; omega
  have HLn := Aside0.mk hLn
  rw [hLn]
  clear hLn
  go_loopw [1, 9] (fun vi vb wr => ∃ (l' : List Int) (oi ci j bl bc : Nat) (out : List Int) (m : Nat) (e r2 : List Int), vi = .slice (some ⟨b, oi, none⟩) l'.length ci ∧ vb = .slice (some ⟨g, j, none⟩) bl bc ∧ Aside0 (Rd b g n t l' oi ci j bl bc oc out m e r2 r P W1 wr)) (fun vi _ _ => lenOf vi)
  case atStart => exact ⟨l', _, _, _, _, _, _, _, _, _, rfl, by first | rfl | (rw [HLn.out]), HR0⟩
  case round =>
    clear HR0 HO2 HB2 HL HF HE2 HLn HG1 HD1
    obtain ⟨l1, oi, ci, j, bl, bc, out, m, e, r2, rfl, rfl, HR⟩ := hrel
    have hc3 := HC.out wr HR.out.below
    have g0 := hc3.1
    have g1 := hc3.2.1
    have g2 := hc3.2.2
    clear hc3
    have h2 := HR.out.es.two
    have hhb := HR.out.hb
    have hhc := HR.out.hc
    have hhj := HR.out.hj
    have hho := HR.out.ho
    have hhz := HR.out.hz
    have hbc := HR.out.hbc
    have hno := HR.out.hno
    have hwl := wr_len e out j
    have k1 := one_calls l1 m e HR.out.es (by omega) b oi ci g j bl bc t out hhc hhb (by omega) P W1 wr (HR.out.glob _ HR.out.below) (HR.out.hd _ HR.out.below) HR.out.below HR.out.hg HR.out.ob
    obtain ⟨pre, l3, r3, e1, e2, h1, h3⟩ := HR.out.un.split
    have hlen : l1.length - m = pre.length + l3.length := by rw [← List.length_drop, e1, List.length_append]
    have hrng : ∀ x ∈ pre, x ≠ 92 ∧ 0 ≤ x ∧ x < 256 := fun x hx => ⟨h1 x hx, HR.out.rng x (List.mem_of_mem_drop (i := m) (by rw [e1]; simp [hx]))⟩
    have hH := fun (W : World) (hW : Bes P W1 W) => (HR.out.hd W hW).drop m
    have hdl : (l1.drop m).length = l1.length - m := List.length_drop
    have k2 := fun (W : World) (hW : Bes P W1 W) => Tryz.bytes_IndexByte b (oi + m) (l1.length - m) (ci - m) (l1.drop m) 92 W hdl (fun i hi => (hH W hW).cell i (by rw [hdl]; exact hi))
    have hHp := fun (W : World) (hW : Bes P W1 W) => hH W hW
    rw [e1] at k2 hHp
    have HPr := Aside0.mk (show ∀ W, Bes P W1 W → Hd b (oi + m) pre W from fun W hW => ⟨fun i hi => by
      rw [(hHp W hW).cell i (by rw [List.length_append]; omega)]
      simp [List.getD_eq_getElem?_getD, List.getElem?_append_left hi]⟩)
    have k3 : ∀ W, Calls Tryz.prog 74 #[.slice (some ⟨b, oi, none⟩) 0 0, .int .u8 92] W fun e w' => e = .returned (.int .i64 (-1)) ∧ w' = W := fun W => Tryz.bytes_IndexByte b oi 0 0 [] 92 W rfl (fun i hi => absurd hi (Nat.not_lt_zero _))
    clear hH hHp hdl
    have m1 : ((m : Int) == -1) = false := beq_eq_false_iff_ne.2 (by omega)
    rcases h3 with ⟨rfl, rfl⟩ | ⟨m3, e3, r4, hes, rfl, hun⟩
    · rw [List.append_nil] at e1 e2 k2
      have hi2 := idx_none pre hrng
      rw [hi2] at k2
      obtain ⟨L, hL⟩ : ∃ L, l1.length = L := ⟨_, rfl⟩
      obtain ⟨el, hel⟩ : ∃ el, e.length = el := ⟨_, rfl⟩
      have HS := Aside0.mk (show ∀ W2, Ob g t (splice (wrt out j e) (j + el) pre) W2 → j + el + (L - m) = r.length ∧ ∃ out, out.length = oc ∧ out.take r.length = r ∧ Ob g t out W2 from fun W2 hO => by
        have h5 := HR.out.last (e1.trans e2.symm) (by rw [hel, e2]; exact hO)
        rw [hel, e2] at h5
        rw [hL] at hlen
        rw [hlen]
        simpa using h5)
      rw [hL] at k1 k2 hlen hhb hhc h2 ⊢
      rw [hel] at k1 h2
      simp only [List.length_nil, Nat.add_zero] at hlen
      have HZ := Aside0.mk (And.intro hlen (And.intro hhb (And.intro hhc (And.intro h2 (And.intro hhj (And.intro hho hwl))))))
      have HNo := Aside0.mk hno
      have a1 : m ≤ L := h2.2.1
      have a1' : (m : Int) ≤ (L : Int) := by omega
      have a2 : el ≤ bl := by omega
      have a2' : (el : Int) ≤ (bl : Int) := by omega
      have a3 : bc ≠ el := by omega
      have a4 : L - m ≤ bl - el := by omega
      have a4' : ((L - m : Nat) : Int) ≤ ((bl - el : Nat) : Int) := by omega
      have a5 : bc - el ≠ L - m := by omega
      have a6 : (bl - el - (L - m)) ≤ n := by omega
      have a6' : ((bl - el - (L - m) : Nat) : Int) ≤ (n : Int) := by omega
      have a8 : (bl ≤ el) = False := eq_false (by omega)
      have a9 : (n : Int) ≤ 140737488355328 := by omega
      have aB : (n : Int) - ((bl - el - (L - m) : Nat) : Int) ≤ (oc : Int) := by omega
      have a7 : ((n : Int) - ((bl - el - (L - m) : Nat) : Int)).toNat = j + el + (L - m) := by omega
      have HA7 := Aside0.mk a7
      by_cases hcm : ci = m
      · obtain rfl : L = m := by omega
        subst hcm
        clear a7 hbc hno hlen hhb hhc h2 hhj hho hwl hrng hi2 hL hel e1 e2 k2 h1 hhz
        simp only [Nat.sub_self, Nat.sub_zero] at a4 a4' a5 a6 a6' aB
        dsimp only [cfgV] at k1
        go_wp2_with (first | (go_at_call 75; (with_reducible refine k1.mono ?_); rintro e w1 ⟨rfl, HB, HW⟩; have H2 := Aside0.mk HB; have H3 := Aside0.mk HW; clear HB HW k1) | (go_at_call 74; (with_reducible refine (k3 _).mono ?_); rintro e w2 ⟨rfl, rfl⟩; clear k3) | ((with_reducible refine gate_builtin (b := .copy) (xs := #[.tmp 61, .tmp 62]) rfl ?_); refine copy_step rfl (.tmp 61) (.tmp 62) rfl _ _ _ _ _ _ rfl rfl g (j + el) (wrt out j e) t P W1 _ H2.out pre ?hn ?hpos ?hfit H3.out HR.out.hg ?_; (case hn => have h_ := HZ.out.1; rw [Nat.sub_self] at h_; rw [← h_]; exact (Nat.zero_min _).symm); (case hpos => intro h; have := HZ.out.1; omega); (case hfit => have := HZ.out; omega); intro w3 hO3 hb3; have HO3 := Aside0.mk hO3; have HB3 := Aside0.mk hb3; clear hO3 hb3))
        go_ret2
        have h5 := HS.out _ HO3.out
        refine ⟨?_, by have h6 := HZ.out; have h7 := HNo.out; omega, h5.2, HBW.out _ HB3.out⟩
        show Ending.returned (.tuple #[.slice (some ⟨g, 0, none⟩) (n - (bl - el)) oc, .nilIface]) = .returned (.tuple #[.slice (some ⟨g, 0, none⟩) r.length oc, .nilIface])
        have h6 := HZ.out
        rw [show n - (bl - el) = r.length from by omega]
      · have k2b := k2
        clear a7 hbc hno hlen hhb hhc h2 hhj hho hwl hrng hi2 hL hel e1 e2 k2 h1 hhz k3
        dsimp only [cfgV] at k1
        go_wp2_with (first | (go_at_call 75; (with_reducible refine k1.mono ?_); rintro e w1 ⟨rfl, HB, HW⟩; have H2 := Aside0.mk HB; have H3 := Aside0.mk HW; clear HB HW k1) | (go_at_call 74; (with_reducible refine (k2b _ H3.out).mono ?_); rintro e w2 ⟨rfl, rfl⟩; clear k2b) | ((with_reducible refine gate_builtin (b := .copy) (xs := #[.tmp 61, .tmp 62]) rfl ?_); refine copy_step rfl (.tmp 61) (.tmp 62) rfl _ _ _ _ _ _ rfl rfl g (j + el) (wrt out j e) t P W1 _ H2.out pre ?hn ?hpos ?hfit H3.out HR.out.hg ?_; (case hn => rw [← HZ.out.1]; exact (Nat.min_eq_left a4).symm); (case hpos => intro _; exact ⟨rfl, b, _, rfl, HPr.out _ H3.out⟩); (case hfit => have := HZ.out; omega); intro w3 hO3 hb3; have HO3 := Aside0.mk hO3; have HB3 := Aside0.mk hb3; clear hO3 hb3))
        go_ret2
        have h5 := HS.out _ HO3.out
        refine ⟨?_, by have h6 := HZ.out; have h7 := HNo.out; omega, h5.2, HBW.out _ HB3.out⟩
        show Ending.returned (.tuple #[.slice (some ⟨g, 0, none⟩) (n - (bl - el - (L - m))) oc, .nilIface]) = .returned (.tuple #[.slice (some ⟨g, 0, none⟩) r.length oc, .nilIface])
        have h6 := HZ.out
        rw [show n - (bl - el - (L - m)) = r.length from by omega]
    · obtain ⟨t3, ht3⟩ := hes.head
      have hi2 := idx_at pre t3 hrng
      rw [← ht3] at hi2
      rw [hi2] at k2
      have h23 := hes.two
      obtain ⟨L, hL⟩ : ∃ L, l1.length = L := ⟨_, rfl⟩
      obtain ⟨el, hel⟩ : ∃ el, e.length = el := ⟨_, rfl⟩
      obtain ⟨q, hq⟩ : ∃ q, pre.length = q := ⟨_, rfl⟩
      have HS := Aside0.mk (show ∀ W2, Ob g t (splice (wrt out j e) (j + el) pre) W2 → Bes P W1 W2 → Rd b g n t l3 (oi + m + q) (ci - m - q) (j + el + q) (bl - el - q) (bc - el - q) oc (splice (wrt out j e) (j + el) pre) m3 e3 r4 r P W1 W2 from fun W2 hO hB => by
        rw [← hel, ← hq]
        exact HR.out.next e1 e2 hes hun (by rw [hel]; exact hO) hB)
      rw [hL] at k1 k2 hlen hhb hhc h2 ⊢
      rw [hel] at k1 h2
      rw [hq] at hlen k2
      have HZ := Aside0.mk (And.intro hlen (And.intro hhb (And.intro hhc (And.intro h2 (And.intro hhj (And.intro hho (And.intro hwl (And.intro h23 hq))))))))
      have a1 : m ≤ L := h2.2.1
      have a1' : (m : Int) ≤ (L : Int) := by omega
      have a2 : el ≤ bl := by omega
      have a2' : (el : Int) ≤ (bl : Int) := by omega
      have a3 : bc ≠ el := by omega
      have a4 : q ≤ L - m := by omega
      have a4' : (q : Int) ≤ ((L - m : Nat) : Int) := by omega
      have a5 : ci - m ≠ q := by omega
      have a6 : q ≤ bl - el := by omega
      have a6' : (q : Int) ≤ ((bl - el : Nat) : Int) := by omega
      have a7 : bc - el ≠ q := by omega
      have a8 : q ≤ ci - m := by omega
      have a9 : ((q : Int) == -1) = false := beq_eq_false_iff_ne.2 (by omega)
      have a10 : ci ≠ m := by omega
      have HL3 := Aside0.mk (show L - m - q = l3.length from by omega)
      have HMs := Aside0.mk (show l3.length < L from by omega)
      clear hbc hno hlen hhb hhc h2 hhj hho hwl hrng hi2 hL hel e1 e2 h1 hhz k3 h23 hes hun ht3 hq
      dsimp only [cfgV] at k1
      go_wp2_with (first | (go_at_call 75; (with_reducible refine k1.mono ?_); rintro e w1 ⟨rfl, HB, HW⟩; have H2 := Aside0.mk HB; have H3 := Aside0.mk HW; clear HB HW k1) | (go_at_call 74; (with_reducible refine (k2 _ H3.out).mono ?_); rintro e w2 ⟨rfl, rfl⟩; clear k2) | ((with_reducible refine gate_builtin (b := .copy) (xs := #[.tmp 68, .tmp 71]) rfl ?_); refine copy_step rfl (.tmp 68) (.tmp 71) rfl _ _ _ _ _ _ rfl rfl g (j + el) (wrt out j e) t P W1 _ H2.out pre ?hn ?hpos ?hfit H3.out HR.out.hg ?_; (case hn => rw [HZ.out.2.2.2.2.2.2.2.2]; exact (Nat.min_eq_left a6).symm); (case hpos => intro _; exact ⟨rfl, b, _, rfl, HPr.out _ H3.out⟩); (case hfit => have := HZ.out; omega); intro w3 hO3 hb3; have HO3 := Aside0.mk hO3; have HB3 := Aside0.mk hb3; clear hO3 hb3))
      go_roundw
      case rel => exact ⟨l3, _, _, _, _, _, _, _, _, _, by rw [HL3.out], rfl, ⟨HS.out _ HO3.out HB3.out⟩⟩
      case measure => show L - m - q < L; rw [HL3.out]; exact HMs.out
set_option maxHeartbeats 16000000 in
set_option maxRecDepth 100000 in
/-- A buffer of its own: what is handed over is too small. -/
theorem unesc_made (l r : List Int) (hU : Un l r) (b o n c : Nat) (hl : l.length = n) (hc : n ≤ c) (hz : n ≤ 140737488355328) (hr : ∀ x ∈ l, 0 ≤ x ∧ x < 256) (h92 : 92 ∈ l) (A1 : Option Addr) (ol oc0 : Nat) (hoc : oc0 < n)
    (w : World) (hG : Glob w) (hH : Hd b o l w) :
    Calls Tryz.prog 54 #[cfgV, .slice (some ⟨b, o, none⟩) n c, .slice A1 ol oc0] w (UnPost (w.heap.size + 1) n 5 r (fun k => w.heap.size ≤ k) w) := by
  obtain ⟨pre, l', r', e1, e2, h1, h2⟩ := hU.split
  rcases h2 with ⟨rfl, rfl⟩ | ⟨m0, es0, r20, hes, rfl, hun⟩
  · rw [List.append_nil] at e1
    rw [e1] at h92
    exact absurd rfl (h1 92 h92)
  have hpl : pre.length + l'.length = n := by rw [← hl, e1, List.length_append]
  have hm0 := hes.two
  obtain ⟨t', ht'⟩ := hes.head
  have hrp : ∀ x ∈ pre, x ≠ 92 ∧ 0 ≤ x ∧ x < 256 := fun x hx => ⟨h1 x hx, hr x (by rw [e1]; simp [hx])⟩
  have hrl : ∀ x ∈ l', 0 ≤ x ∧ x < 256 := fun x hx => hr x (by rw [e1]; simp [hx])
  have hix := idx_at pre t' hrp
  rw [← ht', ← e1] at hix
  have hb1 := fun (t1 : TypeId) => below_alloc_ w (.cells #[.bool false, .bool false, .int .i64 0] t1)
  have k0 := fun (t1 : TypeId) => Tryz.bytes_IndexByte b o n c l 92 (w.alloc (.cells #[.bool false, .bool false, .int .i64 0] t1)) hl (fun i hi => (hH.more (hb1 t1)).cell i (by omega))
  rw [hix] at k0
  obtain ⟨p, hp⟩ : ∃ p, pre.length = p := ⟨_, rfl⟩
  rw [hp] at k0 hpl
  have hmk := print_make (P := Tryz.prog) 51 5 .u8 1 Tryz.underlying51 (by kernel_rfl) (by decide) n (by omega)
  have HM := Aside0.mk (show ∀ W : World, Ob W.heap.size 5 (List.replicate n 0) (W.alloc (.cells (madeCells #[.int .u8 0] n) 5)) from fun W => ⟨by
    rw [heap_alloc_new]
    congr 2
    apply Array.ext
    · simp [nums, size_madeCells]
    · intro i h1 h2
      simp [nums, madeCells, Nat.mod_one]⟩)
  have HM2 := Aside0.mk (show ∀ ob : Obj, Ob (w.heap.size + 1) 5 (List.replicate n 0) ((w.alloc ob).alloc (.cells (madeCells #[.int .u8 0] n) 5)) from fun ob => by
    have h3 := HM.out (w.alloc ob)
    rwa [Go.Deep.nblk_alloc] at h3)
  have hN : (w.alloc (.cells #[.bool false, .bool false, .int .i64 0] 72)).heap.size = w.heap.size + 1 := Go.Deep.nblk_alloc _ _
  have HN := Aside0.mk hN
  obtain ⟨P, hP⟩ : ∃ P : Nat → Prop, P = (fun k => w.heap.size + 1 ≤ k) := ⟨_, rfl⟩
  have hPG : P (w.heap.size + 1) := by rw [hP]; exact Nat.le_refl _
  have hPc : ¬ P w.heap.size := by rw [hP]; exact Nat.not_succ_le_self _
  have hB1 := below_alloc_ w (.cells #[.bool false, .bool false, .int .i64 0] 72)
  have hBW : ∀ W, Bes P (w.alloc (.cells #[.bool false, .bool false, .int .i64 0] 72)) W → Bes (fun k => w.heap.size ≤ k) w W := fun W hW => by
    rw [hP] at hW; exact Bes.of_below (below_step hB1 (by rw [hN]; exact hW.below (Nat.le_of_eq hN.symm) (fun k hk => hk)))
  have HG1 := Aside0.mk (show ∀ W, Bes P (w.alloc (.cells #[.bool false, .bool false, .int .i64 0] 72)) W → Glob W from fun W hW => hG.below ((hBW W hW).below (Nat.le_refl _) (fun k hk => hk)))
  have HD1 := Aside0.mk (show ∀ W, Bes P (w.alloc (.cells #[.bool false, .bool false, .int .i64 0] 72)) W → ∀ (o : Nat) (l : List Int), Hd b o l w → Hd b o l W from fun W hW o l h => h.more ((hBW W hW).below (Nat.le_refl _) (fun k hk => hk)))
  have HBW := Aside0.mk hBW
  have HPG := Aside0.mk hPG
  have HPre := Aside0.mk (show Hd b o pre w from ⟨fun i hi => by
    rw [hH.cell i (by rw [e1, List.length_append]; omega), e1]
    simp [List.getD_eq_getElem?_getD, List.getElem?_append_left hi]⟩)
  have HL := Aside0.mk (show Hd b (o + p) l' w from by
    have h3 := hH.drop pre.length
    rw [e1, List.drop_left, hp] at h3
    exact h3)
  have q1 : ((p : Int) == -1) = false := beq_eq_false_iff_ne.2 (by omega)
  have q2 : (p : Int) ≤ (n : Int) := by omega
  have q2' : p ≤ n := by omega
  have q3 : p ≤ c := by omega
  have q4 : c ≠ p := by omega
  have q5 : n ≠ p := by omega
  have q6 : decide ((oc0 : Int) < (n : Int)) = true := decide_eq_true (by omega)
  have q7 : 0 < n := by omega
  have HF := Aside0.mk (And.intro hp (And.intro hpl (And.intro hm0 (And.intro hes (And.intro hun (And.intro hrl (And.intro hc (And.intro hz (Nat.le_refl n)))))))))
  have HE2 := Aside0.mk e2
  have HC := Aside0.mk (show ∀ W, Bes P (w.alloc (.cells #[.bool false, .bool false, .int .i64 0] 72)) W → W.cell? ⟨w.heap.size, 0, none⟩ = some (.bool false) ∧ W.cell? ⟨w.heap.size, 1, none⟩ = some (.bool false) ∧ W.cell? ⟨w.heap.size, 2, none⟩ = some (.int .i64 0) from fun W hW => by
    have k := heap_alloc_new w (.cells #[.bool false, .bool false, .int .i64 0] 72)
    exact ⟨hW.cell hPc ((blk_cell k 0).trans rfl), hW.cell hPc ((blk_cell k 1).trans rfl), hW.cell hPc ((blk_cell k 2).trans rfl)⟩)
  clear hN hl hc hz hr h92 hG hH e1 e2 hpl hm0 ht' hrp hrl hix hun hes hU hp h1 hb1 hP hPG hPc hB1 hBW
  go_enter Tryz.func54, Tryz.ntmps54
  go_wp2_with (first | (go_at_call 74; (with_reducible refine (k0 _).mono ?_); rintro e w1 ⟨rfl, rfl⟩; clear k0) | ((with_reducible refine gate_builtin (b := .copy) (xs := #[.tmp 30, .tmp 33]) rfl ?_); refine copy_step rfl (.tmp 30) (.tmp 33) rfl _ _ _ _ _ _ rfl rfl (w.heap.size + 1) 0 (List.replicate n 0) 5 P (w.alloc (.cells #[.bool false, .bool false, .int .i64 0] 72)) _ ?hO pre ?hn ?hpos ?hfit ?hb HPG.out ?_; (case hO => exact HM2.out _); (case hn => rw [HF.out.1]; exact (Nat.min_eq_left (by have := HF.out.2.1; omega)).symm); (case hpos => intro _; exact ⟨rfl, b, o, rfl, HD1.out _ (Bes.of_below (below_alloc_ _ _)) _ _ HPre.out⟩); (case hfit => rw [List.length_replicate, HF.out.1]; have := HF.out.2.1; omega); (case hb => exact Bes.of_below (below_alloc_ _ _)); intro w2 hO2 hb2; have HO2 := Aside0.mk hO2; have HB2 := Aside0.mk hb2; clear hO2 hb2))
  obtain ⟨W1, hW1⟩ : ∃ W1, w.alloc (.cells #[.bool false, .bool false, .int .i64 0] 72) = W1 := ⟨_, rfl⟩
  rw [hW1] at HB2 HC HG1 HD1 HBW
  clear hW1 HPre HM HM2 HN hmk
  have HR0 := Aside0.mk (show Rd b (w.heap.size + 1) n 5 l' (o + p) (c - p) p (n - p) (n - p) n (splice (List.replicate n 0) 0 pre) m0 es0 r20 r P W1 w2 from by
    obtain ⟨hp, hpl, hm0, hes, hun, hrl, hc, hz, hno⟩ := HF.out
    have hs : (splice (List.replicate n (0 : Int)) 0 pre).length = n := by rw [splice_len _ _ _ (by rw [List.length_replicate]; omega), List.length_replicate]
    refine ⟨HG1.out, fun W hW => HD1.out W hW _ _ HL.out, by omega, hes, hun, hrl, by omega, by omega, by omega, hno, hs, ?_, HO2.out, HB2.out, HPG.out, hz⟩
    have h3 := splice_take (List.replicate n (0 : Int)) pre 0 (by rw [List.length_replicate]; omega)
    rw [Nat.zero_add, hp] at h3
    rw [h3, HE2.out]
    simp)
  have hLn : n - p = l'.length := by have := HF.out.2.1; omega
  have HLn := Aside0.mk hLn
  rw [hLn]
  clear hLn
  go_loopw [1, 9] (fun vi vb wr => ∃ (l' : List Int) (oi ci j bl bc : Nat) (out : List Int) (m : Nat) (e r2 : List Int), vi = .slice (some ⟨b, oi, none⟩) l'.length ci ∧ vb = .slice (some ⟨(w.heap.size + 1), j, none⟩) bl bc ∧ Aside0 (Rd b (w.heap.size + 1) n 5 l' oi ci j bl bc n out m e r2 r P W1 wr)) (fun vi _ _ => lenOf vi)
  case atStart => exact ⟨l', _, _, _, _, _, _, _, _, _, rfl, by first | rfl | (rw [HLn.out]), HR0⟩
  case round =>
    clear HR0 HO2 HB2 HL HF HE2 HLn HG1 HD1
    obtain ⟨l1, oi, ci, j, bl, bc, out, m, e, r2, rfl, rfl, HR⟩ := hrel
    have hc3 := HC.out wr HR.out.below
    have g0 := hc3.1
    have g1 := hc3.2.1
    have g2 := hc3.2.2
    clear hc3
    have h2 := HR.out.es.two
    have hhb := HR.out.hb
    have hhc := HR.out.hc
    have hhj := HR.out.hj
    have hho := HR.out.ho
    have hhz := HR.out.hz
    have hbc := HR.out.hbc
    have hno := HR.out.hno
    have hwl := wr_len e out j
    have k1 := one_calls l1 m e HR.out.es (by omega) b oi ci (w.heap.size + 1) j bl bc 5 out hhc hhb (by omega) P W1 wr (HR.out.glob _ HR.out.below) (HR.out.hd _ HR.out.below) HR.out.below HR.out.hg HR.out.ob
    obtain ⟨pre, l3, r3, e1, e2, h1, h3⟩ := HR.out.un.split
    have hlen : l1.length - m = pre.length + l3.length := by rw [← List.length_drop, e1, List.length_append]
    have hrng : ∀ x ∈ pre, x ≠ 92 ∧ 0 ≤ x ∧ x < 256 := fun x hx => ⟨h1 x hx, HR.out.rng x (List.mem_of_mem_drop (i := m) (by rw [e1]; simp [hx]))⟩
    have hH := fun (W : World) (hW : Bes P W1 W) => (HR.out.hd W hW).drop m
    have hdl : (l1.drop m).length = l1.length - m := List.length_drop
    have k2 := fun (W : World) (hW : Bes P W1 W) => Tryz.bytes_IndexByte b (oi + m) (l1.length - m) (ci - m) (l1.drop m) 92 W hdl (fun i hi => (hH W hW).cell i (by rw [hdl]; exact hi))
    have hHp := fun (W : World) (hW : Bes P W1 W) => hH W hW
    rw [e1] at k2 hHp
    have HPr := Aside0.mk (show ∀ W, Bes P W1 W → Hd b (oi + m) pre W from fun W hW => ⟨fun i hi => by
      rw [(hHp W hW).cell i (by rw [List.length_append]; omega)]
      simp [List.getD_eq_getElem?_getD, List.getElem?_append_left hi]⟩)
    have k3 : ∀ W, Calls Tryz.prog 74 #[.slice (some ⟨b, oi, none⟩) 0 0, .int .u8 92] W fun e w' => e = .returned (.int .i64 (-1)) ∧ w' = W := fun W => Tryz.bytes_IndexByte b oi 0 0 [] 92 W rfl (fun i hi => absurd hi (Nat.not_lt_zero _))
    clear hH hHp hdl
    have m1 : ((m : Int) == -1) = false := beq_eq_false_iff_ne.2 (by omega)
    rcases h3 with ⟨rfl, rfl⟩ | ⟨m3, e3, r4, hes, rfl, hun⟩
    · rw [List.append_nil] at e1 e2 k2
      have hi2 := idx_none pre hrng
      rw [hi2] at k2
      obtain ⟨L, hL⟩ : ∃ L, l1.length = L := ⟨_, rfl⟩
      obtain ⟨el, hel⟩ : ∃ el, e.length = el := ⟨_, rfl⟩
      have HS := Aside0.mk (show ∀ W2, Ob (w.heap.size + 1) 5 (splice (wrt out j e) (j + el) pre) W2 → j + el + (L - m) = r.length ∧ ∃ out, out.length = n ∧ out.take r.length = r ∧ Ob (w.heap.size + 1) 5 out W2 from fun W2 hO => by
        have h5 := HR.out.last (e1.trans e2.symm) (by rw [hel, e2]; exact hO)
        rw [hel, e2] at h5
        rw [hL] at hlen
        rw [hlen]
        simpa using h5)
      rw [hL] at k1 k2 hlen hhb hhc h2 ⊢
      rw [hel] at k1 h2
      simp only [List.length_nil, Nat.add_zero] at hlen
      have HZ := Aside0.mk (And.intro hlen (And.intro hhb (And.intro hhc (And.intro h2 (And.intro hhj (And.intro hho hwl))))))
      have HNo := Aside0.mk hno
      have a1 : m ≤ L := h2.2.1
      have a1' : (m : Int) ≤ (L : Int) := by omega
      have a2 : el ≤ bl := by omega
      have a2' : (el : Int) ≤ (bl : Int) := by omega
      have a3 : bc ≠ el := by omega
      have a4 : L - m ≤ bl - el := by omega
      have a4' : ((L - m : Nat) : Int) ≤ ((bl - el : Nat) : Int) := by omega
      have a5 : bc - el ≠ L - m := by omega
      have a6 : (bl - el - (L - m)) ≤ n := by omega
      have a6' : ((bl - el - (L - m) : Nat) : Int) ≤ (n : Int) := by omega
      have a8 : (bl ≤ el) = False := eq_false (by omega)
      have a9 : (n : Int) ≤ 140737488355328 := by omega
      have aB : (n : Int) - ((bl - el - (L - m) : Nat) : Int) ≤ (n : Int) := by omega
      have a7 : ((n : Int) - ((bl - el - (L - m) : Nat) : Int)).toNat = j + el + (L - m) := by omega
      have HA7 := Aside0.mk a7
      by_cases hcm : ci = m
      · obtain rfl : L = m := by omega
        subst hcm
        clear a7 hbc hno hlen hhb hhc h2 hhj hho hwl hrng hi2 hL hel e1 e2 k2 h1 hhz
        simp only [Nat.sub_self, Nat.sub_zero] at a4 a4' a5 a6 a6' aB
        dsimp only [cfgV] at k1
        go_wp2_with (first | (go_at_call 75; (with_reducible refine k1.mono ?_); rintro e w1 ⟨rfl, HB, HW⟩; have H2 := Aside0.mk HB; have H3 := Aside0.mk HW; clear HB HW k1) | (go_at_call 74; (with_reducible refine (k3 _).mono ?_); rintro e w2 ⟨rfl, rfl⟩; clear k3) | ((with_reducible refine gate_builtin (b := .copy) (xs := #[.tmp 61, .tmp 62]) rfl ?_); refine copy_step rfl (.tmp 61) (.tmp 62) rfl _ _ _ _ _ _ rfl rfl (w.heap.size + 1) (j + el) (wrt out j e) 5 P W1 _ H2.out pre ?hn ?hpos ?hfit H3.out HR.out.hg ?_; (case hn => have h_ := HZ.out.1; rw [Nat.sub_self] at h_; rw [← h_]; exact (Nat.zero_min _).symm); (case hpos => intro h; have := HZ.out.1; omega); (case hfit => have := HZ.out; omega); intro w3 hO3 hb3; have HO3 := Aside0.mk hO3; have HB3 := Aside0.mk hb3; clear hO3 hb3))
        go_ret2
        have h5 := HS.out _ HO3.out
        refine ⟨?_, by have h6 := HZ.out; have h7 := HNo.out; omega, h5.2, HBW.out _ HB3.out⟩
        show Ending.returned (.tuple #[.slice (some ⟨(w.heap.size + 1), 0, none⟩) (n - (bl - el)) n, .nilIface]) = .returned (.tuple #[.slice (some ⟨(w.heap.size + 1), 0, none⟩) r.length n, .nilIface])
        have h6 := HZ.out
        rw [show n - (bl - el) = r.length from by omega]
      · have k2b := k2
        clear a7 hbc hno hlen hhb hhc h2 hhj hho hwl hrng hi2 hL hel e1 e2 k2 h1 hhz k3
        dsimp only [cfgV] at k1
        go_wp2_with (first | (go_at_call 75; (with_reducible refine k1.mono ?_); rintro e w1 ⟨rfl, HB, HW⟩; have H2 := Aside0.mk HB; have H3 := Aside0.mk HW; clear HB HW k1) | (go_at_call 74; (with_reducible refine (k2b _ H3.out).mono ?_); rintro e w2 ⟨rfl, rfl⟩; clear k2b) | ((with_reducible refine gate_builtin (b := .copy) (xs := #[.tmp 61, .tmp 62]) rfl ?_); refine copy_step rfl (.tmp 61) (.tmp 62) rfl _ _ _ _ _ _ rfl rfl (w.heap.size + 1) (j + el) (wrt out j e) 5 P W1 _ H2.out pre ?hn ?hpos ?hfit H3.out HR.out.hg ?_; (case hn => rw [← HZ.out.1]; exact (Nat.min_eq_left a4).symm); (case hpos => intro _; exact ⟨rfl, b, _, rfl, HPr.out _ H3.out⟩); (case hfit => have := HZ.out; omega); intro w3 hO3 hb3; have HO3 := Aside0.mk hO3; have HB3 := Aside0.mk hb3; clear hO3 hb3))
        go_ret2
        have h5 := HS.out _ HO3.out
        refine ⟨?_, by have h6 := HZ.out; have h7 := HNo.out; omega, h5.2, HBW.out _ HB3.out⟩
        show Ending.returned (.tuple #[.slice (some ⟨(w.heap.size + 1), 0, none⟩) (n - (bl - el - (L - m))) n, .nilIface]) = .returned (.tuple #[.slice (some ⟨(w.heap.size + 1), 0, none⟩) r.length n, .nilIface])
        have h6 := HZ.out
        rw [show n - (bl - el - (L - m)) = r.length from by omega]
    · obtain ⟨t3, ht3⟩ := hes.head
      have hi2 := idx_at pre t3 hrng
      rw [← ht3] at hi2
      rw [hi2] at k2
      have h23 := hes.two
      obtain ⟨L, hL⟩ : ∃ L, l1.length = L := ⟨_, rfl⟩
      obtain ⟨el, hel⟩ : ∃ el, e.length = el := ⟨_, rfl⟩
      obtain ⟨q, hq⟩ : ∃ q, pre.length = q := ⟨_, rfl⟩
      have HS := Aside0.mk (show ∀ W2, Ob (w.heap.size + 1) 5 (splice (wrt out j e) (j + el) pre) W2 → Bes P W1 W2 → Rd b (w.heap.size + 1) n 5 l3 (oi + m + q) (ci - m - q) (j + el + q) (bl - el - q) (bc - el - q) n (splice (wrt out j e) (j + el) pre) m3 e3 r4 r P W1 W2 from fun W2 hO hB => by
        rw [← hel, ← hq]
        exact HR.out.next e1 e2 hes hun (by rw [hel]; exact hO) hB)
      rw [hL] at k1 k2 hlen hhb hhc h2 ⊢
      rw [hel] at k1 h2
      rw [hq] at hlen k2
      have HZ := Aside0.mk (And.intro hlen (And.intro hhb (And.intro hhc (And.intro h2 (And.intro hhj (And.intro hho (And.intro hwl (And.intro h23 hq))))))))
      have a1 : m ≤ L := h2.2.1
      have a1' : (m : Int) ≤ (L : Int) := by omega
      have a2 : el ≤ bl := by omega
      have a2' : (el : Int) ≤ (bl : Int) := by omega
      have a3 : bc ≠ el := by omega
      have a4 : q ≤ L - m := by omega
      have a4' : (q : Int) ≤ ((L - m : Nat) : Int) := by omega
      have a5 : ci - m ≠ q := by omega
      have a6 : q ≤ bl - el := by omega
      have a6' : (q : Int) ≤ ((bl - el : Nat) : Int) := by omega
      have a7 : bc - el ≠ q := by omega
      have a8 : q ≤ ci - m := by omega
      have a9 : ((q : Int) == -1) = false := beq_eq_false_iff_ne.2 (by omega)
      have a10 : ci ≠ m := by omega
      have HL3 := Aside0.mk (show L - m - q = l3.length from by omega)
      have HMs := Aside0.mk (show l3.length < L from by omega)
      clear hbc hno hlen hhb hhc h2 hhj hho hwl hrng hi2 hL hel e1 e2 h1 hhz k3 h23 hes hun ht3 hq
      dsimp only [cfgV] at k1
      go_wp2_with (first | (go_at_call 75; (with_reducible refine k1.mono ?_); rintro e w1 ⟨rfl, HB, HW⟩; have H2 := Aside0.mk HB; have H3 := Aside0.mk HW; clear HB HW k1) | (go_at_call 74; (with_reducible refine (k2 _ H3.out).mono ?_); rintro e w2 ⟨rfl, rfl⟩; clear k2) | ((with_reducible refine gate_builtin (b := .copy) (xs := #[.tmp 68, .tmp 71]) rfl ?_); refine copy_step rfl (.tmp 68) (.tmp 71) rfl _ _ _ _ _ _ rfl rfl (w.heap.size + 1) (j + el) (wrt out j e) 5 P W1 _ H2.out pre ?hn ?hpos ?hfit H3.out HR.out.hg ?_; (case hn => rw [HZ.out.2.2.2.2.2.2.2.2]; exact (Nat.min_eq_left a6).symm); (case hpos => intro _; exact ⟨rfl, b, _, rfl, HPr.out _ H3.out⟩); (case hfit => have := HZ.out; omega); intro w3 hO3 hb3; have HO3 := Aside0.mk hO3; have HB3 := Aside0.mk hb3; clear hO3 hb3))
      go_roundw
      case rel => exact ⟨l3, _, _, _, _, _, _, _, _, _, by rw [HL3.out], rfl, ⟨HS.out _ HO3.out HB3.out⟩⟩
      case measure => show L - m - q < L; rw [HL3.out]; exact HMs.out
end Go.Proofs.YtpdohioobbfncaaGreatDoor.PFnJpWildStop