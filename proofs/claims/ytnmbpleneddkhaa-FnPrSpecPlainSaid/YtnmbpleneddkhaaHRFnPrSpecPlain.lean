/- impl.PrSpecInPlace, told by hand: each byte of the text is written where it stands; no condition beside those that each theorem states. -/
import Derived.Test.YtnmbpleneddkhaaSPFnPrSpecPlain
import Derived.Lib.ConvBytes
import Derived.Lib.JoinLaws
import Derived.Laws.BytesArg
namespace Go.Proofs.Ytnmbpleneddkhaa.PFnPrSpecPlain
open Go.RowKit Go.Proofs.YtnmbpleneddkhaaW.PrintWords Go.Proofs.YtnmbpleneddkhaaW.PrintLast Go.Proofs.YtnmbpleneddkhaaW.PrintMore
set_option linter.unusedVariables false
set_option linter.unusedSimpArgs false
abbrev gt (s : ByteArray) : Nat → Int := fun q => bt s q
def impl_PrSpecInPlace.f (a0 : ByteArray) : Option ByteArray := if a0.size ≤ 140737488355328 ∧ run (fun q => bt a0 q) a0.size (a0.size + 1) 0 = true then some a0 else none
theorem bytesOf_at (s : ByteArray) (j : Nat) (h : j < s.size) : ((s.data.toList.getD j 0).toNat : Int) = bt s j := by
  rw [← rd_bytesOf]
  have h' : j < s.data.toList.length := by rw [Array.length_toList]; exact h
  simp [rd, bytesOf, List.getD_eq_getElem?_getD, List.getElem?_eq_getElem h']
theorem bt_range (s : ByteArray) (j : Nat) : 0 ≤ bt s j ∧ bt s j ≤ 255 := by
  unfold bt
  split
  · have := (s[(j : Int).toNat]'(by assumption)).toNat_lt
    omega
  · omega
/-- The row that holds the text. -/
structure Mid (s : ByteArray) (w wr : World) : Prop where
  below : Below w.heap.size w wr
  big : w.heap.size < wr.heap.size
  cell : ∀ j : Nat, j < s.size → wr.cell? ⟨w.heap.size, j, none⟩ = some (.int .u8 (bt s j))
  free : ∀ j : Nat, j < s.size → wr.frozen? ⟨w.heap.size, j, none⟩ = false
theorem Mid.start (s : ByteArray) (w : World) (e : TypeId) : Mid s w (Lib.bytesWorld w e s) := by
  refine ⟨bytes_below (Below.refl _ _) (Nat.le_refl _) _ _, ?_, fun j hj => ?_, fun j hj => ?_⟩
  · rw [Lib.bytesWorld_size]; omega
  · rw [← bytesOf_at s j hj]
    exact Lib.bytesWorld_cell w e s j hj
  · have hsz : s.size ≤ (Lib.bytesCells w e s).size := by
      unfold Lib.bytesCells
      rw [Array.size_append, Array.size_map]
      exact Nat.le_add_right _ _
    unfold World.frozen?
    rw [Lib.bytesWorld_at_new]
    simp
    omega
theorem Mid.write {s : ByteArray} {w wr : World} (h : Mid s w wr) (k : Nat) (hk : k < s.size) (x : Int) (hx : x = bt s k) : Mid s w (wr.setCell ⟨w.heap.size, k, none⟩ (.int .u8 x)) := by
  refine ⟨below_set h.below (Nat.le_refl _), by rw [World.size_setCell]; exact h.big, fun j hj => ?_, fun j hj => ?_⟩
  · by_cases e : j = k
    · subst e
      rw [hx]
      exact World.cell?_setCell_same' _ _ _ (by rw [h.cell j hj]; rfl)
    · rw [World.cell?_setCell_other _ _ _ _ (by intro h2; injection h2 with _ h2; exact e h2.symm), h.cell j hj]
  · rw [World.frozen?_setCell]
    exact h.free j hj
theorem Mid.more {s : ByteArray} {w wr w2 : World} (h : Mid s w wr) (hb : Below wr.heap.size wr w2) : Mid s w w2 := by
  have hh : w2.heap[w.heap.size]? = wr.heap[w.heap.size]? := hb.block _ h.big
  refine ⟨below_step h.below hb, Nat.lt_of_lt_of_le h.big hb.size, fun j hj => ?_, fun j hj => ?_⟩
  · rw [← h.cell j hj]
    exact hb.cell (by exact h.big)
  · rw [← h.free j hj]
    unfold World.frozen?
    dsimp only
    rw [hh]
theorem Mid.done {P : Program} {s : ByteArray} {w wr : World} (h : Mid s w wr) (src e : TypeId) (hs : P.underlying src = some (.slice e)) (he : P.underlying e = some (.int .u8)) (dst : TypeId) (hd : P.underlying dst = some .string) (cap : Nat) :
    (convert src dst (.slice (some ⟨w.heap.size, 0, none⟩) s.size cap)).run P wr = .ok (.string s) wr := by
  have h0 : (convert src dst (.slice (some ⟨w.heap.size, 0, none⟩) s.size cap)).run P wr = .ok (.string (strOfNums (bytesOf s))) wr := by
    refine run_convert_bytes_arg wr src e hs he w.heap.size 0 s.size cap _ (by rw [bytesOf_length]) (fun i hi => ?_) dst hd
    rw [Nat.zero_add, h.cell i hi, ← rd_bytesOf]
    have h' : i < (bytesOf s).length := by rw [bytesOf_length]; exact hi
    unfold rd
    rw [Int.toNat_natCast, List.getD_eq_getElem?_getD, List.getElem?_eq_getElem h']
    first | done | rfl
  rw [h0]
  congr 2
  apply ByteArray.ext
  apply Array.ext'
  simp only [strOfNums, bytesOf, List.map_map]
  rw [List.toList_toArray]
  conv => rhs; rw [← List.map_id s.data.toList]
  apply List.map_congr_left
  intro x _
  simp
theorem w47 (k : Nat) (h : k ≤ 140737488355328) : wrap64 ((k : Int) + 1) = (k : Int) + 1 := by unfold wrap64; omega
theorem w46 (k : Nat) (h : k ≤ 140737488355328) : wrap64 ((k : Int) - 1) = (k : Int) - 1 := by unfold wrap64; omega
theorem iv (k : Nat) (h : k ≤ 140737488355328) : Value.int .i64 (wrap64 ((k : Int) + 1)) = .int .i64 ((k + 1 : Nat) : Int) := by rw [w47 k h]; rfl
theorem iv2 (k : Nat) (h : k ≤ 140737488355328) : wrap64 ((k : Int) + 1 - 2) = (k : Int) - 1 := by unfold wrap64; omega
theorem iv3 (q j : Nat) (hj : j + 1 = q) (h : q ≤ 140737488355328) : Value.int .i64 (wrap64 ((q : Int) - 1)) = .int .i64 (j : Int) := by
  rw [w46 q h]; congr 1; omega
theorem ms (k n : Nat) (h : k < n) (hn : n ≤ 140737488355328) : n - (intOf (.int .i64 (wrap64 ((k : Int) + 1)))).toNat < n - (intOf (.int .i64 (k : Int))).toNat := by
  rw [w47 k (by omega)]; simp [intOf]; omega
theorem par_ (q b : Nat) (h : b < q) (hq : q ≤ 140737488355328) : Int.tmod (wrap64 (((q - 1 - b : Nat) : Int) - (q : Int))) 2 = if b % 2 = 0 then -1 else 0 := by
  have e : ((q - 1 - b : Nat) : Int) - (q : Int) = -((b + 1 : Nat) : Int) := by omega
  have e2 : wrap64 (-((b + 1 : Nat) : Int)) = -((b + 1 : Nat) : Int) := by unfold wrap64; omega
  rw [e, e2, Int.neg_tmod, Int.tmod_eq_emod_of_nonneg (by omega)]
  split <;> omega
theorem below_alloc_ (w : World) (o : Obj) : Below w.heap.size w (w.alloc o) := by
  repeat (first | exact Below.refl _ _ | apply below_alloc)
theorem new_cell (w : World) (v : Value) (t : TypeId) : (w.alloc (.cells #[v] t)).cell? ⟨w.heap.size, 0, none⟩ = some v := by
  have h := heap_alloc_new w (.cells #[v] t)
  unfold World.cell?
  dsimp only
  rw [h]
  rfl
/-- The append of the byte that stands there already. -/
theorem ap_step {ops : Array Oper} {rest : List Oper} {o : Oper} {a : Act} {Q : Exit → Act → World → Prop} (hg : o.guard = none) (s x : Operand) (hop : o.op = Op.call { callee := Callee.builtin Builtin.append, args := #[s, x], argTypes := #[48, 48] })
    (T : ByteArray) (w W : World) (i cap lit : Nat) (hs : a.eval s = .slice (some ⟨w.heap.size, 0, none⟩) i cap) (hx : a.eval x = .slice (some ⟨lit, 0, none⟩) 1 1) (c : Int) (hlit : W.cell? ⟨lit, 0, none⟩ = some (.int .u8 c)) (hc : c = bt T i)
    (hm : Mid T w W) (hi : i < T.size) (hcap : T.size ≤ cap) (hK : ∀ W2, Mid T w W2 → wpList Try.prog ops Q rest (a.put o.dst (.slice (some ⟨w.heap.size, 0, none⟩) (i + 1) cap)) W2) : wpList Try.prog ops Q (o :: rest) a W := by
  have e0 : 0 + i = i := Nat.zero_add i
  refine wpList_append_room1 W hg s x 48 48 hop 5 (.int .u8 0) 1 Try.underlying48 info5 w.heap.size 0 i cap hs _ hx 1 [.int .u8 c] ?_ (by omega) ?_ ?_ (hK _ ?_)
  · refine Src.ofSlice W Try.underlying48 _ 1 1 [.int .u8 c] rfl (fun j u hj => ?_) (fun u hu => ?_)
    · cases j with
      | zero => simp at hj; rw [← hj, ← hlit]; rfl
      | succ j => simp at hj
    · simp at hu; rw [hu]; rfl
  · intro j hj
    obtain rfl : j = 0 := by simpa using hj
    rw [e0, Nat.add_zero, hm.cell i hi]; rfl
  · intro j hj
    obtain rfl : j = 0 := by simpa using hj
    rw [e0, Nat.add_zero]; exact hm.free i hi
  · rw [e0]
    exact hm.write i hi c hc
set_option maxHeartbeats 4000000 in
set_option maxRecDepth 100000 in
theorem inplace (a0 : ByteArray) (w W : World) (cap : Nat) (hcap : a0.size ≤ cap) (hz : a0.size ≤ 140737488355328) (HM0 : Mid a0 w W) (HR0 : Run (gt a0) a0.size 0) :
    Calls Try.prog 44 #[.slice (some ⟨w.heap.size, 0, none⟩) a0.size cap, .slice (some ⟨w.heap.size, 0, none⟩) a0.size cap] W fun e w' => e = .returned (.slice (some ⟨w.heap.size, 0, none⟩) a0.size cap) ∧ Mid a0 w w' := by
  have HM := Aside0.mk HM0
  have HR := Aside0.mk HR0
  have HZ := Aside0.mk hz
  have HC := Aside0.mk hcap
  clear HM0 HR0 hz
  go_enter Try.func44, Try.ntmps44
  go_wp2
  go_loopw [1, 5] (fun vd vi wr => ∃ k : Nat, vd = .slice (some ⟨w.heap.size, 0, none⟩) k cap ∧ vi = .int .i64 k ∧ Aside0 (Run (gt a0) a0.size k) ∧ Aside0 (Mid a0 w wr)) (fun _ vi _ => a0.size - (intOf vi).toNat)
  case atStart => exact ⟨0, rfl, rfl, HR, HM⟩
  case round =>
    clear HM HR
    obtain ⟨k, rfl, rfl, HR, HM⟩ := hrel
    by_cases hk : k < a0.size
    · have hx := HM.out.cell k hk
      have hr := bt_range a0 k
      obtain ⟨c, hc⟩ : ∃ c, bt a0 k = c := ⟨_, rfl⟩
      rw [hc] at hx hr
      have HCc := Aside0.mk hc
      have HL := Aside0.mk hk
      clear hc hr
      have d1 : decide ((k : Int) < (a0.size : Int)) = true := decide_eq_true (by omega)
      have d2 : decide (k < a0.size) = true := decide_eq_true hk
      have HR2 := HR.out
      cases HR2 with
      | done => omega
      | @other _ h c1 c2 c3 c4 t =>
        have HT := Aside0.mk t
        have c1' : c ≠ 34 := fun h => c1 (HCc.out.trans h)
        have c2' : c ≠ 125 := fun h => c2 (HCc.out.trans h)
        have c3' : c ≠ 93 := fun h => c3 (HCc.out.trans h)
        have c4' : c ≠ 47 := fun h => c4 (HCc.out.trans h)
        have e1 : (c == 34) = false := beq_eq_false_iff_ne.2 c1'
        have e2 : (c == 125) = false := beq_eq_false_iff_ne.2 c2'
        have e3 : (c == 93) = false := beq_eq_false_iff_ne.2 c3'
        have e4 : (c == 47) = false := beq_eq_false_iff_ne.2 c4'
        clear h c1 c2 c3 c4 t HR c1' c2' c3' c4'
        go_wp2_with (first | ((with_reducible refine gate_builtin (b := .append) (xs := #[.tmp 138, .tmp 143]) rfl ?_); at_builtin; refine ap_step rfl (.tmp 138) (.tmp 143) rfl a0 w _ k cap _ rfl rfl c ?hl HCc.out.symm (HM.out.more ?hb) HL.out HC.out ?_; (case hl => exact new_cell _ _ _); (case hb => exact below_alloc_ _ _); intro W2 HM2; have hx2 := HM2.cell k HL.out; rw [HCc.out] at hx2; clear hx; have HM3 := Aside0.mk HM2; clear HM2 HM; have HM := HM3; clear HM3))
        go_roundw
        case rel => exact ⟨k + 1, rfl, iv k (Nat.le_of_lt (Nat.lt_of_lt_of_le HL.out HZ.out)), HT, HM⟩
        case measure => exact ms k _ HL.out HZ.out
      | @close _ h c1 n t =>
        have HT := Aside0.mk t
        have HN := Aside0.mk n
        have c1' : c = 125 ∨ c = 93 := by rw [← HCc.out]; exact c1
        clear h c1 n t HR
        have e1 : (c == 34) = false := beq_eq_false_iff_ne.2 (by omega)
        have e4 : (c == 47) = false := beq_eq_false_iff_ne.2 (by omega)
        rcases c1' with e | e
        all_goals
          subst e
          go_wp2_with (first | ((with_reducible refine gate_builtin (b := .append) (xs := #[.tmp 138, .tmp 143]) rfl ?_); at_builtin; refine ap_step rfl (.tmp 138) (.tmp 143) rfl a0 w _ k cap _ rfl rfl _ ?hl HCc.out.symm (HM.out.more ?hb) HL.out HC.out ?_; (case hl => exact new_cell _ _ _); (case hb => exact below_alloc_ _ _); intro W2 HM2; have hx2 := HM2.cell k HL.out; rw [HCc.out] at hx2; clear hx; have HM3 := Aside0.mk HM2; clear HM2 HM; have HM := HM3; clear HM3))
          go_loopw [7] (fun vj wr2 => ∃ (j : Nat) (v : Int), vj = .int .i64 v ∧ Aside0 (v = (j : Int) - 1 ∧ j ≤ k) ∧ Aside0 (nc (gt a0) j = true) ∧ Aside0 (Mid a0 w wr2)) (fun vj _ => (intOf vj + 1).toNat)
          case atStart => exact ⟨k, _, rfl, ⟨iv2 k (Nat.le_of_lt (Nat.lt_of_lt_of_le HL.out HZ.out)), Nat.le_refl _⟩, HN, HM⟩
          case round =>
            clear HM HN hx2
            obtain ⟨j, v, rfl, HJ, HN, HM⟩ := hrel
            cases j with
            | zero =>
              obtain rfl : v = -1 := by have := HJ.out.1; omega
              go_wp2
              go_roundw
              case rel => exact ⟨k + 1, rfl, iv k (Nat.le_of_lt (Nat.lt_of_lt_of_le HL.out HZ.out)), HT, HM⟩
              case measure => exact ms k _ HL.out HZ.out
            | succ m =>
              obtain rfl : v = (m : Int) := by have := HJ.out.1; omega
              have hm : m < k + 1 := by have := HJ.out.2; omega
              have hmk : m < a0.size := by have := HL.out; omega
              have hx := HM.out.cell m hmk
              obtain ⟨y, hy⟩ : ∃ y, bt a0 m = y := ⟨_, rfl⟩
              have hn : (if gt a0 m ≤ 32 then nc (gt a0) m else decide (gt a0 m ≠ 44)) = true := HN.out
              have hgy : gt a0 m = y := hy
              rw [hgy] at hn
              rw [hy] at hx
              have d3 : decide ((m : Int) ≥ 0) = true := decide_eq_true (by omega)
              have d4 : decide (0 ≤ (m : Int)) = true := decide_eq_true (by omega)
              have d5 : decide (m < k + 1) = true := decide_eq_true hm
              have HX := Aside0.mk hmk
              by_cases c32 : y ≤ 32
              · rw [if_pos c32] at hn
                have HN2 := Aside0.mk hn
                have d6 : decide (y ≤ 32) = true := decide_eq_true c32
                clear hn hy hgy hmk c32 HN
                go_wp2
                go_roundw
                case rel => exact ⟨m, _, rfl, ⟨w46 m (Nat.le_of_lt (Nat.lt_of_lt_of_le HX.out HZ.out)), by have := HJ.out.2; omega⟩, HN2, HM⟩
                case measure => rw [w46 m (Nat.le_of_lt (Nat.lt_of_lt_of_le HX.out HZ.out))]; simp [intOf]
              · rw [if_neg c32] at hn
                have d6 : decide (y ≤ 32) = false := decide_eq_false c32
                have d7 : (y == 44) = false := beq_eq_false_iff_ne.2 (of_decide_eq_true hn)
                clear hn hy hgy hmk c32 HN
                go_wp2
                go_roundw
                case rel => exact ⟨k + 1, rfl, iv k (Nat.le_of_lt (Nat.lt_of_lt_of_le HL.out HZ.out)), HT, HM⟩
                case measure => exact ms k _ HL.out HZ.out
      | @str _ p h hp c1 e ev od t =>
        have HT := Aside0.mk t
        have HP := Aside0.mk (And.intro h hp)
        have HE := Aside0.mk (And.intro e ev)
        have HO := Aside0.mk od
        have c1' : c = 34 := by rw [← HCc.out]; exact c1
        clear h hp c1 e ev od t HR
        have e4 : (c == 47) = false := beq_eq_false_iff_ne.2 (by omega)
        subst c1'
        go_wp2_with (first | ((with_reducible refine gate_builtin (b := .append) (xs := #[.tmp 138, .tmp 143]) rfl ?_); at_builtin; refine ap_step rfl (.tmp 138) (.tmp 143) rfl a0 w _ k cap _ rfl rfl _ ?hl HCc.out.symm (HM.out.more ?hb) HL.out HC.out ?_; (case hl => exact new_cell _ _ _); (case hb => exact below_alloc_ _ _); intro W2 HM2; have hx2 := HM2.cell k HL.out; rw [HCc.out] at hx2; clear hx; have HM3 := Aside0.mk HM2; clear HM2 HM; have HM := HM3; clear HM3))
        go_loopw [1, 5] (fun vd vi wr2 => ∃ q : Nat, vd = .slice (some ⟨w.heap.size, 0, none⟩) q cap ∧ vi = .int .i64 q ∧ Aside0 (k < q ∧ q ≤ p) ∧ Aside0 (Mid a0 w wr2)) (fun _ vi _ => a0.size - (intOf vi).toNat)
        case atStart => exact ⟨k + 1, rfl, iv k (Nat.le_of_lt (Nat.lt_of_lt_of_le HL.out HZ.out)), ⟨Nat.lt_succ_self _, HP.out.1⟩, HM⟩
        case round =>
          clear HM hx2
          obtain ⟨q, rfl, rfl, HQ, HM⟩ := hrel
          have hq : q < a0.size := by have := HQ.out.2; have := HP.out.2; omega
          have HLq := Aside0.mk hq
          have hx := HM.out.cell q hq
          obtain ⟨y, hy⟩ : ∃ y, bt a0 q = y := ⟨_, rfl⟩
          rw [hy] at hx
          have HY := Aside0.mk hy
          clear hy
          have d3 : decide ((q : Int) < (a0.size : Int)) = true := decide_eq_true (by omega)
          have d4 : decide (q < a0.size) = true := decide_eq_true hq
          by_cases y34 : y = 34
          · subst y34
            go_wp2_with (first | ((with_reducible refine gate_builtin (b := .append) (xs := #[.tmp 158, .tmp 163]) rfl ?_); at_builtin; refine ap_step rfl (.tmp 158) (.tmp 163) rfl a0 w _ q cap _ rfl rfl _ ?hl HY.out.symm (HM.out.more ?hb) HLq.out HC.out ?_; (case hl => exact new_cell _ _ _); (case hb => exact below_alloc_ _ _); intro W2 HM2; have hx2 := HM2.cell q HLq.out; rw [HY.out] at hx2; clear hx; have HM3 := Aside0.mk HM2; clear HM2 HM; have HM := HM3; clear HM3))
            go_loopw [6] (fun vj wr3 => ∃ d : Nat, vj = .int .i64 ((q - 1 - d : Nat) : Int) ∧ Aside0 (d ≤ bsl (gt a0) q) ∧ Aside0 (Mid a0 w wr3)) (fun vj _ => (intOf vj).toNat)
            case atStart => exact ⟨0, iv3 q _ (by have := HQ.out.1; omega) (Nat.le_of_lt (Nat.lt_of_lt_of_le HLq.out HZ.out)), ⟨Nat.zero_le _⟩, HM⟩
            case round =>
              clear HM hx2
              obtain ⟨d, rfl, HD, HM⟩ := hrel
              have hb : bsl (gt a0) q + k < q := bsl_le (g := gt a0) (i := k) (by show bt a0 k ≠ 92; rw [HCc.out]; decide) q HQ.out.1
              have HB := Aside0.mk hb
              have hj0 : q - 1 - d < a0.size := by have := HLq.out; omega
              have HJ0 := Aside0.mk hj0
              have hx := HM.out.cell (q - 1 - d) hj0
              obtain ⟨z, hz2⟩ : ∃ z, bt a0 ((q - 1 - d : Nat) : Int) = z := ⟨_, rfl⟩
              rw [hz2] at hx
              by_cases hd : d = bsl (gt a0) q
              · have hz92 : z ≠ 92 := by rw [← hz2, hd]; exact bsl_end (g := gt a0) q (by omega)
                have em := par_ q d (by omega) (Nat.le_of_lt (Nat.lt_of_lt_of_le HLq.out HZ.out))
                have e6 : (z == 92) = false := beq_eq_false_iff_ne.2 hz92
                have e7 : (z != 92) = true := bne_iff_ne.2 hz92
                by_cases hev : d % 2 = 0
                · have HEQ := Aside0.mk (show q = p from by
                    apply Decidable.byContradiction
                    intro hne
                    have := HO.out q HQ.out.1 (Nat.lt_of_le_of_ne HQ.out.2 hne) HY.out
                    omega)
                  rw [if_pos hev] at em
                  obtain ⟨j, hj⟩ : ∃ j, q - 1 - d = j := ⟨_, rfl⟩
                  rw [hj] at hx em hj0 ⊢
                  have d5 : decide (j < a0.size) = true := decide_eq_true hj0
                  clear hev hz92 hz2 hb hd hj HD
                  go_wp2
                  go_roundw
                  case rel => exact ⟨q + 1, rfl, iv q (Nat.le_of_lt (Nat.lt_of_lt_of_le HLq.out HZ.out)), ⟨by rw [HEQ.out]; exact HT.out⟩, HM⟩
                  case measure => exact Nat.lt_of_lt_of_le (ms q _ HLq.out HZ.out) (by have := HQ.out.1; simp [intOf]; omega)
                · have HEQ := Aside0.mk (show q < p from by
                    refine Nat.lt_of_le_of_ne HQ.out.2 (fun h => hev ?_)
                    rw [hd, h]
                    exact HE.out.2)
                  rw [if_neg hev] at em
                  obtain ⟨j, hj⟩ : ∃ j, q - 1 - d = j := ⟨_, rfl⟩
                  rw [hj] at hx em hj0 ⊢
                  have d5 : decide (j < a0.size) = true := decide_eq_true hj0
                  clear hev hz92 hz2 hb hd hj HD
                  go_wp2
                  go_roundw
                  case rel => exact ⟨q + 1, rfl, iv q (Nat.le_of_lt (Nat.lt_of_lt_of_le HLq.out HZ.out)), ⟨Nat.lt_succ_of_lt HQ.out.1, HEQ.out⟩, HM⟩
                  case measure => exact ms q _ HLq.out HZ.out
              · have hz92 : z = 92 := by
                  rw [← hz2]
                  exact (bsl_at (g := gt a0) q d (by have := HD.out; omega)).2
                have HD2 := Aside0.mk (show d < bsl (gt a0) q from by have := HD.out; omega)
                subst hz92
                clear hz2 hb hd HD
                have d5 : decide (q - 1 - d < a0.size) = true := decide_eq_true hj0
                have HJ2 := Aside0.mk (show (q - 1 - (d + 1)) + 1 = q - 1 - d from by have := HD2.out; have := HB.out; omega)
                obtain ⟨j, hj⟩ : ∃ j, q - 1 - d = j := ⟨_, rfl⟩
                rw [hj] at hx hj0 d5 HJ2 ⊢
                go_wp2
                go_roundw
                case rel => exact ⟨d + 1, iv3 j _ HJ2.out (by have := HLq.out; have := HZ.out; omega), ⟨HD2.out⟩, HM⟩
                case measure => have := HJ2.out; rw [w46 j (by have := HLq.out; have := HZ.out; omega)]; simp [intOf]; omega
          · have e5 : (y == 34) = false := beq_eq_false_iff_ne.2 y34
            have HQ2 := Aside0.mk (show q < p from Nat.lt_of_le_of_ne HQ.out.2 (fun h => y34 (by rw [← HY.out, h]; exact HE.out.1)))
            clear y34
            go_wp2_with (first | ((with_reducible refine gate_builtin (b := .append) (xs := #[.tmp 158, .tmp 163]) rfl ?_); at_builtin; refine ap_step rfl (.tmp 158) (.tmp 163) rfl a0 w _ q cap _ rfl rfl _ ?hl HY.out.symm (HM.out.more ?hb) HLq.out HC.out ?_; (case hl => exact new_cell _ _ _); (case hb => exact below_alloc_ _ _); intro W2 HM2; have hx2 := HM2.cell q HLq.out; rw [HY.out] at hx2; clear hx; have HM3 := Aside0.mk HM2; clear HM2 HM; have HM := HM3; clear HM3))
            go_roundw
            case rel => exact ⟨q + 1, rfl, iv q (Nat.le_of_lt (Nat.lt_of_lt_of_le HLq.out HZ.out)), ⟨Nat.lt_succ_of_lt HQ.out.1, HQ2.out⟩, HM⟩
            case measure => exact ms q _ HLq.out HZ.out
    · obtain rfl : k = a0.size := by have := HR.out.hi; omega
      have d1 : decide (((a0.size : Nat) : Int) < (a0.size : Int)) = false := decide_eq_false (by omega)
      clear hk
      go_wp2
      go_ret
      exact ⟨rfl, HM.out⟩
theorem inplace2 (a0 : ByteArray) (w W : World) (cap : Nat) (hcap : a0.size ≤ cap) (hz : a0.size ≤ 140737488355328) (HM0 : Mid a0 w W) (HR0 : Run (gt a0) a0.size 0) :
    Calls Try.prog 30 #[.slice (some ⟨w.heap.size, 0, none⟩) a0.size cap] W fun e w' => e = .returned (.slice (some ⟨w.heap.size, 0, none⟩) a0.size cap) ∧ Mid a0 w w' := by
  have hc := inplace a0 w W cap hcap hz HM0 HR0
  go_enter Try.func30, Try.ntmps30
  go_wp2_with (go_at_call 44; (with_reducible refine hc.mono ?_); rintro e w' ⟨rfl, HM⟩)
  go_ret
  exact ⟨rfl, HM⟩
set_option maxHeartbeats 4000000 in
set_option maxRecDepth 100000 in
theorem impl_PrSpecInPlace.calls (a0 : ByteArray) (r : ByteArray) (w : World) (h : impl_PrSpecInPlace.f a0 = some r) :
    Calls Try.prog 18 #[.string a0] w fun e w' => e = .returned (.string r) ∧ Below w.heap.size w w' := by
  unfold impl_PrSpecInPlace.f at h
  split at h
  · rename_i hh
    obtain ⟨hz, hr⟩ := hh
    obtain rfl := Option.some.inj h
    clear h
    have HR0 : Run (gt a0) a0.size 0 := run_of (a0.size + 1) 0 (Nat.zero_le _) hr
    clear hr
    have kb := fun W => print_bytes (P := Try.prog) 9 48 5 Try.underlying9 Try.underlying48 Try.underlying5 a0 W
    have HM := Mid.start a0 w 5
    have hcap : a0.size ≤ grownCap w a0.size 0 5 := grownCap_ge _ _ _ _
    obtain ⟨cap, hcp⟩ : ∃ cap, grownCap w a0.size 0 5 = cap := ⟨_, rfl⟩
    obtain ⟨W1, hW1⟩ : ∃ W1, Lib.bytesWorld w 5 a0 = W1 := ⟨_, rfl⟩
    have kb1 := kb w
    rw [hcp, hW1] at kb1
    rw [hcp] at hcap
    rw [hW1] at HM
    clear hcp hW1 kb
    have hc := inplace2 a0 w W1 cap hcap hz HM HR0
    have hcv := fun (W2 : World) (h : Mid a0 w W2) => h.done (P := Try.prog) 48 5 Try.underlying48 Try.underlying5 9 Try.underlying9 cap
    clear hcap HR0
    go_enter Try.func18, Try.ntmps18
    go_wp2_with (go_at_call 30; (with_reducible refine hc.mono ?_); rintro e w' ⟨rfl, HM2⟩; have hcv2 := hcv w' HM2; have HB := Aside0.mk HM2.below; clear HM2 hcv)
    go_ret
    exact ⟨rfl, HB.out⟩
  · cases h
end Go.Proofs.Ytnmbpleneddkhaa.PFnPrSpecPlain