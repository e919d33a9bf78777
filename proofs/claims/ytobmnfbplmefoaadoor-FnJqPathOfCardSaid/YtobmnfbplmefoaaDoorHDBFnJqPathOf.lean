/- The reference's Dress of a string without code, told by hand: the string, the value, the whole; no condition beside those that each theorem states. -/
import Derived.Test.YtobmnfbplmefoaaDoorHDAFnJqPathOf
namespace Go.Proofs.YtobmnfbplmefoaaDoor.PFnJqPathOf
open Go.RowKit Go.Proofs.YtobmnfbplmefoaaDoorW.PrintWords Go.Proofs.YtobmnfbplmefoaaDoorW.PrintLast Go.Proofs.YtobmnfbplmefoaaDoorW.PrintMore
set_option linter.unusedVariables false
set_option linter.unusedSimpArgs false
set_option maxHeartbeats 4000000 in
set_option maxRecDepth 100000 in
theorem escape_calls (base d : Nat) (A1 : Option Addr) (c1 : Nat) (v : Value) (l : List Int) (w0 W : World) (h : Dr base d A1 c1 v l w0 W) (x : Int) (h0 : 0 ≤ x) (h1 : x < 65536) (hl : l.length ≤ 1000000) :
    Calls Tryd.prog 30 #[.pointer (some ⟨d, 0, none⟩), .int .i64 x] W fun e w' => e = .returned (.tuple #[]) ∧ ∃ v', Dr base d A1 c1 v' (l ++ [92, 117, dgt (x / 4096 % 16), dgt (x / 256 % 16), dgt (x / 16 % 16), dgt (x % 16)]) w0 w' := by
  have k1 := unit_calls base d A1 c1 v l w0 W h x h0 h1 hl
  have d1 : decide (x ≥ 65536) = false := decide_eq_false (by omega)
  have d2 : decide (65536 ≤ x) = false := decide_eq_false (by omega)
  obtain ⟨l2, hl2⟩ : ∃ l2, l ++ [92, 117, dgt (x / 4096 % 16), dgt (x / 256 % 16), dgt (x / 16 % 16), dgt (x % 16)] = l2 := ⟨_, rfl⟩
  rw [hl2] at k1 ⊢
  clear h hl2 hl
  go_enter Tryd.func30, Tryd.ntmps30
  go_wp2_with (go_at_call 34; (with_reducible refine k1.mono ?_); rintro e w1 ⟨rfl, HB⟩; have H1 := Aside0.mk HB; clear HB k1)
  go_end0
  exact ⟨rfl, H1.out⟩
/-! ### what stands for a byte -/
def letF (b : Int) : Int := if b = 8 then 98 else if b = 12 then 102 else if b = 10 then 110 else if b = 13 then 114 else if b = 9 then 116 else b
/-- A byte as it stands in a string of a JSON text that is written without code. -/
def pc (b : Int) : List Int := if b = 8 ∨ b = 12 ∨ b = 10 ∨ b = 13 ∨ b = 9 ∨ b = 34 ∨ b = 92 then [92, letF b] else if b < 32 then [92, 117, 48, 48, dgt (b / 16), dgt (b % 16)] else [b]
/-- The characters of a text from a place on. -/
inductive Chs (s : ByteArray) : Nat → Prop
  | done : Chs s s.size
  | step (i sz : Nat) (c : Int) (k : Nat) (hc : spec_Character.f k s i = some (c, (sz : Int), true)) (h1 : 1 ≤ sz) (h2 : i + sz ≤ s.size) (h3 : (sz = 1 ∧ c = bt s i ∧ bt s i < 128) ∨ ∀ q : Nat, i ≤ q → q < i + sz → 128 ≤ bt s q) (t : Chs s (i + sz)) : Chs s i
theorem short_f (b : Int) : ∃ lt ok, spec_shortOf.f b = some (lt, ok) ∧ ((b = 8 ∨ b = 12 ∨ b = 10 ∨ b = 13 ∨ b = 9 ∨ b = 34 ∨ b = 92 ∨ b = 47) ∧ ok = true ∧ lt = letF b ∨ ¬ (b = 8 ∨ b = 12 ∨ b = 10 ∨ b = 13 ∨ b = 9 ∨ b = 34 ∨ b = 92 ∨ b = 47) ∧ ok = false ∧ lt = 0) := by
  by_cases h : b = 8 ∨ b = 12 ∨ b = 10 ∨ b = 13 ∨ b = 9 ∨ b = 34 ∨ b = 92 ∨ b = 47
  · refine ⟨letF b, true, ?_, .inl ⟨h, rfl, rfl⟩⟩
    rcases h with rfl | rfl | rfl | rfl | rfl | rfl | rfl | rfl <;> rfl
  · refine ⟨0, false, ?_, .inr ⟨h, rfl, rfl⟩⟩
    simp only [not_or] at h
    obtain ⟨h1, h2, h3, h4, h5, h6, h7, h8⟩ := h
    unfold spec_shortOf.f
    rw [if_neg h1, if_neg h2, if_neg h3, if_neg h4, if_neg h5, if_neg h6, if_neg h7, if_neg h8]
theorem bytes_piece (s : ByteArray) (i n : Nat) (h : i + n ≤ s.size) : bytesOf (s.extract i (i + n)) = ((bytesOf s).drop i).take n := by
  unfold bytesOf
  rw [← List.map_drop, ← List.map_take]
  congr 1
  rw [ByteArray.data_extract, Array.toList_extract, List.extract_eq_take_drop]
  congr 1
  omega
theorem bytes_at (s : ByteArray) (q : Nat) (h : q < s.size) : ∃ hq : q < (bytesOf s).length, (bytesOf s)[q] = bt s q := by
  have hl := bytesOf_length s
  refine ⟨by omega, ?_⟩
  rw [← rd_bytesOf]
  simp [rd, List.getD_eq_getElem?_getD, show q < (bytesOf s).length by omega]
/-- The piece of a character of one byte. -/
theorem piece_one (s : ByteArray) (i : Nat) (h : i < s.size) : ((bytesOf s).take (i + 1)).flatMap pc = ((bytesOf s).take i).flatMap pc ++ pc (bt s i) := by
  obtain ⟨hq, hb⟩ := bytes_at s i h
  rw [List.take_succ_eq_append_getElem hq, List.flatMap_append, hb]
  simp
theorem flat_self (l : List Int) (h : ∀ b ∈ l, 128 ≤ b) : l.flatMap pc = l := by
  induction l with
  | nil => rfl
  | cons b l ih =>
    have hb := h b (by simp)
    rw [List.flatMap_cons, ih (fun x hx => h x (by simp [hx]))]
    unfold pc
    rw [if_neg (by omega), if_neg (by omega)]
    rfl
theorem piece_more (s : ByteArray) (i n : Nat) (h : i + n ≤ s.size) (hb : ∀ q : Nat, i ≤ q → q < i + n → 128 ≤ bt s q) : ((bytesOf s).take (i + n)).flatMap pc = ((bytesOf s).take i).flatMap pc ++ bytesOf (s.extract i (i + n)) := by
  have hf : (((bytesOf s).drop i).take n).flatMap pc = ((bytesOf s).drop i).take n := by
    refine flat_self _ (fun b hm => ?_)
    obtain ⟨j, hj, hbj⟩ := List.mem_iff_getElem.1 hm
    have hj2 := hj
    rw [List.length_take] at hj2
    rw [List.getElem_take, List.getElem_drop] at hbj
    have hjn : j < n := by omega
    obtain ⟨hq, he⟩ := bytes_at s (i + j) (by omega)
    rw [← hbj, he]
    exact hb (i + j) (by omega) (by omega)
  rw [bytes_piece s i n h, List.take_add, List.flatMap_append, hf]
theorem pc_len (b : Int) : (pc b).length ≤ 6 := by
  unfold pc
  split
  · simp
  · split <;> simp
theorem flat_len (l : List Int) : (l.flatMap pc).length ≤ 6 * l.length := by
  induction l with
  | nil => simp
  | cons b l ih =>
    have := pc_len b
    rw [List.flatMap_cons, List.length_append, List.length_cons]
    omega
set_option maxHeartbeats 8000000 in
set_option maxRecDepth 100000 in
theorem quoted_calls (base d : Nat) (A1 : Option Addr) (c1 : Nat) (v : Value) (l : List Int) (w0 W : World) (h : Dr base d A1 c1 v l w0 W) (s : ByteArray) (hC : Chs s 0) (hs : s.size ≤ 100000) (hl : l.length ≤ 1000) :
    Calls Tryd.prog 24 #[.pointer (some ⟨d, 0, none⟩), .string s] W fun e w' => e = .returned (.tuple #[]) ∧ ∃ v', Dr base d A1 c1 v' (l ++ ([34] ++ (bytesOf s).flatMap pc ++ [34])) w0 w' := by
  obtain ⟨lq, hlq⟩ : ∃ lq, l ++ ([34] ++ (bytesOf s).flatMap pc ++ [34]) = lq := ⟨_, rfl⟩
  rw [hlq]
  have HLQ := Aside0.mk hlq
  clear hlq
  have g0 := h.c0
  have g2 := h.c2
  have gf := h.f2
  have HD := Aside0.mk h
  have HL := Aside0.mk hl
  have HS := Aside0.mk hs
  have HC := Aside0.mk hC
  have hs' : (s.size : Int) ≤ 100000 := by omega
  clear h hl hs hC
  go_enter Tryd.func24, Tryd.ntmps24
  go_wp2_with (first | ((with_reducible refine gate_builtin (b := .append) (xs := #[.tmp 16, .tmp 17]) rfl ?_); at_builtin; refine dr_append rfl (.tmp 16) (.tmp 17) rfl HD.out [34] (by decide) rfl rfl (by have := HL.out; simp; omega) ?_; intro Ab cb l2 W1 hl2 hp; have HP := Aside0.mk hp; have HL2 := Aside0.mk hl2; have g0b := hp.c0; have g2b := hp.c2; have gfb := hp.f2; clear hp hl2))
  have HD1 := Aside0.mk HP.out.put
  clear g0 g2 gf g0b g2b gfb HP HD
  go_loopw [4] (fun vi wr => ∃ (i : Nat) (v : Value) (l3 : List Int), vi = .int .i64 i ∧ Aside0 (Chs s i ∧ i ≤ s.size ∧ l3 = l2 ++ ((bytesOf s).take i).flatMap pc) ∧ Aside0 (Dr base d A1 c1 v l3 w0 wr)) (fun vi _ => s.size - (intOf vi).toNat)
  case atStart => exact ⟨0, _, l2, rfl, ⟨HC.out, Nat.zero_le _, by simp⟩, HD1⟩
  case round =>
    clear HD1 HC
    obtain ⟨i, v2, l3, rfl, HN, HD⟩ := hrel
    have g0 := HD.out.c0
    have g2 := HD.out.c2
    have gf := HD.out.f2
    have k1 := pick_calls d A1 c1 4 wr g0
    obtain ⟨hCi, hi, hl3⟩ := HN.out
    have hll : l3.length ≤ 1000000 := by
      have h1 := HL.out
      have h2 := HS.out
      have h3 := flat_len ((bytesOf s).take i)
      rw [List.length_take, bytesOf_length] at h3
      rw [hl3, List.length_append, HL2.out, List.length_append]
      simp only [List.length_cons, List.length_nil]
      omega
    have HLL := Aside0.mk hll
    cases hCi with
    | done =>
      have d1 : decide ((s.size : Int) < (s.size : Int)) = false := decide_eq_false (by omega)
      have HL3 := Aside0.mk hl3
      clear hl3 hi hll k1
      go_wp2_with (first | ((with_reducible refine gate_builtin (b := .append) (xs := #[.tmp 125, .tmp 126]) rfl ?_); at_builtin; refine dr_append rfl (.tmp 125) (.tmp 126) rfl HD.out [34] (by decide) rfl rfl (by have := HLL.out; simp; omega) ?_; intro Ac cc l4 W2 hl4 hp; have HP := Aside0.mk hp; have HL4 := Aside0.mk hl4; have g0b := hp.c0; have g2b := hp.c2; have gfb := hp.f2; clear hp hl4))
      go_end0
      refine ⟨rfl, .slice Ac l4.length cc, ?_⟩
      have h9 := HP.out.put
      have ht : (bytesOf s).take s.size = bytesOf s := List.take_of_length_le (by rw [bytesOf_length]; exact Nat.le_refl _)
      have e9 : l4 = lq := by
        rw [HL4.out, HL3.out, HL2.out, ht, ← HLQ.out]
        simp
      rw [← e9]
      exact h9
    | step _ sz c k hc h1 h2 h3 t =>
      obtain ⟨b, hb⟩ : ∃ b, bt s i = b := ⟨_, rfl⟩
      have hbr := bt_range s (i : Int)
      have hx : ∀ h : i < s.size, ((s[i]'h).toNat : Int) = b := fun h => by rw [← hb]; exact bt_at s (i : Int) h
      obtain ⟨lt, ok, hsf, hok⟩ := short_f b
      have k1 := fun (m : Nat) => pick_calls d A1 c1 4 (wr.drewN m) g0
      have HCc := Aside0.mk hc
      have HSf := Aside0.mk hsf
      have HT := Aside0.mk t
      have HBb := Aside0.mk hb
      have hiS : i < s.size := by omega
      have d1 : decide ((i : Int) < (s.size : Int)) = true := decide_eq_true (by omega)
      have d2 : decide (i < s.size) = true := decide_eq_true hiS
      have hll' : (sz : Int) ≤ 100000 := by have := HS.out; omega
      have hi' : (i : Int) ≤ 100000 := by have := HS.out; omega
      rw [hb] at hbr
      by_cases hsp : b = 8 ∨ b = 12 ∨ b = 10 ∨ b = 13 ∨ b = 9 ∨ b = 34 ∨ b = 92
      · obtain rfl : sz = 1 := by
          rcases h3 with h3 | h3
          · exact h3.1
          · have := h3 i (Nat.le_refl _) (by omega)
            omega
        have hpc : pc b = [92, letF b] := by unfold pc; rw [if_pos hsp]
        obtain ⟨rfl, rfl⟩ : ok = true ∧ lt = letF b := by
          rcases hok with h | h
          · exact h.2
          · exact absurd (by omega) h.1
        have HPC := Aside0.mk (show ((bytesOf s).take (i + 1)).flatMap pc = ((bytesOf s).take i).flatMap pc ++ [92, letF b] by rw [piece_one s i hiS, hb, hpc])
        obtain ⟨lt, hlt⟩ : ∃ lt, letF b = lt := ⟨_, rfl⟩
        rw [hlt] at HPC HSf
        have HL3 := Aside0.mk hl3
        have HI := Aside0.mk (show i + 1 ≤ s.size from h2)
        clear hc hsf t hb h1 h2 h3 hok hpc hlt hl3 hi hll hbr
        rcases hsp with rfl | rfl | rfl | rfl | rfl | rfl | rfl
        all_goals
          go_wp2_with (first | (go_at_call 9; (with_reducible refine (spec_Character.calls k s (i : Int) c ((1 : Nat) : Int) true _ HCc.out).mono ?_); rintro e w1 ⟨rfl, ⟨nd, rfl⟩⟩) | (go_at_call 29; (with_reducible refine (spec_shortOf.calls _ lt true _ HSf.out).mono ?_); rintro e w1 ⟨rfl, ⟨nd2, rfl⟩⟩) | (go_at_call 22; (with_reducible refine (k1 _).mono ?_); rintro e w1 ⟨rfl, rfl⟩) | ((with_reducible refine gate_builtin (b := .append) (xs := #[.tmp 112, .tmp 114]) rfl ?_); at_builtin; refine dr_append rfl (.tmp 112) (.tmp 114) rfl (HD.out.more (pw_below_drewN (Below.refl _ _) _)) [92, lt] (by simp) rfl rfl (by have := HLL.out; simp; omega) ?_; intro Ac cc l4 W2 hl4 hp; have HP := Aside0.mk hp; have HL4 := Aside0.mk hl4; have g0b := hp.c0; have g2b := hp.c2; have gfb := hp.f2; clear hp hl4))
          go_round
          case rel => exact ⟨i + 1, _, l4, by go_num, ⟨HT.out, HI.out, by rw [HL4.out, HL3.out, HPC.out, List.append_assoc]⟩, ⟨HP.out.put⟩⟩
          case measure => have := HI.out; simp [intOf]; omega
      · by_cases h32 : b < 32
        · obtain rfl : sz = 1 := by
            rcases h3 with h3 | h3
            · exact h3.1
            · have := h3 i (Nat.le_refl _) (by omega)
              omega
          have hcb : c = b := by
            rcases h3 with h3 | h3
            · rw [h3.2.1, hb]
            · have := h3 i (Nat.le_refl _) (by omega)
              omega
          subst hcb
          have hpc : pc c = [92, 117, 48, 48, dgt (c / 16), dgt (c % 16)] := by unfold pc; rw [if_neg hsp, if_pos h32]
          obtain ⟨rfl, rfl⟩ : ok = false ∧ lt = 0 := by
            rcases hok with h | h
            · exact absurd (by omega) hsp
            · exact h.2
          have HPC := Aside0.mk (show ((bytesOf s).take (i + 1)).flatMap pc = ((bytesOf s).take i).flatMap pc ++ [92, 117, dgt (c / 4096 % 16), dgt (c / 256 % 16), dgt (c / 16 % 16), dgt (c % 16)] by
            rw [piece_one s i hiS, hb, hpc, show c / 4096 % 16 = 0 by omega, show c / 256 % 16 = 0 by omega, show c / 16 % 16 = c / 16 by omega]
            rfl)
          have HL3 := Aside0.mk hl3
          have HI := Aside0.mk (show i + 1 ≤ s.size from h2)
          have k2 := fun (m : Nat) => escape_calls base d A1 c1 v2 l3 w0 (wr.drewN m) (HD.out.more (pw_below_drewN (Below.refl _ _) m)) c hbr.1 (by omega) hll
          obtain ⟨l4, hl4⟩ : ∃ l4, l3 ++ [92, 117, dgt (c / 4096 % 16), dgt (c / 256 % 16), dgt (c / 16 % 16), dgt (c % 16)] = l4 := ⟨_, rfl⟩
          rw [hl4] at k2
          have HL4 := Aside0.mk hl4
          have e1 : decide (c < 32) = true := decide_eq_true h32
          clear hc hsf t hb h1 h2 h3 hok hpc hl3 hi hll hbr hl4 hsp h32
          go_wp2_with (first | (go_at_call 9; (with_reducible refine (spec_Character.calls k s (i : Int) c ((1 : Nat) : Int) true _ HCc.out).mono ?_); rintro e w1 ⟨rfl, ⟨nd, rfl⟩⟩) | (go_at_call 29; (with_reducible refine (spec_shortOf.calls c 0 false _ HSf.out).mono ?_); rintro e w1 ⟨rfl, ⟨nd2, rfl⟩⟩) | (go_at_call 22; (with_reducible refine (k1 _).mono ?_); rintro e w1 ⟨rfl, rfl⟩) | (go_at_call 30; (with_reducible refine (k2 _).mono ?_); rintro e w1 ⟨rfl, HB⟩; have HP := Aside0.mk HB; clear HB))
          go_round
          case rel =>
            obtain ⟨v9, h9⟩ := HP.out
            exact ⟨i + 1, v9, l4, by go_num, ⟨HT.out, HI.out, by rw [← HL4.out, HL3.out, HPC.out, List.append_assoc]⟩, ⟨h9⟩⟩
          case measure => have := HI.out; simp [intOf]; omega
        · have e1 : decide (b < 32) = false := decide_eq_false h32
          have e2 : (b == 34) = false := beq_eq_false_iff_ne.2 (fun h => hsp (by omega))
          have e3 : (b == 92) = false := beq_eq_false_iff_ne.2 (fun h => hsp (by omega))
          have HPC := Aside0.mk (show ((bytesOf s).take (i + sz)).flatMap pc = ((bytesOf s).take i).flatMap pc ++ bytesOf (s.extract i (i + sz)) by
            rcases h3 with h3 | h3
            · rw [h3.1, piece_one s i hiS, bytes_piece s i 1 hiS, hb, show pc b = [b] by unfold pc; rw [if_neg hsp, if_neg h32]]
              obtain ⟨hq, he⟩ := bytes_at s i hiS
              rw [List.drop_eq_getElem_cons hq, he, hb]
              rfl
            · exact piece_more s i sz h2 h3)
          have HL3 := Aside0.mk hl3
          have HI := Aside0.mk (And.intro h1 h2)
          have HE := Aside0.mk (show l3.length + (s.extract i (i + sz)).size ≤ 140737488355328 by
            rw [ByteArray.size_extract]
            have := HS.out
            omega)
          have f1 : decide (0 ≤ (i : Int)) = true := decide_eq_true (by omega)
          have f2 : decide ((i : Int) ≤ (i : Int) + (sz : Int)) = true := decide_eq_true (by omega)
          have f3 : (i : Int) + (sz : Int) ≤ (s.size : Int) := by omega
          have f4 : 0 ≤ (i : Int) + (sz : Int) := by omega
          have f5 : ((i : Int) + (sz : Int)).toNat = i + sz := by omega
          have f6 : i + sz ≤ s.size := h2
          have f7 : (i : Int) ≤ (i : Int) + (sz : Int) := by omega
          have f8 : IntKind.i64.wrap ((i : Int) + (sz : Int)) = (i : Int) + (sz : Int) := by rw [IntKind.wrap_i64]; omega
          have F8 := Aside0.mk f8
          have g0a := fun (m : Nat) => (show (wr.drewN m).cell? ⟨d, 0, none⟩ = some (.slice A1 0 c1) from g0)
          clear hc hsf t hb h1 h2 h3 hl3 hi hll hbr hsp h32
          rcases hok with ⟨_, rfl, _⟩ | ⟨_, rfl, _⟩
          all_goals
            go_wp2_with (first | (go_at_call 9; (with_reducible refine (spec_Character.calls k s (i : Int) c (sz : Int) true _ HCc.out).mono ?_); rintro e w1 ⟨rfl, ⟨nd, rfl⟩⟩) | (go_at_call 29; (with_reducible refine (spec_shortOf.calls b lt _ _ HSf.out).mono ?_); rintro e w1 ⟨rfl, ⟨nd2, rfl⟩⟩) | (go_at_call 22; (with_reducible refine (k1 _).mono ?_); rintro e w1 ⟨rfl, rfl⟩))
            go_region_law (first | (refine dr_str_step rfl (.tmp 61) (.tmp 67) rfl (HD.out.more ?hb) (s.extract i (i + sz)) rfl rfl HE.out ?_; (case hb => repeat (first | exact Below.refl _ _ | apply below_drew | apply pw_below_drewN)); intro Ac cc l4 W2 hl4 hp; have HP := Aside0.mk hp; have HL4 := Aside0.mk hl4; have g0b := hp.c0; have g2b := hp.c2; have gfb := hp.f2; clear hp hl4))
          all_goals
            clear g0 g2 gf g0a g0b g2b gfb
            go_wp2
            go_round
            case rel => exact ⟨i + sz, _, l4, by go_num, ⟨HT.out, HI.out.2, by rw [HL4.out, HL3.out, HPC.out, List.append_assoc]⟩, ⟨HP.out.put⟩⟩
            case measure => have := HI.out; simp [intOf]; omega
end Go.Proofs.YtobmnfbplmefoaaDoor.PFnJqPathOf
