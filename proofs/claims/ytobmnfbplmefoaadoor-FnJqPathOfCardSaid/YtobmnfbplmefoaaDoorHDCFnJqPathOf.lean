/- The reference's Dress of a string without code, as a function; no condition beside those that each theorem states. -/
import Derived.Test.YtobmnfbplmefoaaDoorHDBFnJqPathOf
namespace Go.Proofs.YtobmnfbplmefoaaDoor.PFnJqPathOf
open Go.RowKit Go.Proofs.YtobmnfbplmefoaaDoorW.PrintWords Go.Proofs.YtobmnfbplmefoaaDoorW.PrintLast Go.Proofs.YtobmnfbplmefoaaDoorW.PrintMore
set_option linter.unusedVariables false
set_option linter.unusedSimpArgs false
set_option maxHeartbeats 4000000 in
set_option maxRecDepth 100000 in
theorem value_calls (base d : Nat) (A1 : Option Addr) (c1 : Nat) (v : Value) (l : List Int) (w0 W : World) (h : Dr base d A1 c1 v l w0 W) (s : ByteArray) (hC : Chs s 0) (hs : s.size ≤ 100000) (hl : l.length ≤ 1000) (A2 A3 : Option Addr) (c2 c3 : Nat) :
    Calls Tryd.prog 17 #[.pointer (some ⟨d, 0, none⟩), .agg #[.int .i64 4, .string s, .slice A2 0 c2, .slice A3 0 c3]] W fun e w' => e = .returned (.tuple #[]) ∧ ∃ v', Dr base d A1 c1 v' (l ++ ([34] ++ (bytesOf s).flatMap pc ++ [34])) w0 w' := by
  have k1 := fun o => quoted_calls base d A1 c1 v l w0 (W.alloc o) (h.more (below_alloc (Below.refl _ _) o)) s hC hs hl
  obtain ⟨lq, hlq⟩ : ∃ lq, l ++ ([34] ++ (bytesOf s).flatMap pc ++ [34]) = lq := ⟨_, rfl⟩
  rw [hlq] at k1 ⊢
  clear hlq h hC hs hl
  go_enter Tryd.func17, Tryd.ntmps17
  go_wp2_with (go_at_call 24; (with_reducible refine (k1 _).mono ?_); rintro e w1 ⟨rfl, HB⟩; have H1 := Aside0.mk HB; clear HB k1)
  go_end0
  exact ⟨rfl, H1.out⟩
set_option maxHeartbeats 4000000 in
set_option maxRecDepth 100000 in
theorem dress_calls (s : ByteArray) (hC : Chs s 0) (hs : s.size ≤ 100000) (A1 A2 A3 : Option Addr) (c1 c2 c3 : Nat) (w : World) :
    Calls Tryd.prog 11 #[.agg #[.int .i64 4, .string s, .slice A2 0 c2, .slice A3 0 c3], .slice A1 0 c1] w fun e w' => e = .returned (.string (strOfNums ([34] ++ (bytesOf s).flatMap pc ++ [34]))) ∧ Below w.heap.size w w' := by
  obtain ⟨W1, hW1⟩ : ∃ W1, w.alloc (.cells #[.int .i64 4, .string s, .slice A2 0 c2, .slice A3 0 c3] 37) = W1 := ⟨_, rfl⟩
  have hn : W1.heap.size = w.heap.size + 1 := by rw [← hW1]; exact Go.Deep.nblk_alloc _ _
  have hB1 : Below w.heap.size w W1 := by rw [← hW1]; exact below_alloc (Below.refl _ _) _
  have hk := heap_alloc_new W1 (.cells #[.slice A1 0 c1, .int .i64 0, .slice none 0 0] 46)
  have hD : Dr W1.heap.size (w.heap.size + 1) A1 c1 (.slice none 0 0) [] W1 (W1.alloc (.cells #[.slice A1 0 c1, .int .i64 0, .slice none 0 0] 46)) := by
    rw [hn] at hk
    refine ⟨below_alloc (Below.refl _ _) _, Nat.le_of_eq hn, ?_, (blk_cell hk 0).trans rfl, (blk_cell hk 2).trans rfl, blk_frozen hk 2, ⟨by simp [nums], .inl ⟨rfl, rfl⟩⟩, ⟨_, hk⟩, by simp [Value.ownBlock]⟩
    rw [Go.Deep.nblk_alloc]
    exact Nat.le_succ _
  have k1 := blanks_calls (w.heap.size + 1) A1 c1 _ hD.c0
  have k2 := value_calls _ _ A1 c1 _ [] _ _ hD s hC hs (by simp) A2 A3 c2 c3
  rw [List.nil_append] at k2
  obtain ⟨lq, hlq⟩ : ∃ lq, [34] ++ (bytesOf s).flatMap pc ++ [34] = lq := ⟨_, rfl⟩
  rw [hlq] at k2 ⊢
  rw [← hW1] at k1 k2
  have HB1 := Aside0.mk hB1
  have HW1 := Aside0.mk hW1
  clear hlq hD hC hs hk hn hB1 hW1
  go_enter Tryd.func11, Tryd.ntmps11
  go_wp2_with fail
  refine k1.mono ?_
  rintro e w1 ⟨rfl, rfl⟩
  clear k1
  go_wp2_with fail
  refine k2.mono ?_
  rintro e w2 ⟨rfl, v', h2⟩
  obtain ⟨Av, cv, rfl⟩ := own_slice h2.row
  have k3 := blanks_calls (w.heap.size + 1) A1 c1 _ h2.c0
  have g2 := h2.c2
  have hcv := own_string (P := Tryd.prog) Tryd.underlying23 Tryd.underlying5 Tryd.underlying9 h2.row
  have HBw := Aside0.mk (show Below w.heap.size w w2 from by
    have h3 := h2.below
    rw [HW1.out] at h3
    exact below_step HB1.out h3)
  clear h2 k2
  go_wp2_with fail
  refine k3.mono ?_
  rintro e w3 ⟨rfl, rfl⟩
  clear k3
  go_wp2
  go_ret
  exact ⟨rfl, HBw.out⟩
/-! ### as a function -/
abbrev S37 := Int
open Classical in
noncomputable def spec_Dress.f (a0_0 : Int) (a0_1 : ByteArray) (l0_2 : List ByteArray) (l0_3 : List S37) (l1 : List Int) : Option ByteArray :=
  if a0_0 = 4 ∧ l0_2 = [] ∧ l0_3 = [] ∧ l1 = [] ∧ Chs a0_1 0 ∧ a0_1.size ≤ 100000 then some (strOfNums ([34] ++ (bytesOf a0_1).flatMap pc ++ [34])) else none
theorem spec_Dress.calls (a0_0 : Int) (a0_1 : ByteArray) (A0_2 : Option Addr) (c0_2 : Nat) (l0_2 : List ByteArray) (A0_3 : Option Addr) (c0_3 : Nat) (l0_3 : List S37) (A1 : Option Addr) (c1 : Nat) (l1 : List Int) (r : ByteArray) (w : World)
    (hr0_2 : Kd.C Kd.string w A0_2 l0_2.length l0_2) (hc0_2 : l0_2.length ≤ c0_2) (hr0_3 : Kd.C (Kd.int .i64) w A0_3 l0_3.length l0_3) (hc0_3 : l0_3.length ≤ c0_3) (hr1 : Kd.C (Kd.int .u8) w A1 l1.length l1) (hc1 : l1.length ≤ c1) (h : spec_Dress.f a0_0 a0_1 l0_2 l0_3 l1 = some r) :
    Calls Tryd.prog 11 #[.agg #[.int .i64 a0_0, .string a0_1, .slice A0_2 l0_2.length c0_2, .slice A0_3 l0_3.length c0_3], .slice A1 l1.length c1] w fun e w' => e = .returned (.string r) ∧ Below w.heap.size w w' := by
  unfold spec_Dress.f at h
  split at h
  · rename_i hh
    obtain ⟨rfl, rfl, rfl, rfl, hC, hs⟩ := hh
    obtain rfl := Option.some.inj h
    exact dress_calls a0_1 hC hs A1 A0_2 A0_3 c1 c0_2 c0_3 w
  · cases h
end Go.Proofs.YtobmnfbplmefoaaDoor.PFnJqPathOf
