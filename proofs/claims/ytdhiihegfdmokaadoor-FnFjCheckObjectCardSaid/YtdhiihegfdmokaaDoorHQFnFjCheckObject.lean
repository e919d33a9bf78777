/- strconv.ParseUint(s, 16, 16) of a text of four bytes, told by hand: the number of four hexadecimal digits, or an error; no condition beside those that each theorem states. -/
import Derived.Test.YtdhiihegfdmokaaDoorGXFnFjCheckObject
import Derived.Test.YtdhiihegfdmokaaDoorSHFnFjCheckObject
import Derived.Test.YtdhiihegfdmokaaDoorPFnFjCheckObjectx0
import Derived.Lib.Strings
import Derived.Lib.Walk
import Derived.Lib.ConvBytes
import Derived.Lib.Hide
import Derived.Laws.Strings3
import Derived.Laws.Closers25
import Derived.Laws.Closers25b
import Derived.WalkKit
import Derived.BigCall
import Derived.BigGuard
namespace Go.Proofs.YtdhiihegfdmokaaDoor.PFnFjCheckObject
open Go.RowKit Go.Proofs.YtdhiihegfdmokaaDoorW.PrintWords Go.Proofs.YtdhiihegfdmokaaDoorW.PrintLast Go.Proofs.YtdhiihegfdmokaaDoorW.PrintMore
set_option linter.unusedVariables false
set_option linter.unusedSimpArgs false
/-- The number of a hexadecimal digit. -/
def hx (c : Nat) : Option Nat := if 48 ≤ c ∧ c ≤ 57 then some (c - 48) else if 97 ≤ c ∧ c ≤ 102 then some (c - 87) else if 65 ≤ c ∧ c ≤ 70 then some (c - 55) else none
def hexs : Nat → List UInt8 → Option Nat
  | acc, [] => some acc
  | acc, c :: r => match hx c.toNat with
    | some d => hexs (acc * 16 + d) r
    | none => none
def strconv_ParseUint.f (a0 : ByteArray) (a1 : Int) (a2 : Int) : Option (Int × Option Int) :=
  if a1 = 16 ∧ a2 = 16 ∧ a0.size = 4 then
    match hexs 0 a0.data.toList with
    | some v => some (v, none)
    | none => some (0, some 0)
  else none
theorem low_ (n : Nat) (h : n < 256) : ∃ b : Int, bits .or .u8 (n : Int) 32 = b ∧ ((97 ≤ n ∧ n ≤ 102 ∧ b = n) ∨ (65 ≤ n ∧ n ≤ 70 ∧ b = n + 32) ∨ (¬ (97 ≤ n ∧ n ≤ 102) ∧ ¬ (65 ≤ n ∧ n ≤ 70) ∧ (b < 97 ∨ 102 < b))) ∧ 0 ≤ b ∧ b ≤ 255 := by
  refine ⟨_, rfl, ?_⟩
  revert n
  decide +kernel
def answer (o : Option Nat) : Value := match o with
  | some v => .tuple #[.int .u64 (v : Int), .nilIface]
  | none => .tuple #[.int .u64 0, .iface 120 (.int .i64 2)]
theorem bound_ {acc d k : Nat} (h : acc < 16 ^ k) (hk : k < 4) (hd : d < 16) : acc * 16 + d < 16 ^ (k + 1) ∧ acc * 16 + d ≤ 65535 ∧ acc ≤ 4095 := by
  have e : (16 : Nat) ^ (k + 1) = 16 ^ k * 16 := Nat.pow_succ ..
  have h2 : (16 : Nat) ^ k ≤ 4096 := by
    have : k = 0 ∨ k = 1 ∨ k = 2 ∨ k = 3 := by omega
    rcases this with rfl | rfl | rfl | rfl <;> decide
  omega
set_option maxHeartbeats 32000000 in
set_option maxRecDepth 100000 in
theorem inner_calls (t : ByteArray) (hsz : t.size = 4) (w : World) :
    Calls Tryd.prog 81 #[.string t, .int .i64 16, .int .i64 16] w fun e w' => e = .returned (answer (hexs 0 t.data.toList)) ∧ w' = Lib.bytesWorld w 5 t := by
  have hne : t.size ≠ 0 := by omega
  have hemp : t.toList.isEmpty = false := by
    rw [← decide_eq_emptyBytes]
    exact decide_eq_false (fun h => hne (by rw [h]; rfl))
  have hcv := Lib.run_convert_string_bytes (P := Tryd.prog) w 9 48 5 t (u := .string) Tryd.underlying9 Tryd.underlying48 Tryd.underlying5
  have hB : ∀ j, j < t.size → (Lib.bytesWorld w 5 t).cell? ⟨w.heap.size, j, none⟩ = some (.int .u8 (t.data.toList.getD j 0).toNat) := fun j hj => Lib.bytesWorld_cell w 5 t j hj
  obtain ⟨W1, hW1⟩ : ∃ W1, W1 = Lib.bytesWorld w 5 t := ⟨_, rfl⟩
  rw [← hW1] at hcv hB ⊢
  clear hW1
  obtain ⟨bs, hL⟩ : ∃ bs, bs = t.data.toList := ⟨_, rfl⟩
  have hLn : bs.length = t.size := by rw [hL, Lib.size_eq]
  rw [← hL] at hB ⊢
  clear hL
  have hmv : IntKind.u64.wrap (IntKind.u64.wrap 65536 - 1) = 65535 := by
    rw [IntKind.wrap_u64, IntKind.wrap_u64]
    decide
  go_enter Tryd.func81, Tryd.ntmps81
  go_wp2
  go_loop [12, 13, 101] (fun vu vn vi => ∃ (k acc : Nat) (a : Int), vu = .bool false ∧ vn = .int .u64 a ∧ vi = .int .i64 k ∧ k ≤ t.size ∧ Hid (a = (acc : Int) ∧ acc < 16 ^ k ∧ hexs 0 bs = hexs acc (bs.drop k)))
    (fun _ _ vi => t.size - (intOf vi).toNat)
  case atStart => exact ⟨0, 0, 0, rfl, rfl, rfl, by omega, rfl, by decide, rfl⟩
  case round =>
    obtain ⟨k, acc, a, rfl, rfl, rfl, hk, hh⟩ := hrel
    obtain ⟨ha, hacc, hdec⟩ := hh.out
    clear hh
    by_cases hkn : k < t.size
    · have hc := hB k hkn
      have hdrop : bs.drop k = bs[k]'(by omega) :: bs.drop (k + 1) := List.drop_eq_getElem_cons (by omega)
      have hget : bs.getD k 0 = bs[k]'(by omega) := by simp [List.getD, List.getElem?_eq_getElem (show k < bs.length by omega)]
      rw [hdrop] at hdec
      rw [hget] at hc
      generalize bs[k]'(by omega) = c at hc hdec
      have hc256 : c.toNat < 256 := c.toNat_lt
      obtain ⟨b, hb, hbc, hb0, hb1⟩ := low_ c.toNat hc256
      obtain ⟨n, hn⟩ : ∃ n, c.toNat = n := ⟨_, rfl⟩
      have hF0 : hexs acc (c :: bs.drop (k + 1)) = match hx n with
        | some d => hexs (acc * 16 + d) (bs.drop (k + 1))
        | none => none := by rw [← hn]; rfl
      rw [hF0] at hdec
      rw [hn] at hc hc256 hb hbc
      clear hB hdrop hget hF0 hn c
      have hlow : ∀ W : World, Calls Tryd.prog 86 #[.int .u8 (n : Int)] W fun e w' => e = .returned (.int .u8 b) ∧ w' = W := fun W => by
        rw [← hb]
        exact Tryd.internal_strconv_lower (n : Int) W
      clear hb
      obtain ⟨x, hx⟩ : ∃ x : Int, x = (n : Int) := ⟨_, rfl⟩
      rw [← hx] at hc hlow
      have a0 : 0 ≤ a := by omega
      by_cases hdig : 48 ≤ n ∧ n ≤ 57
      · have hF : PFnFjCheckObject.hx n = some (n - 48) := by unfold PFnFjCheckObject.hx; rw [if_pos hdig]
        rw [hF] at hdec
        obtain ⟨h1, h2, h3⟩ := bound_ (d := n - 48) hacc (by omega) (by omega)
        have HN : Hid (a * 16 + (x - 48) = ((acc * 16 + (n - 48) : Nat) : Int) ∧ acc * 16 + (n - 48) < 16 ^ (k + 1) ∧ hexs 0 bs = hexs (acc * 16 + (n - 48)) (bs.drop (k + 1))) := Lib.hid ⟨by omega, h1, hdec⟩
        have iov : a * 16 + (x - 48) ≤ 65535 := by omega
        have a1 : a ≤ 4095 := by omega
        have hd0 : 48 ≤ x := by omega
        have hd1 : x ≤ 57 := by omega
        clear hacc hF hdec ha hbc hb0 hb1 hdig h1 h2 h3 hx hc256 hlow
        go_wp2
        refine ⟨⟨k + 1, acc * 16 + (n - 48), a * 16 + (x - 48), rfl, (by first | rfl | (congr 1; omega)), (by first | rfl | (congr 1; omega)), by omega, HN⟩, by simp [intOf]; omega⟩
      · by_cases hlet : (97 ≤ n ∧ n ≤ 102) ∨ (65 ≤ n ∧ n ≤ 70)
        · obtain ⟨d, hF, hd16, hdb⟩ : ∃ d, PFnFjCheckObject.hx n = some d ∧ d < 16 ∧ b = (d : Int) + 87 := by
            unfold PFnFjCheckObject.hx
            rw [if_neg hdig]
            by_cases h1 : 97 ≤ n ∧ n ≤ 102
            · rw [if_pos h1]; exact ⟨_, rfl, by omega, by omega⟩
            · rw [if_neg h1, if_pos (by omega)]; exact ⟨_, rfl, by omega, by omega⟩
          rw [hF] at hdec
          obtain ⟨h1, h2, h3⟩ := bound_ (d := d) hacc (by omega) hd16
          have HN : Hid (a * 16 + (b - 97 + 10) = ((acc * 16 + d : Nat) : Int) ∧ acc * 16 + d < 16 ^ (k + 1) ∧ hexs 0 bs = hexs (acc * 16 + d) (bs.drop (k + 1))) := Lib.hid ⟨by omega, h1, hdec⟩
          have iov : a * 16 + (b - 97 + 10) ≤ 65535 := by omega
          have a1 : a ≤ 4095 := by omega
          have hd0 : 65 ≤ x := by omega
          have hd1 : x ≤ 102 := by omega
          have hx95 : (x = 95) = False := eq_false (by omega)
          have hb97 : 97 ≤ b := by omega
          have hb102 : b ≤ 102 := by omega
          clear hacc hF hdec ha hbc hb0 hb1 hdig h1 h2 h3 hx hc256 hlet hdb hd16
          go_wp2_with (go_at_call 86; (with_reducible refine (hlow _).mono ?_); rintro e w' ⟨rfl, rfl⟩)
          refine ⟨⟨k + 1, acc * 16 + d, a * 16 + (b - 97 + 10), rfl, (by first | rfl | (congr 1; omega)), (by first | rfl | (congr 1; omega)), by omega, HN⟩, by simp [intOf]; omega⟩
        · have hF : PFnFjCheckObject.hx n = none := by
            unfold PFnFjCheckObject.hx
            rw [if_neg hdig, if_neg (by omega), if_neg (by omega)]
          rw [hF] at hdec
          have hbb : b < 97 ∨ 102 < b := by omega
          have hxd : x < 48 ∨ 57 < x := by omega
          have hx0 : 0 ≤ x := by omega
          have hx1 : x ≤ 255 := by omega
          clear hacc hF ha hbc hdig hlet hx hc256
          by_cases hx95 : x = 95
          · subst hx95
            clear hxd hx0 hx1
            by_cases hb2 : b < 97
            · clear hbb hb1
              go_wp2_with (go_at_call 86; (with_reducible refine (hlow _).mono ?_); rintro e w' ⟨rfl, rfl⟩)
              all_goals go_ret2
              all_goals first | exact ⟨rfl, rfl⟩ | exact ⟨by rw [hdec]; rfl, rfl⟩
            · have hb3 : 102 < b := by omega
              clear hbb hb2 hb0
              go_wp2_with (go_at_call 86; (with_reducible refine (hlow _).mono ?_); rintro e w' ⟨rfl, rfl⟩)
              all_goals go_ret2
              all_goals first | exact ⟨rfl, rfl⟩ | exact ⟨by rw [hdec]; rfl, rfl⟩
          · by_cases hb2 : b < 97
            · clear hbb hb1
              go_wp2_with (go_at_call 86; (with_reducible refine (hlow _).mono ?_); rintro e w' ⟨rfl, rfl⟩)
              all_goals go_ret2
              all_goals first | exact ⟨rfl, rfl⟩ | exact ⟨by rw [hdec]; rfl, rfl⟩
            · have hb3 : 102 < b := by omega
              clear hbb hb2 hb0
              go_wp2_with (go_at_call 86; (with_reducible refine (hlow _).mono ?_); rintro e w' ⟨rfl, rfl⟩)
              all_goals go_ret2
              all_goals first | exact ⟨rfl, rfl⟩ | exact ⟨by rw [hdec]; rfl, rfl⟩
    · have hkk : k = t.size := by omega
      subst hkk
      have hF : hexs acc (bs.drop t.size) = some acc := by rw [List.drop_eq_nil_of_le (by omega)]; rfl
      rw [hF] at hdec
      subst ha
      clear hacc hF
      go_wp2
      go_ret2
      first | exact ⟨rfl, rfl⟩ | exact ⟨by rw [hdec]; rfl, rfl⟩
set_option maxHeartbeats 4000000 in
set_option maxRecDepth 100000 in
theorem strconv_ParseUint.calls (a0 : ByteArray) (a1 : Int) (a2 : Int) (r1 : Int) (r2 : Option Int) (w : World) (h : strconv_ParseUint.f a0 a1 a2 = some (r1, r2)) (hG : Glob w) :
    Calls Tryd.prog 73 #[.string a0, .int .i64 a1, .int .i64 a2] w fun e w' => ∃ ev : TypeId × Value, e = .returned (.tuple #[.int .u64 r1, errX r2 ev]) ∧ Below w.heap.size w w' := by
  obtain ⟨te, pe, hs⟩ := hG.e1
  unfold strconv_ParseUint.f at h
  split at h
  · rename_i hc
    obtain ⟨rfl, rfl, hz⟩ := hc
    have hin := inner_calls a0 hz
    have hb : Below w.heap.size w (Lib.bytesWorld w 5 a0) := bytes_below (Below.refl _ _) (Nat.le_refl _) _ _
    have hs2 : (Lib.bytesWorld w 5 a0).cell? ⟨1, 0, none⟩ = some (.iface te pe) := (hb.cell (World.block_lt_of_cell? w _ hs)).trans hs
    obtain ⟨o, ho⟩ : ∃ o, o = hexs 0 a0.data.toList := ⟨_, rfl⟩
    rw [← ho] at h hin
    clear ho
    cases o with
    | some v =>
      obtain ⟨rfl, rfl⟩ := Prod.mk.inj (Option.some.inj h)
      clear h
      dsimp only [answer] at hin
      go_enter Tryd.func73, Tryd.ntmps73
      go_wp2_with (go_at_call 81; (with_reducible refine (hin _).mono ?_); rintro e w' ⟨rfl, rfl⟩)
      go_ret2
      first | exact ⟨(0, .nilIface), rfl, hb⟩ | exact ⟨⟨0, .nilIface, rfl⟩, hb⟩
    | none =>
      obtain ⟨rfl, rfl⟩ := Prod.mk.inj (Option.some.inj h)
      clear h
      dsimp only [answer] at hin
      have hte := fun fn => Tryd.strconv_toError_syntax fn a0 16 16 (.iface te pe) (Lib.bytesWorld w 5 a0) (by omega) hs2 (.inr ⟨te, pe, rfl⟩)
      go_enter Tryd.func73, Tryd.ntmps73
      go_wp2_with (first | (go_at_call 81; (with_reducible refine (hin _).mono ?_); rintro e w' ⟨rfl, rfl⟩) | (go_at_call 82; (with_reducible refine (hte _).mono ?_); rintro e w' ⟨N, rfl, hN1, hN2, hN3⟩))
      go_ret2
      have hbb := below_step hb hN3
      first | exact ⟨(_, _), rfl, hbb⟩ | exact ⟨⟨_, _, rfl⟩, hbb⟩
  · cases h
end Go.Proofs.YtdhiihegfdmokaaDoor.PFnFjCheckObject