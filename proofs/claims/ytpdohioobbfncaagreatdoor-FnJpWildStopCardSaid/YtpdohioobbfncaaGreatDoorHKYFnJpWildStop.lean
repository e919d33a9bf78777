/- internalGetConfig with keys, Get; no condition beside those that each theorem states. -/
import Derived.Test.YtpdohioobbfncaaGreatDoorHSKFnJpWildStop
import Derived.Test.YtpdohioobbfncaaGreatDoorJAFnJpWildStop
namespace Go.Proofs.YtpdohioobbfncaaGreatDoor.PFnJpWildStop
open Go.RowKit Go.Proofs.YtpdohioobbfncaaGreatDoorW.PrintWords Go.Proofs.YtpdohioobbfncaaGreatDoorW.PrintLast Go.Proofs.YtpdohioobbfncaaGreatDoorW.PrintMore
set_option linter.unusedVariables false
set_option linter.unusedSimpArgs false
/-- searchKeysConfig, with keys or without. -/
theorem search_all : ∀ (N : Nat) (keys : List ByteArray), keys.length < N → ∀ (s : ByteArray) (e a : Nat) (r : Option Nat), SR s e keys 0 0 a true r → (keys = [] → r = some a) → ∀ (b c kb ko kc : Nat) (kA : Option Addr) (w : World), e ≤ s.size → s.size ≤ 2147483647 → a ≤ e → e - a ≤ c → (∀ k ∈ keys, k.size ≤ 2147483647) → keys.length ≤ kc → True → (keys ≠ [] → kA = some ⟨kb, ko, none⟩) → Glob w → Tx b s w → Ky kb ko keys w →
      Calls Tryz.prog 49 #[cfgV, .slice (some ⟨b, a, none⟩) (e - a) c, .slice kA keys.length kc] w fun e' w' => e' = .returned (.int .i64 (ret a r)) ∧ Below w.heap.size w w' := by
  intro N
  induction N with
  | zero => intro keys h; exact absurd h (Nat.not_lt_zero _)
  | succ N ih =>
    intro keys hl s e a r hsr hnil b c kb ko kc kA w he hz hae hc hks hkc hkz hkA hG hT hK
    by_cases h0 : keys = []
    · subst h0
      obtain rfl := hnil rfl
      exact search_nil b a (e - a) c kc kA w
    · obtain rfl := hkA h0
      have hpos : 0 < keys.length := List.length_pos_iff.2 h0
      exact search_step keys.length (fun keys2 h2 => ih keys2 (Nat.lt_of_lt_of_le h2 (Nat.le_of_lt_succ hl))) keys rfl hpos s e a r hsr b c kb ko kc w he hz hae hc hks hkc hkz hG hT hK
/-- What is looked at: the text, and the configuration's own block. -/
structure Tk (b : Nat) (s : ByteArray) (kb ko : Nat) (keys : List ByteArray) (w0 W : World) : Prop where
  tq : Tq b s w0 W
  key : Ky kb ko keys W
theorem Tk.more {b : Nat} {s : ByteArray} {kb ko : Nat} {keys : List ByteArray} {w0 W W' : World} (h : Tk b s kb ko keys w0 W) (hb : Below W.heap.size W W') : Tk b s kb ko keys w0 W' := ⟨h.tq.more hb, h.key.more hb⟩
theorem Tk.drew {b : Nat} {s : ByteArray} {kb ko : Nat} {keys : List ByteArray} {w0 W : World} (h : Tk b s kb ko keys w0 W) : Tk b s kb ko keys w0 W.drew := h.more (Below.refl _ _).drew
end Go.Proofs.YtpdohioobbfncaaGreatDoor.PFnJpWildStop/- A row of keys and a text as jsonparser is handed them; no condition beside those that each theorem states. -/
namespace Go.Proofs.YtpdohioobbfncaaGreatDoor.PFnJpWildStop
open Go.RowKit Go.Proofs.YtpdohioobbfncaaGreatDoor.JFnJpWildStop Go.Proofs.YtpdohioobbfncaaGreatDoorW.PrintWords Go.Proofs.YtpdohioobbfncaaGreatDoorW.PrintLast Go.Proofs.YtpdohioobbfncaaGreatDoorW.PrintMore
set_option linter.unusedVariables false
set_option linter.unusedSimpArgs false
/-- What is asked at a call with a text and keys. -/
structure Qk (b c kb ko kc : Nat) (kA : Option Addr) (s : ByteArray) (keys : List ByteArray) (W : World) : Prop where
  hz : s.size ≤ 2147483647
  hc : s.size ≤ c
  hks : ∀ k ∈ keys, k.size ≤ 2147483647
  hkc : keys.length ≤ kc
  hkA : keys ≠ [] → kA = some ⟨kb, ko, none⟩
  glob : Glob W
  text : Tx b s W
  key : Ky kb ko keys W
theorem Qk.more {b c kb ko kc : Nat} {kA : Option Addr} {s : ByteArray} {keys : List ByteArray} {W W' : World} (h : Qk b c kb ko kc kA s keys W) (hb : Below W.heap.size W W') : Qk b c kb ko kc kA s keys W' := ⟨h.hz, h.hc, h.hks, h.hkc, h.hkA, h.glob.below hb, h.text.more hb, h.key.more hb⟩
theorem ky_of {A : Option Addr} {keys : List ByteArray} {w : World} (h : Kd.C Kd.string w A keys.length keys) : ∃ kb ko, (keys ≠ [] → A = some ⟨kb, ko, none⟩) ∧ Ky kb ko keys w := by
  by_cases h0 : keys = []
  · subst h0
    exact ⟨0, 0, fun hh => absurd rfl hh, ⟨fun j hj => absurd hj (Nat.not_lt_zero _)⟩⟩
  · have hp := List.length_pos_iff.2 h0
    obtain ⟨⟨kb, ko, sp⟩, hA, hc⟩ := Kd.at_string h 0 (by omega) (by omega)
    have hsp : sp = none := by
      cases sp with
      | none => rfl
      | some x =>
        have h1 := cell_spot (b := ((⟨kb, ko, some x⟩ : Addr).add 0).block) (o := ((⟨kb, ko, some x⟩ : Addr).add 0).off) (sp := ((⟨kb, ko, some x⟩ : Addr).add 0).spot) hc
        simp [Addr.add] at h1
    subst hsp
    refine ⟨kb, ko, fun _ => hA, ⟨fun j hj => ?_⟩⟩
    obtain ⟨ad, hA2, hc2⟩ := Kd.at_string h (j : Int) (by omega) (by omega)
    rw [hA] at hA2
    obtain rfl := Option.some.inj hA2
    rw [Int.toNat_natCast] at hc2
    rw [show (⟨kb, ko + j, none⟩ : Addr) = (⟨kb, ko, none⟩ : Addr).add j by simp [Addr.add], hc2]
    unfold rdOf
    rw [Int.toNat_natCast]
theorem tx_of (s : ByteArray) (w : World) : Tx w.heap.size s (Lib.bytesWorld w 5 s) := by
  refine ⟨fun i hi => ?_⟩
  rw [Lib.bytesWorld_cell w 5 s i hi, bt_getD, Int.toNat_natCast]
end Go.Proofs.YtpdohioobbfncaaGreatDoor.PFnJpWildStop