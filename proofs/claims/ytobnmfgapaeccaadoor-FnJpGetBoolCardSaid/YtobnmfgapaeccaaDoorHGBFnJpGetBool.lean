/- impl.JpGetBool where keys lead to a value of a JSON text, told by hand; no condition beside those that each theorem states. -/
import Derived.Test.YtobnmfgapaeccaaDoorHGTFnJpGetBool
import Derived.Test.YtobnmfgapaeccaaDoorFKFnJpGetBool
namespace Go.Proofs.YtobnmfgapaeccaaDoor.PFnJpGetBool
open Go.RowKit Go.Proofs.YtobnmfgapaeccaaDoor.JFnJpGetBool Go.Proofs.YtobnmfgapaeccaaDoorW.PrintWords Go.Proofs.YtobnmfgapaeccaaDoorW.PrintLast Go.Proofs.YtobnmfgapaeccaaDoorW.PrintMore
set_option linter.unusedVariables false
set_option linter.unusedSimpArgs false
open Classical in
/-- What a function with rounds tells at last. -/
noncomputable def lim {α : Type} (g : Nat → Option α) : Option α := if h : ∃ k, g k ≠ none then g h.choose else none
theorem lim_some {α : Type} {g : Nat → Option α} {r : α} (h : lim g = some r) : ∃ k, g k = some r := by
  unfold lim at h
  split at h
  · exact ⟨_, h⟩
  · cases h
theorem lim_ev {α : Type} {g : Nat → Option α} {r : α} (hg : ∀ k, LeO (g k) (g (k + 1))) (h : lim g = some r) : Ev g r := by
  obtain ⟨K, hK⟩ := lim_some h
  exact ⟨K, fun k hk => at_rounds hg hk hK⟩
theorem lim_of {α : Type} {g : Nat → Option α} {r : α} (hg : ∀ k, LeO (g k) (g (k + 1))) (h : Ev g r) : lim g = some r := by
  obtain ⟨K, hK⟩ := h
  unfold lim
  have he : ∃ k, g k ≠ none := ⟨K, by rw [hK K (Nat.le_refl _)]; exact Option.some_ne_none _⟩
  rw [dif_pos he]
  have h1 := he.choose_spec
  cases h2 : g he.choose with
  | none => exact absurd h2 h1
  | some r0 =>
    have h3 := at_rounds hg (Nat.le_max_left he.choose K) h2
    rw [hK _ (Nat.le_max_right _ _)] at h3
    exact h3.symm
/-- What stands where keys lead: its kind. -/
noncomputable def impl_JpGetBool.f (a0 : ByteArray) (l1 : List ByteArray) : Option (Bool × Bool) := if (∀ k ∈ l1, k.size ≤ 2147483647) ∧ l1.length ≤ 2147483647 then (match lim (fun k => jF_.f k a0 l1) with
  | some (kd, _, _, _, _, true) => some (kd == 2, kd == 1 || kd == 2)
  | _ => none) else none
theorem ky_of {A : Option Addr} {keys : List ByteArray} {w : World} (h : Kd.C Kd.string w A keys.length keys) : ∃ kb ko, (keys ≠ [] → A = some ⟨kb, ko, none⟩) ∧ Ky kb ko keys w := by
  by_cases h0 : keys = []
  · subst h0
    exact ⟨0, 0, fun hh => absurd rfl hh, ⟨fun j hj => absurd hj (Nat.not_lt_zero _)⟩⟩
  · have hp := List.length_pos_iff.2 h0
    obtain ⟨⟨kb, ko, sp⟩, hA, hc⟩ := Kd.at_string h 0 (by omega) (by omega)
    have hsp : sp = none := by
      cases sp with
      | none => rfl
      | some x =>
        have h1 := cell_spot (b := ((⟨kb, ko, some x⟩ : Addr).add 0).block) (o := ((⟨kb, ko, some x⟩ : Addr).add 0).off) (sp := ((⟨kb, ko, some x⟩ : Addr).add 0).spot) hc
        simp [Addr.add] at h1
    subst hsp
    refine ⟨kb, ko, fun _ => hA, ⟨fun j hj => ?_⟩⟩
    obtain ⟨ad, hA2, hc2⟩ := Kd.at_string h (j : Int) (by omega) (by omega)
    rw [hA] at hA2
    obtain rfl := Option.some.inj hA2
    rw [Int.toNat_natCast] at hc2
    rw [show (⟨kb, ko + j, none⟩ : Addr) = (⟨kb, ko, none⟩ : Addr).add j by simp [Addr.add], hc2]
    unfold rdOf
    rw [Int.toNat_natCast]
theorem tx_of (s : ByteArray) (w : World) : Tx w.heap.size s (Lib.bytesWorld w 5 s) := by
  refine ⟨fun i hi => ?_⟩
  rw [Lib.bytesWorld_cell w 5 s i hi, bt_getD, Int.toNat_natCast]
theorem jpget_calls (a0 : ByteArray) (A1 : Option Addr) (c1 : Nat) (l1 : List ByteArray) (r1 r2 : Bool) (w : World)
    (hcall : Calls Tryd.prog 11 #[.slice (some ⟨w.heap.size, 0, none⟩) a0.size (grownCap w a0.size 0 5), .slice A1 l1.length c1] (Lib.bytesWorld w 5 a0) fun e w' => (∃ te pe, e = .returned (.tuple #[.bool r1, if r2 = true then .nilIface else .iface te pe])) ∧ Below (Lib.bytesWorld w 5 a0).heap.size (Lib.bytesWorld w 5 a0) w') (hr : r2 = false → r1 = false) :
    Calls Tryd.prog 6 #[.string a0, .slice A1 l1.length c1] w fun e w' => e = .returned (.tuple #[.bool r1, .bool r2]) ∧ Below w.heap.size w w' := by
  have kb := fun W => print_bytes (P := Tryd.prog) 9 41 5 Tryd.underlying9 Tryd.underlying41 Tryd.underlying5 a0 W
  have HB := Aside0.mk (below_bytes w 5 a0)
  obtain ⟨N, hN⟩ : ∃ N, l1.length = N := ⟨_, rfl⟩
  rw [hN] at hcall ⊢
  have HC := Aside0.mk hcall
  clear hcall hN
  cases r2 with
  | true =>
    simp only [if_pos] at HC
    go_enter Tryd.func6, Tryd.ntmps6
    go_wp2_with (first | (go_at_call 11; (with_reducible refine HC.out.mono ?_); rintro e w1 ⟨⟨te, pe, rfl⟩, HW⟩; have H3 := Aside0.mk HW; clear HW))
    go_ret2
    exact ⟨rfl, below_step HB.out H3.out⟩
  | false =>
    obtain rfl := hr rfl
    simp only [Bool.false_eq_true, if_false] at HC
    go_enter Tryd.func6, Tryd.ntmps6
    go_wp2_with (first | (go_at_call 11; (with_reducible refine HC.out.mono ?_); rintro e w1 ⟨⟨te, pe, rfl⟩, HW⟩; have H3 := Aside0.mk HW; clear HW))
    go_ret2
    exact ⟨rfl, below_step HB.out H3.out⟩
theorem impl_JpGetBool.calls (a0 : ByteArray) (A1 : Option Addr) (c1 : Nat) (l1 : List ByteArray) (r1 r2 : Bool) (w : World) (hr1 : Kd.C Kd.string w A1 l1.length l1) (hc1 : l1.length ≤ c1) (h : impl_JpGetBool.f a0 l1 = some (r1, r2)) (hG : Glob w) :
    Calls Tryd.prog 6 #[.string a0, .slice A1 l1.length c1] w fun e w' => e = .returned (.tuple #[.bool r1, .bool r2]) ∧ Below w.heap.size w w' := by
  unfold impl_JpGetBool.f at h
  split at h
  · rename_i hh
    obtain ⟨hks, hkn⟩ := hh
    split at h
    · rename_i kd b e ns ks hl
      simp only [Option.some.injEq, Prod.mk.injEq] at h
      obtain ⟨rfl, rfl⟩ := h
      have hev := lim_ev (fun k => jF_.mono a0 l1 k) hl
      obtain ⟨h64, kd0, b0, e0, ns0, ks0, hj, hp, hg⟩ := found_val a0 l1 (by omega) (fun x hx => by have := hks x hx; omega) hev
      have hs : a0.size ≤ 2147483647 := by omega
      obtain ⟨q, hsr, hq0, hgv⟩ := get_path hs hj hp hg
      have hGK : GK a0 l1 q b.toNat e.toNat (kk kd) := ⟨hsr, hq0, hgv⟩
      obtain ⟨kb, ko, hkA, hK⟩ := ky_of hr1
      have hB := below_bytes w 5 a0
      have hQ : Qk w.heap.size (grownCap w a0.size 0 5) kb ko c1 A1 a0 l1 (Lib.bytesWorld w 5 a0) := ⟨hs, grownCap_ge _ _ _ _, hks, hc1, hkA, hG.below hB, tx_of a0 w, hK.more hB⟩
      have h1 : 0 ≤ b := hg.lo
      have h3 : b < e := hg.lt
      have h4 : e ≤ a0.size := hg.hi
      have hval : JV a0 kd b e ns ks := hg.val
      refine jpget_calls a0 A1 c1 l1 _ _ w ?_ ?_
      · by_cases k2 : kd = 2
        · subst k2
          have hw : win a0 b.toNat e.toNat = [116, 114, 117, 101] := by
            generalize hz : (2 : Int) = z at hval
            cases hval with
            | tru hw =>
              have := word_win (x := b.toNat) (l := [116, 114, 117, 101]) (by rwa [show ((b.toNat : Nat) : Int) = b by omega]) rfl (by decide)
              rw [show b.toNat + wTrue.size = (b + 4).toNat from by have : wTrue.size = 4 := rfl; omega] at this
              exact this
            | null _ => omega
            | fals _ => omega
            | num _ _ => omega
            | str _ _ => omega
            | arr0 _ _ _ _ => omega
            | arr _ _ _ => omega
            | obj0 _ _ _ _ => omega
            | obj _ _ _ => omega
          refine (bool_yes (show GK a0 l1 q b.toNat e.toNat 5 from hGK) true (by rw [hw]; rfl) _ _ kb ko c1 A1 _ hQ).mono ?_
          rintro e' w' ⟨rfl, hb⟩
          exact ⟨⟨0, .nilIface, rfl⟩, hb⟩
        · by_cases k1 : kd = 1
          · subst k1
            have hw : win a0 b.toNat e.toNat = [102, 97, 108, 115, 101] := by
              generalize hz : (1 : Int) = z at hval
              cases hval with
              | fals hw =>
                have := word_win (x := b.toNat) (l := [102, 97, 108, 115, 101]) (by rwa [show ((b.toNat : Nat) : Int) = b by omega]) rfl (by decide)
                rw [show b.toNat + wFalse.size = (b + 5).toNat from by have : wFalse.size = 5 := rfl; omega] at this
                exact this
              | null _ => omega
              | tru _ => omega
              | num _ _ => omega
              | str _ _ => omega
              | arr0 _ _ _ _ => omega
              | arr _ _ _ => omega
              | obj0 _ _ _ _ => omega
              | obj _ _ _ => omega
            refine (bool_yes (show GK a0 l1 q b.toNat e.toNat 5 from hGK) false (by rw [hw]; rfl) _ _ kb ko c1 A1 _ hQ).mono ?_
            rintro e' w' ⟨rfl, hb⟩
            exact ⟨⟨0, .nilIface, rfl⟩, hb⟩
          · have hk5 : kk kd ≠ 5 := by
              unfold kk
              (repeat' split) <;> first | decide | omega
            refine (bool_no hGK hk5 _ _ kb ko c1 A1 _ hQ).mono ?_
            rintro e' w' ⟨⟨te, pe, rfl⟩, hb⟩
            refine ⟨⟨te, pe, ?_⟩, hb⟩
            rw [show (kd == 2) = false from beq_eq_false_iff_ne.2 k2, show (kd == 1) = false from beq_eq_false_iff_ne.2 k1]
            rfl
      · intro hf
        rw [Bool.or_eq_false_iff] at hf
        exact hf.2
    · cases h
  · cases h
end Go.Proofs.YtobnmfgapaeccaaDoor.PFnJpGetBool