/- Where keys lead in a JSON text, step by step; no condition beside those that each theorem states. -/
import Derived.Test.YtpdohioobbfncaaGreatDoorJAFnJpWildStop
import Derived.Test.YtpdohioobbfncaaGreatDoorFUFnJpWildStop
import Derived.Test.YtpdohioobbfncaaGreatDoorHSXFnJpWildStop
namespace Go.Proofs.YtpdohioobbfncaaGreatDoor.JFnJpWildStop
open Go.RowKit Go.Proofs.YtpdohioobbfncaaGreatDoor.PFnJpWildStop Go.Proofs.YtpdohioobbfncaaGreatDoorW.PrintWords Go.Proofs.YtpdohioobbfncaaGreatDoorW.PrintLast Go.Proofs.YtpdohioobbfncaaGreatDoorW.PrintMore
set_option linter.unusedSimpArgs false
set_option linter.unusedVariables false
theorem Ev.det {α : Type} {f : Nat → Option α} {a b : α} (h1 : Ev f a) (h2 : Ev f b) : a = b := by
  obtain ⟨K1, h1⟩ := h1
  obtain ⟨K2, h2⟩ := h2
  have e1 := h1 (max K1 K2) (Nat.le_max_left _ _)
  have e2 := h2 (max K1 K2) (Nat.le_max_right _ _)
  exact Option.some.inj (e1.symm.trans e2)
theorem bt_list (a : ByteArray) (i : Nat) (h : i < a.size) : ∃ x, a.data.toList.drop i = x :: a.data.toList.drop (i + 1) ∧ (x.toNat : Int) = bt a (i : Int) := by
  have h' : i < a.data.toList.length := by rw [Array.length_toList]; exact h
  refine ⟨a.data.toList[i], List.drop_eq_getElem_cons h', ?_⟩
  rw [bt_getD, Int.toNat_natCast, List.getD_eq_getElem?_getD, List.getElem?_eq_getElem h']
  rfl
theorem index_l (a : ByteArray) (ha : (a.size : Int) ≤ 9223372036854775000) : ∀ (d i v : Nat), i ≤ a.size → a.size - i ≤ d → v ≤ 4611686018427387904 →
    ∃ r ok, Ev (fun k => II_.l0 k a (v : Int) (i : Int)) ((r : Nat) , ok) ∧ (ok = true → v ≤ r ∧ (r < 2147483648 → Lib.decFrom v (a.data.toList.drop i) = some r ∧ v * 10 ^ (a.size - i) ≤ r)) := by
  intro d
  have stop : ∀ v : Nat, ∃ r ok, Ev (fun k => II_.l0 k a (v : Int) (a.size : Int)) ((r : Nat), ok) ∧ (ok = true → v ≤ r ∧ (r < 2147483648 → Lib.decFrom v (a.data.toList.drop a.size) = some r ∧ v * 10 ^ (a.size - a.size) ≤ r)) := fun v =>
    ⟨v, true, Ev.step (fun k => by rw [II_.l0]) (Ev.neg (by omega) (Ev.now _)), fun _ => ⟨Nat.le_refl _, fun _ => ⟨by rw [List.drop_eq_nil_of_le (by rw [Array.length_toList]; exact Nat.le_refl _)]; rfl, by simp⟩⟩⟩
  induction d with
  | zero =>
    intro i v h1 hd hv
    obtain rfl : i = a.size := by omega
    exact stop v
  | succ d ih =>
    intro i v h1 hd hv
    by_cases hi : i < a.size
    · have w1 : wrap64 ((i : Int) + 1) = ((i + 1 : Nat) : Int) := by rw [w64 (by omega) (by omega)]; omega
      obtain ⟨x, hx, hxv⟩ := bt_list a i hi
      have no : Ev (fun k => II_.j2 k a (v : Int) (i : Int) (bt a (i : Int)) true) (((0 : Nat) : Int), false) := by
        refine Ev.step (fun k => by rw [II_.j2]) ?_
        exact Ev.pos (rfl : true = true) (Ev.now _)
      by_cases c1 : bt a (i : Int) < 48
      · exact ⟨0, false, Ev.step (fun k => by rw [II_.l0]) (Ev.pos (by omega) (Ev.pos (by omega) (Ev.pos c1 no))), fun h => by cases h⟩
      by_cases c2 : bt a (i : Int) > 57
      · exact ⟨0, false, Ev.step (fun k => by rw [II_.l0]) (Ev.pos (by omega) (Ev.pos (by omega) (Ev.neg c1 (by rw [decide_eq_true c2]; exact no)))), fun h => by cases h⟩
      have ent : ∀ {res : Int × Bool}, Ev (fun k => II_.j2 k a (v : Int) (i : Int) (bt a (i : Int)) false) res → Ev (fun k => II_.l0 k a (v : Int) (i : Int)) res := fun e =>
        Ev.step (fun k => by rw [II_.l0]) (Ev.pos (by omega) (Ev.pos (by omega) (Ev.neg c1 (by rw [decide_eq_false c2]; exact e))))
      have hdv : Lib.digitVal x = some (bt a (i : Int) - 48).toNat := by
        unfold Lib.digitVal
        rw [if_pos (by omega)]
        congr 1
        omega
      by_cases c3 : (v : Int) < 288230376151711744
      · obtain ⟨r, ok, e, h⟩ := ih (i + 1) (v * 10 + (bt a (i : Int) - 48).toNat) (by omega) (by omega) (by omega)
        refine ⟨r, ok, ent (Ev.step (fun k => by rw [II_.j2]) (Ev.neg Bool.false_ne_true (Ev.pos c3 ?_))), fun hok => ?_⟩
        · rw [w1, w64 (x := (v : Int) * 10) (by omega) (by omega), w64 (by omega) (by omega), show (v : Int) * 10 + (bt a (i : Int) - 48) % 256 = ((v * 10 + (bt a (i : Int) - 48).toNat : Nat) : Int) by omega]
          exact e
        · obtain ⟨h2, h3⟩ := h hok
          refine ⟨by omega, fun hr => ?_⟩
          obtain ⟨h4, h5⟩ := h3 hr
          refine ⟨?_, ?_⟩
          · rw [hx, Lib.decFrom, hdv]
            exact h4
          · have e1 : a.size - i = (a.size - (i + 1)) + 1 := by omega
            rw [e1, Nat.pow_succ]
            have := Nat.mul_le_mul_right (10 ^ (a.size - (i + 1))) (show v * 10 ≤ v * 10 + (bt a (i : Int) - 48).toNat by omega)
            calc v * (10 ^ (a.size - (i + 1)) * 10) = v * 10 * 10 ^ (a.size - (i + 1)) := by rw [Nat.mul_comm (10 ^ _) 10, Nat.mul_assoc]
              _ ≤ _ := this
              _ ≤ r := h5
      · obtain ⟨r, ok, e, h⟩ := ih (i + 1) 4611686018427387904 (by omega) (by omega) (by omega)
        refine ⟨r, ok, ent (Ev.step (fun k => by rw [II_.j2]) (Ev.neg Bool.false_ne_true (Ev.neg c3 ?_))), fun hok => ⟨by have := (h hok).1; omega, fun hr => by have := (h hok).1; omega⟩⟩
        rw [w1]
        exact e
    · obtain rfl : i = a.size := by omega
      exact stop v
theorem index_val (a : ByteArray) (ha : (a.size : Int) ≤ 9223372036854775000) : ∃ r ok, Ev (fun k => II_.f k a) ((r : Nat), ok) ∧ (ok = true → r < 2147483648 → a.size ≤ 18 ∧ Lib.atoi a.data.toList = some (r : Int)) := by
  have tt : Ev (fun k => II_.j0 k a true) (((0 : Nat) : Int), false) := by
    refine Ev.step (fun k => by rw [II_.j0]) ?_
    exact Ev.pos (rfl : true = true) (Ev.now _)
  have j0 : ∀ b, (b = false → a.size ≤ 1 ∨ bt a 0 ≠ 48) → 0 < a.size → ∃ r ok, Ev (fun k => II_.j0 k a b) ((r : Nat), ok) ∧ (ok = true → r < 2147483648 → a.size ≤ 18 ∧ Lib.atoi a.data.toList = some (r : Int)) := by
    intro b hb h0
    cases b with
    | true => exact ⟨0, false, tt, fun h => by cases h⟩
    | false =>
      obtain ⟨r, ok, e, h⟩ := index_l a ha a.size 0 0 (by omega) (by omega) (by omega)
      have ff : Ev (fun k => II_.j0 k a false) ((r : Int), ok) := by
        refine Ev.step (fun k => by rw [II_.j0]) ?_
        exact Ev.neg Bool.false_ne_true e
      refine ⟨r, ok, ff, fun hok hr => ?_⟩
      obtain ⟨x, hx, hxv⟩ := bt_list a 0 h0
      rw [List.drop_zero] at hx
      have hd := ((h hok).2 hr).1
      rw [List.drop_zero, hx, Lib.decFrom] at hd
      cases hdv : Lib.digitVal x with
      | none => rw [hdv] at hd; cases hd
      | some dg =>
        rw [hdv] at hd
        have hdg : 48 ≤ x.toNat ∧ x.toNat ≤ 57 ∧ dg = x.toNat - 48 := by
          unfold Lib.digitVal at hdv
          split at hdv
          · rename_i hh
            exact ⟨hh.1, hh.2, (Option.some.inj hdv).symm⟩
          · cases hdv
        refine ⟨?_, ?_⟩
        · by_cases c : a.size ≤ 18
          · exact c
          · exfalso
            have hne : bt a 0 ≠ 48 := (hb rfl).resolve_left (by omega)
            have hdp : 1 ≤ dg := by
              have : (x.toNat : Int) ≠ 48 := by rw [hxv]; exact hne
              omega
            obtain ⟨r2, ok2, e2, h2⟩ := index_l a ha a.size 1 dg (by omega) (by omega) (by omega)
            have e3 : Ev (fun k => II_.l0 k a ((0 : Nat) : Int) ((0 : Nat) : Int)) ((r2 : Nat), ok2) := by
              have c1 : ¬ bt a ((0 : Nat) : Int) < 48 := by rw [← hxv]; omega
              have c2 : ¬ bt a ((0 : Nat) : Int) > 57 := by rw [← hxv]; omega
              refine Ev.step (fun k => by rw [II_.l0]) (Ev.pos (by omega) (Ev.pos (by omega) (Ev.neg c1 ?_)))
              rw [decide_eq_false c2]
              refine Ev.step (fun k => by rw [II_.j2]) (Ev.neg Bool.false_ne_true (Ev.pos (by omega) ?_))
              rw [w64 (x := ((0 : Nat) : Int) * 10) (by omega) (by omega), w64 (x := ((0 : Nat) : Int) + 1) (by omega) (by omega), w64 (by omega) (by omega), ← hxv, show ((0 : Nat) : Int) * 10 + ((x.toNat : Int) - 48) % 256 = (dg : Int) by omega]
              exact e2
            have e4 := Ev.det e e3
            rw [Prod.mk.injEq] at e4
            have e5 : r = r2 := by omega
            have h3 := ((h2 (e4.2 ▸ hok)).2 (by omega)).2
            have h4 : 10 ^ 18 ≤ 10 ^ (a.size - 1) := Nat.pow_le_pow_right (by omega) (by omega)
            have h5 : 10 ^ (a.size - 1) ≤ dg * 10 ^ (a.size - 1) := Nat.le_mul_of_pos_left _ hdp
            omega
        · rw [hx]
          have hn1 : (x == 45) = false := by
            apply beq_eq_false_iff_ne.2
            rintro rfl
            have : (45 : UInt8).toNat = 45 := rfl
            omega
          have hn2 : (x == 43) = false := by
            apply beq_eq_false_iff_ne.2
            rintro rfl
            have : (43 : UInt8).toNat = 43 := rfl
            omega
          show (if (x == 45) = true then (Lib.decNat (List.drop (0 + 1) a.data.toList)).map (fun (m : Nat) => -(m : Int)) else if (x == 43) = true then (Lib.decNat (List.drop (0 + 1) a.data.toList)).map (fun (m : Nat) => (m : Int)) else (Lib.decNat (x :: List.drop (0 + 1) a.data.toList)).map (fun (m : Nat) => (m : Int))) = some (r : Int)
          rw [hn1, hn2]
          have : Lib.decNat (x :: List.drop (0 + 1) a.data.toList) = some r := by
            unfold Lib.decNat
            rw [show (x :: List.drop (0 + 1) a.data.toList).isEmpty = false from rfl]
            show Lib.decFrom 0 (x :: List.drop (0 + 1) a.data.toList) = some r
            rw [Lib.decFrom, hdv]
            exact hd
          rw [if_neg Bool.false_ne_true, if_neg Bool.false_ne_true, this]
          rfl
  unfold II_.f
  by_cases c1 : a.toList = ([] : List UInt8)
  · exact ⟨0, false, Ev.pos c1 tt, fun h => by cases h⟩
  · have h0 : 0 < a.size := by
      rcases Nat.eq_zero_or_pos a.size with h | h
      · exfalso
        apply c1
        rw [ByteArray.toList_eq]
        exact List.eq_nil_of_length_eq_zero (by simpa using h)
      · exact h
    by_cases c2 : (a.size : Int) > 1
    · obtain ⟨r, ok, e, h⟩ := j0 (bt a 0 == 48) (fun hh => .inr (beq_eq_false_iff_ne.1 hh)) h0
      exact ⟨r, ok, Ev.neg c1 (Ev.pos c2 (Ev.pos (by omega) e)), h⟩
    · obtain ⟨r, ok, e, h⟩ := j0 false (fun _ => .inl (by omega)) h0
      exact ⟨r, ok, Ev.neg c1 (Ev.neg c2 e), h⟩
theorem bracket_val (a : ByteArray) (ha : (a.size : Int) ≤ 9223372036854775000) : ∃ r ok, Ev (fun k => Bra_.f k a) ((r : Nat), ok) ∧ (ok = true → r < 2147483648 → Ix a r) := by
  unfold Bra_.f
  by_cases c1 : (a.size : Int) < 3
  · exact ⟨0, false, Ev.pos c1 (Ev.now _), fun h => by cases h⟩
  have w1 : wrap64 ((a.size : Int) - 1) = (a.size : Int) - 1 := w64 (by omega) (by omega)
  rw [w1]
  by_cases c2 : bt a 0 = 91
  · by_cases c3 : bt a ((a.size : Int) - 1) = 93
    · obtain ⟨r, ok, e, h⟩ := index_val (a.extract 1 ((a.size : Int) - 1).toNat) (by rw [ByteArray.size_extract]; omega)
      refine ⟨r, ok, Ev.neg c1 (Ev.pos (by omega) (Ev.pos c2 (Ev.pos (by omega) (Ev.pos (by omega) (Ev.pos c3 (Ev.pos (by omega) (Ev.pos (by omega) (Ev.bind e (Ev.now _))))))))), fun hok hr => ?_⟩
      obtain ⟨h1, h2⟩ := h hok hr
      rw [show ((a.size : Int) - 1).toNat = a.size - 1 by omega] at h1 h2
      rw [ByteArray.size_extract] at h1
      exact ⟨by omega, by omega, c2, c3, h2, by omega⟩
    · exact ⟨0, false, Ev.neg c1 (Ev.pos (by omega) (Ev.pos c2 (Ev.pos (by omega) (Ev.pos (by omega) (Ev.neg c3 (Ev.now _)))))), fun h => by cases h⟩
  · exact ⟨0, false, Ev.neg c1 (Ev.pos (by omega) (Ev.neg c2 (Ev.now _))), fun h => by cases h⟩
def NameIs (s : ByteArray) (n : Sp) (key : ByteArray) : Prop := ∃ nm, Un (win s (n.f0.toNat + 1) (n.f1.toNat - 1)) nm ∧ (strOfNums nm).toList = key.toList
def NameNot (s : ByteArray) (n : Sp) (key : ByteArray) : Prop := ∃ nm, Un (win s (n.f0.toNat + 1) (n.f1.toNat - 1)) nm ∧ (strOfNums nm).toList ≠ key.toList
theorem named_val (s key : ByteArray) (hs : (s.size : Int) ≤ 2147483647) (kd b e : Int) (ns : List Sp) (ks : List Pl) (hn : ∀ n ∈ ns, Nm s n) (hl : (ns.length : Int) ≤ 2147483647) :
    ∃ t, Ev (fun k => NN_.f k s kd b e ns ks key) t ∧ t < (ns.length : Int) ∧ (0 ≤ t → NameIs s (rd_T64 ns t) key ∧ ∀ q, 0 ≤ q → q < t → NameNot s (rd_T64 ns q) key) := by
  have go : ∀ (d : Nat) (i : Int), 0 ≤ i → i ≤ ns.length → (ns.length : Int) - i ≤ d → (∀ q, 0 ≤ q → q < i → NameNot s (rd_T64 ns q) key) → ∃ t, Ev (fun k => NN_.l0 k s key i kd b e ns ks) t ∧ t < (ns.length : Int) ∧ (0 ≤ t → NameIs s (rd_T64 ns t) key ∧ ∀ q, 0 ≤ q → q < t → NameNot s (rd_T64 ns q) key) := by
    intro d
    induction d with
    | zero =>
      intro i h0 h1 hd _
      exact ⟨-1, Ev.step (fun k => by rw [NN_.l0]) (Ev.neg (by omega) (Ev.now _)), by omega, fun h => absurd h (by decide)⟩
    | succ d ih =>
      intro i h0 h1 hd hno
      by_cases hi : i < (ns.length : Int)
      · obtain ⟨n0, n1⟩ := hn _ (rdN_mem ns i h0 hi)
        have n2 := n1.lt
        have n3 := n1.hi
        obtain ⟨nm, er, hun⟩ := unq_un s hs _ _ n0 n1
        by_cases c : (strOfNums nm).toList = key.toList
        · refine ⟨i, Ev.step (fun k => by rw [NN_.l0]) (Ev.pos hi (Ev.pos h0 (Ev.pos n0 (Ev.pos (by omega) (Ev.pos n3 ?_))))), hi, fun _ => ⟨⟨nm, hun, c⟩, hno⟩⟩
          refine Ev.bind er ?_
          exact Ev.pos c (Ev.now _)
        · obtain ⟨t, et, ht⟩ := ih (i + 1) (by omega) (by omega) (by omega) (fun q q0 q1 => by
            by_cases hq : q = i
            · subst hq
              exact ⟨nm, hun, c⟩
            · exact hno q q0 (by omega))
          refine ⟨t, Ev.step (fun k => by rw [NN_.l0]) (Ev.pos hi (Ev.pos h0 (Ev.pos n0 (Ev.pos (by omega) (Ev.pos n3 ?_))))), ht⟩
          refine Ev.bind er ?_
          refine Ev.neg c ?_
          rw [w64 (by omega) (by omega)]
          exact et
      · exact ⟨-1, Ev.step (fun k => by rw [NN_.l0]) (Ev.neg hi (Ev.now _)), by omega, fun h => absurd h (by decide)⟩
  exact go ns.length 0 (by omega) (by omega) (by omega) (fun q q0 q1 => by omega)
inductive Hop (s : ByteArray) : Pl → ByteArray → Pl → Prop
  | mem {b e : Int} {ns : List Sp} {ks : List Pl} {key : ByteArray} (t : Nat) (hl : ns.length = ks.length) (ht : t < ks.length) (yes : NameIs s (rd_T64 ns (t : Int)) key) (no : ∀ q : Nat, q < t → NameNot s (rd_T64 ns (q : Int)) key) : Hop s ⟨6, b, e, ns, ks⟩ key (rd_T27 ks (t : Int))
  | el {b e : Int} {ns : List Sp} {ks : List Pl} {key : ByteArray} (t : Nat) (ht : t < ks.length) (ix : Ix key t) : Hop s ⟨5, b, e, ns, ks⟩ key (rd_T27 ks (t : Int))
theorem pl_eta (q : Pl) : (⟨q.f0, q.f1, q.f2, q.f3, q.f4⟩ : Pl) = q := by cases q; rfl
theorem step_val (s key : ByteArray) (hs : (s.size : Int) ≤ 2147483647) (hk : (key.size : Int) ≤ 9223372036854775000) {kd b e : Int} {ns : List Sp} {ks : List Pl} (h : GoodP s ⟨kd, b, e, ns, ks⟩) :
    ∃ kd2 b2 e2 ns2 ks2 ok, Ev (fun k => SS_.f k s kd b e ns ks key) (kd2, b2, e2, ns2, ks2, ok) ∧ (ok = true → GoodP s ⟨kd2, b2, e2, ns2, ks2⟩ ∧ Hop s ⟨kd, b, e, ns, ks⟩ key ⟨kd2, b2, e2, ns2, ks2⟩) := by
  have hnm := jv_names h.val h.lo
  have hlen := h.len
  have := h.hi; have := h.lo
  simp only at this hlen
  unfold SS_.f
  by_cases c1 : kd = 6
  · subst c1
    have hln : ns.length = ks.length := hnm.2 rfl
    obtain ⟨t, et, ht, htn⟩ := named_val s key hs 6 b e ns ks hnm.1 (by simp at *; omega)
    by_cases c2 : t < 0
    · refine ⟨_, _, _, _, _, false, Ev.pos rfl (Ev.bind et (Ev.pos c2 (Ev.now _))), fun h => by cases h⟩
    · have ht2 : t < (ks.length : Int) := by rw [← hln]; exact ht
      refine ⟨(rd_T27 ks t).f0, (rd_T27 ks t).f1, (rd_T27 ks t).f2, (rd_T27 ks t).f3, (rd_T27 ks t).f4, true, Ev.pos rfl (Ev.bind et (Ev.neg c2 (Ev.pos (by omega) (Ev.pos ht2 (Ev.now _))))), fun _ => ⟨(h.kid (rd_T27 ks t) (rdP_mem ks t (by omega) ht2)).eta, ?_⟩⟩
      rw [pl_eta]
      obtain ⟨tn, rfl⟩ : ∃ tn : Nat, t = (tn : Int) := ⟨t.toNat, by omega⟩
      obtain ⟨y1, y2⟩ := htn (by omega)
      exact Hop.mem tn hln (by omega) y1 (fun q hq => y2 q (by omega) (by omega))
  · by_cases c2 : kd = 5
    · subst c2
      obtain ⟨r, ok, eb, hb⟩ := bracket_val key hk
      have no : ∀ v, ∃ kd2 b2 e2 ns2 ks2 ok, Ev (fun k => SS_.j0 k (-1) v false 5 b e ns ks) (kd2, b2, e2, ns2, ks2, ok) ∧ (ok = true → GoodP s ⟨kd2, b2, e2, ns2, ks2⟩ ∧ Hop s ⟨5, b, e, ns, ks⟩ key ⟨kd2, b2, e2, ns2, ks2⟩) := fun v =>
        ⟨_, _, _, _, _, false, Ev.step (fun k => by rw [SS_.j0]) (Ev.neg Bool.false_ne_true (Ev.pos (by omega) (Ev.now _))), fun h => by cases h⟩
      cases ok with
      | true =>
        by_cases c3 : (r : Int) < (ks.length : Int)
        · refine ⟨(rd_T27 ks r).f0, (rd_T27 ks r).f1, (rd_T27 ks r).f2, (rd_T27 ks r).f3, (rd_T27 ks r).f4, true, Ev.neg c1 (Ev.pos rfl (Ev.bind eb (Ev.pos (rfl : true = true) ?_))), fun _ => ⟨(h.kid (rd_T27 ks r) (rdP_mem ks r (by omega) c3)).eta, ?_⟩⟩
          · show Ev (fun k => SS_.j0 k (-1) (r : Int) (decide ((r : Int) < (ks.length : Int))) 5 b e ns ks) _
            rw [decide_eq_true c3]
            exact Ev.step (fun k => by rw [SS_.j0]) (Ev.pos rfl (Ev.neg (by omega) (Ev.pos (by omega) (Ev.pos c3 (Ev.now _)))))
          · rw [pl_eta]
            exact Hop.el r (by omega) (hb rfl (by have hi2 : e ≤ s.size := h.hi; omega))
        · obtain ⟨k1, k2, k3, k4, k5, k6, ee, hh⟩ := no (r : Int)
          refine ⟨k1, k2, k3, k4, k5, k6, Ev.neg c1 (Ev.pos rfl (Ev.bind eb (Ev.pos (rfl : true = true) ?_))), hh⟩
          show Ev (fun k => SS_.j0 k (-1) (r : Int) (decide ((r : Int) < (ks.length : Int))) 5 b e ns ks) _
          rw [decide_eq_false c3]
          exact ee
      | false =>
        obtain ⟨k1, k2, k3, k4, k5, k6, ee, hh⟩ := no (r : Int)
        exact ⟨k1, k2, k3, k4, k5, k6, Ev.neg c1 (Ev.pos rfl (Ev.bind eb (Ev.neg Bool.false_ne_true ee))), hh⟩
    · exact ⟨_, _, _, _, _, false, Ev.neg c1 (Ev.neg c2 (Ev.pos (by omega) (Ev.now _))), fun h => by cases h⟩
theorem once_val (s : ByteArray) (hs : (s.size : Int) ≤ 2147483647) (keys : List ByteArray) (hn : (keys.length : Int) ≤ 9223372036854775807) (hk : ∀ x ∈ keys, (x.size : Int) ≤ 9223372036854775000) {kd b e : Int} {ns : List Sp} {ks : List Pl} (h : GoodP s ⟨kd, b, e, ns, ks⟩) :
    ∃ r, Ev (fun k => OO_.f k s kd b e ns ks keys) r := by
  have key : ∀ i : Int, 0 ≤ i → i < (keys.length : Int) → ((rdOf ByteArray.empty keys i).size : Int) ≤ 9223372036854775000 := by
    intro i h0 h1
    unfold rdOf
    rw [List.getD_eq_getElem?_getD, List.getElem?_eq_getElem (by omega)]
    exact hk _ (List.getElem_mem _)
  have go : ∀ (d : Nat) (i kd b e : Int) (ns : List Sp) (ks : List Pl), 0 ≤ i → i ≤ keys.length → (keys.length : Int) - i ≤ d → GoodP s ⟨kd, b, e, ns, ks⟩ → ∃ r, Ev (fun k => OO_.l0 k s keys (keys.length : Int) i kd b e ns ks) r := by
    intro d
    induction d with
    | zero =>
      intro i kd b e ns ks h0 h1 hd _
      exact ⟨_, Ev.step (fun k => by rw [OO_.l0]) (Ev.neg (by omega) (Ev.now _))⟩
    | succ d ih =>
      intro i kd b e ns ks h0 h1 hd h
      by_cases hi : i < (keys.length : Int)
      · obtain ⟨k1, k2, k3, k4, k5, ok, es, hg⟩ := step_val s (rdOf ByteArray.empty keys i) hs (key i h0 hi) h
        have down : ∀ {f : Nat → Option Bool}, (∀ {r}, Ev (fun k => (SS_.f k s kd b e ns ks (rdOf ByteArray.empty keys i)).bind fun bt383 => (if bt383.2.2.2.2.2 = true then (OO_.l0 k s keys (keys.length : Int) (wrap64 (i + 1)) bt383.1 bt383.2.1 bt383.2.2.1 bt383.2.2.2.1 bt383.2.2.2.2.1) else (some true))) r → Ev f r) → ∃ r, Ev f r := by
          intro f hf
          cases ok with
          | false => exact ⟨_, hf (Ev.bind es (Ev.neg Bool.false_ne_true (Ev.now _)))⟩
          | true =>
            obtain ⟨r, er⟩ := ih (i + 1) k1 k2 k3 k4 k5 (by omega) (by omega) (by omega) (hg rfl).1
            refine ⟨r, hf (Ev.bind es (Ev.pos rfl ?_))⟩
            rw [w64 (by omega) (by omega)]
            exact er
        by_cases c : kd = 6
        · have hnm := jv_names h.val h.lo
          have hln : ns.length = ks.length := hnm.2 c
          have hlen : (ks.length : Int) ≤ e - b := h.len
          have hle : (ns.length : Int) ≤ 2147483647 := by
            have b0 : e ≤ s.size := h.hi
            have b1 : 0 ≤ b := h.lo
            rw [hln]
            omega
          have inner : ∀ (d2 : Nat) (m j : Int), 0 ≤ j → j ≤ ns.length → (ns.length : Int) - j ≤ d2 → ∃ r, Ev (fun k => OO_.l1 k s (rdOf ByteArray.empty keys i) m j keys (keys.length : Int) i kd b e ns ks) r := by
            intro d2
            induction d2 with
            | zero =>
              intro m j g0 g1 gd
              by_cases c9 : m > 1
              · exact ⟨_, Ev.step (fun k => by rw [OO_.l1]) (Ev.neg (by omega) (Ev.pos c9 (Ev.now _)))⟩
              · exact down fun er => Ev.step (fun k => by rw [OO_.l1]) (Ev.neg (by omega) (Ev.neg c9 er))
            | succ d2 ih2 =>
              intro m j g0 g1 gd
              by_cases hj : j < (ns.length : Int)
              · obtain ⟨n0, n1⟩ := hnm.1 _ (rdN_mem ns j g0 hj)
                have n2 := n1.lt
                have n3 := n1.hi
                obtain ⟨nm, er, _⟩ := unq_un s hs _ _ n0 n1
                have wj : wrap64 (j + 1) = j + 1 := w64 (by omega) (by omega)
                by_cases c8 : (strOfNums nm).toList = (rdOf ByteArray.empty keys i).toList
                · obtain ⟨r2, e2⟩ := ih2 (wrap64 (m + 1)) (j + 1) (by omega) (by omega) (by omega)
                  refine ⟨r2, Ev.step (fun k => by rw [OO_.l1]) (Ev.pos hj (Ev.pos g0 (Ev.pos n0 (Ev.pos (by omega) (Ev.pos n3 ?_)))))⟩
                  refine Ev.bind er ?_
                  refine Ev.pos c8 ?_
                  rw [wj]; exact e2
                · obtain ⟨r2, e2⟩ := ih2 m (j + 1) (by omega) (by omega) (by omega)
                  refine ⟨r2, Ev.step (fun k => by rw [OO_.l1]) (Ev.pos hj (Ev.pos g0 (Ev.pos n0 (Ev.pos (by omega) (Ev.pos n3 ?_)))))⟩
                  refine Ev.bind er ?_
                  refine Ev.neg c8 ?_
                  rw [wj]; exact e2
              · by_cases c9 : m > 1
                · exact ⟨_, Ev.step (fun k => by rw [OO_.l1]) (Ev.neg hj (Ev.pos c9 (Ev.now _)))⟩
                · exact down fun er => Ev.step (fun k => by rw [OO_.l1]) (Ev.neg hj (Ev.neg c9 er))
          obtain ⟨r, er⟩ := inner ns.length 0 0 (by omega) (by omega) (by omega)
          exact ⟨r, Ev.step (fun k => by rw [OO_.l0]) (Ev.pos hi (Ev.pos h0 (Ev.pos hi (Ev.pos c er))))⟩
        · exact down fun er => Ev.step (fun k => by rw [OO_.l0]) (Ev.pos hi (Ev.pos h0 (Ev.pos hi (Ev.neg c er))))
      · exact ⟨_, Ev.step (fun k => by rw [OO_.l0]) (Ev.neg hi (Ev.now _))⟩
  exact go keys.length 0 kd b e ns ks (by omega) (by omega) (by omega) h
inductive Path (s : ByteArray) : Pl → List ByteArray → Pl → Prop
  | here {q : Pl} : Path s q [] q
  | step {q q2 t : Pl} {key : ByteArray} {r : List ByteArray} (h : Hop s q key q2) (g : GoodP s q2) (p : Path s q2 r t) (nb : q.f0 = 6 → jI_.f key = some false) : Path s q (key :: r) t
theorem found_all (s : ByteArray) (keys : List ByteArray) (hn : (keys.length : Int) ≤ 9223372036854775807) (hk : ∀ x ∈ keys, (x.size : Int) ≤ 2147483647) :
    ∃ kd b e ns ks ok, Ev (fun k => jF_.f k s keys) (kd, b, e, ns, ks, ok) ∧ (ok = true → (s.size : Int) ≤ 65536 ∧ ∃ kd0 b0 e0 ns0 ks0, JT s kd0 b0 e0 ns0 ks0 ∧ Path s ⟨kd0, b0, e0, ns0, ks0⟩ keys ⟨kd, b, e, ns, ks⟩ ∧ GoodP s ⟨kd, b, e, ns, ks⟩) := by
  have key : ∀ i : Int, 0 ≤ i → i < (keys.length : Int) → ((rdOf ByteArray.empty keys i).size : Int) ≤ 2147483647 := by
    intro i h0 h1
    unfold rdOf
    rw [List.getD_eq_getElem?_getD, List.getElem?_eq_getElem (by omega)]
    exact hk _ (List.getElem_mem _)
  have index : ∀ a, ∃ t, jI_.f a = some t := by
    intro a
    unfold jI_.f
    by_cases c : a.toList = ([] : List UInt8)
    · exact ⟨_, if_pos c⟩
    · have : 0 < a.size := by
        rcases Nat.eq_zero_or_pos a.size with h | h
        · exfalso
          apply c
          rw [ByteArray.toList_eq]
          exact List.eq_nil_of_length_eq_zero (by simpa using h)
        · exact h
      exact ⟨_, by rw [if_neg c, if_pos (by omega)]⟩
  have no : ∀ (kd1 b1 e1 : Int) (ns1 : List Sp) (ks1 : List Pl), Ev (fun k => jF_.j0 k s keys true kd1 b1 e1 ns1 ks1) (0, 0, 0, [], [], false) := fun kd b e ns ks =>
    Ev.step (fun k => by rw [jF_.j0]) (Ev.pos (rfl : true = true) (Ev.now _))
  by_cases hs : (s.size : Int) > 65536
  · have e0 : Ev (fun k => jP_.f k s) (0, 0, 0, [], [], false) := by
      unfold jP_.f
      exact Ev.pos hs (Ev.now _)
    refine ⟨0, 0, 0, [], [], false, ?_, fun h => by cases h⟩
    unfold jF_.f
    exact Ev.bind e0 (Ev.neg Bool.false_ne_true (no _ _ _ _ _))
  obtain ⟨kd0, b0, e0, ns0, ks0, ok, ep, hp⟩ := places_ev s (by omega)
  have ej : Ev (fun k => jP_.f k s) (kd0, b0, e0, ns0, ks0, ok) := by
    unfold jP_.f
    exact Ev.neg hs (Ev.bind ep (Ev.now _))
  cases ok with
  | false =>
    refine ⟨0, 0, 0, [], [], false, ?_, fun h => by cases h⟩
    unfold jF_.f
    exact Ev.bind ej (Ev.neg Bool.false_ne_true (no _ _ _ _ _))
  | true =>
    have hg := (hp rfl).good
    obtain ⟨r, er⟩ := once_val s (by omega) keys hn (fun x hx => by have := hk x hx; omega) hg
    cases r with
    | false =>
      refine ⟨0, 0, 0, [], [], false, ?_, fun h => by cases h⟩
      unfold jF_.f
      exact Ev.bind ej (Ev.pos rfl (Ev.bind er (no _ _ _ _ _)))
    | true =>
      have go : ∀ (d i : Nat) (kd1 b1 e1 : Int) (ns1 : List Sp) (ks1 : List Pl), i ≤ keys.length → keys.length - i ≤ d → GoodP s ⟨kd1, b1, e1, ns1, ks1⟩ →
          ∃ kd2 b2 e2 ns2 ks2 ok, Ev (fun k => jF_.l0 k s keys (keys.length : Int) (i : Int) kd1 b1 e1 ns1 ks1) (kd2, b2, e2, ns2, ks2, ok) ∧ (ok = true → GoodP s ⟨kd2, b2, e2, ns2, ks2⟩ ∧ Path s ⟨kd1, b1, e1, ns1, ks1⟩ (keys.drop i) ⟨kd2, b2, e2, ns2, ks2⟩) := by
        intro d
        have stop : ∀ (kd1 b1 e1 : Int) (ns1 : List Sp) (ks1 : List Pl), GoodP s ⟨kd1, b1, e1, ns1, ks1⟩ → ∃ kd2 b2 e2 ns2 ks2 ok, Ev (fun k => jF_.l0 k s keys (keys.length : Int) (keys.length : Int) kd1 b1 e1 ns1 ks1) (kd2, b2, e2, ns2, ks2, ok) ∧ (ok = true → GoodP s ⟨kd2, b2, e2, ns2, ks2⟩ ∧ Path s ⟨kd1, b1, e1, ns1, ks1⟩ (keys.drop keys.length) ⟨kd2, b2, e2, ns2, ks2⟩) := fun kd1 b1 e1 ns1 ks1 h =>
          ⟨kd1, b1, e1, ns1, ks1, true, Ev.step (fun k => by rw [jF_.l0]) (Ev.neg (by omega) (Ev.now _)), fun _ => ⟨h, by rw [List.drop_length]; exact Path.here⟩⟩
        induction d with
        | zero =>
          intro i kd1 b1 e1 ns1 ks1 h1 hd h
          obtain rfl : i = keys.length := by omega
          exact stop _ _ _ _ _ h
        | succ d ih =>
          intro i kd1 b1 e1 ns1 ks1 h1 hd h
          by_cases hi : i < keys.length
          · obtain ⟨k1, k2, k3, k4, k5, ok, es, hg⟩ := step_val s (rdOf ByteArray.empty keys i) (by omega) (by have := key i (by omega) (by omega); omega) h
            have hdrop : keys.drop i = rdOf ByteArray.empty keys (i : Int) :: keys.drop (i + 1) := by
              rw [List.drop_eq_getElem_cons hi]
              congr 1
              unfold rdOf
              rw [Int.toNat_natCast, List.getD_eq_getElem?_getD, List.getElem?_eq_getElem hi]
              rfl
            have j2 : ∀ t, (kd1 = 6 → jI_.f (rdOf ByteArray.empty keys (i : Int)) = some t) → ∃ kd2 b2 e2 ns2 ks2 ok, Ev (fun k => jF_.j2 k s (rdOf ByteArray.empty keys i) keys (keys.length : Int) (i : Int) t kd1 b1 e1 ns1 ks1) (kd2, b2, e2, ns2, ks2, ok) ∧ (ok = true → GoodP s ⟨kd2, b2, e2, ns2, ks2⟩ ∧ Path s ⟨kd1, b1, e1, ns1, ks1⟩ (keys.drop i) ⟨kd2, b2, e2, ns2, ks2⟩) := by
              intro t htt
              cases t with
              | true => exact ⟨_, _, _, _, _, false, Ev.step (fun k => by rw [jF_.j2]) (Ev.pos rfl (Ev.now _)), fun h => by cases h⟩
              | false =>
                cases ok with
                | false =>
                  refine ⟨0, 0, 0, [], [], false, Ev.step (fun k => by rw [jF_.j2]) (Ev.neg Bool.false_ne_true ?_), fun h => by cases h⟩
                  refine Ev.bind es ?_
                  exact Ev.neg Bool.false_ne_true (Ev.now _)
                | true =>
                  obtain ⟨q1, q2, q3, q4, q5, q6, eq, hq⟩ := ih (i + 1) k1 k2 k3 k4 k5 (by omega) (by omega) (hg rfl).1
                  refine ⟨q1, q2, q3, q4, q5, q6, Ev.step (fun k => by rw [jF_.j2]) (Ev.neg Bool.false_ne_true ?_), fun hok => ⟨(hq hok).1, by rw [hdrop]; exact Path.step (hg rfl).2 (hg rfl).1 (hq hok).2 htt⟩⟩
                  refine Ev.bind es ?_
                  refine Ev.pos rfl ?_
                  rw [w64 (by omega) (by omega)]
                  exact eq
            by_cases c : kd1 = 6
            · obtain ⟨t, ht⟩ := index (rdOf ByteArray.empty keys i)
              obtain ⟨q1, q2, q3, q4, q5, q6, eq, hq⟩ := j2 t (fun _ => ht)
              exact ⟨q1, q2, q3, q4, q5, q6, Ev.step (fun k => by rw [jF_.l0]) (Ev.pos (by omega) (Ev.pos (by omega) (Ev.pos (by omega) (Ev.pos c (Ev.bd ht eq))))), hq⟩
            · obtain ⟨q1, q2, q3, q4, q5, q6, eq, hq⟩ := j2 false (fun h => absurd h c)
              exact ⟨q1, q2, q3, q4, q5, q6, Ev.step (fun k => by rw [jF_.l0]) (Ev.pos (by omega) (Ev.pos (by omega) (Ev.pos (by omega) (Ev.neg c eq)))), hq⟩
          · obtain rfl : i = keys.length := by omega
            exact stop _ _ _ _ _ h
      obtain ⟨q1, q2, q3, q4, q5, q6, eq, hq⟩ := go keys.length 0 kd0 b0 e0 ns0 ks0 (by omega) (by omega) hg
      have eq0 : Ev (fun k => jF_.l0 k s keys (keys.length : Int) 0 kd0 b0 e0 ns0 ks0) (q1, q2, q3, q4, q5, q6) := eq
      have ez : Ev (fun k => jF_.j0 k s keys (!true) kd0 b0 e0 ns0 ks0) (q1, q2, q3, q4, q5, q6) := Ev.step (fun k => by rw [jF_.j0]) (Ev.neg (by decide) eq0)
      have ek : Ev (fun k => jF_.f k s keys) (q1, q2, q3, q4, q5, q6) := by
        unfold jF_.f
        exact Ev.bind ej (Ev.pos rfl (Ev.bind er ez))
      exact ⟨q1, q2, q3, q4, q5, q6, ek, fun h => ⟨by omega, kd0, b0, e0, ns0, ks0, hp rfl, (hq h).2, (hq h).1⟩⟩
end Go.Proofs.YtpdohioobbfncaaGreatDoor.JFnJpWildStop