/- impl.JpObjectEach and its call back, told by hand; no condition beside those that each theorem states. -/
import Derived.Test.YtefjihdcaecmcaaDoorHOEFnJpObjectNone
namespace Go.Proofs.YtefjihdcaecmcaaDoor.PFnJpObjectNone
open Go.RowKit Go.Proofs.YtefjihdcaecmcaaDoorW.PrintWords Go.Proofs.YtefjihdcaecmcaaDoorW.PrintLast Go.Proofs.YtefjihdcaecmcaaDoorW.PrintMore
set_option linter.unusedVariables false
set_option linter.unusedSimpArgs false
theorem infoF : (Tryd.prog.info? 44).map (fun i => (i.zero, i.size, i.bytes)) = some (some (.agg #[.string ByteArray.empty, .string ByteArray.empty, .int .i64 0, .int .i64 0]), 4, 48) := by kernel_rfl
/-- What the call back has gathered: a row of its own. -/
structure Jb (g B j : Nat) (W : World) : Prop where
  ex : ∃ v inner, Bx g v W ∧ W.ownsRow (B + 1) 44 4 v j inner ∧ (j = 0 → v = .slice none 0 0)
theorem Jb.more {g B j : Nat} {W W' : World} (h : Jb g B j W) (hb : Below W.heap.size W W') : Jb g B j W' := by
  obtain ⟨v, inner, h1, h2, h3⟩ := h
  exact ⟨v, inner, h1.more hb, pw_own_below h2 hb, h3⟩
set_option maxHeartbeats 4000000 in
set_option maxRecDepth 100000 in
theorem oclos_calls {s : ByteArray} {b g B j : Nat} (hgB : g < B) (hj : j ≤ 2147483647) (G k cp : Nat) (nm : List Int) (x y : Nat) (kd : Int) (hy : y ≤ s.size) (h2 : kd = 1 → x + 2 ≤ y) (hxy : x < y) (W : World) (hI : Jb g B j W) (hB : B < W.heap.size) (hT : Tx b s W) (hH : Hd G k nm W) :
    Calls Tryd.prog 12 (#[.slice (some ⟨G, k, none⟩) nm.length cp, vsl b x y kd, .int .i64 kd, .int .i64 (y : Int)] ++ #[.pointer (some ⟨g, 0, none⟩)]) W fun e' W' => e' = .returned .nilIface ∧ Jb g B (j + 1) W' ∧ Bes (fun k => k = g ∨ B < k) W W' := by
  obtain ⟨v, inner, hb, ho, _⟩ := hI
  obtain ⟨vx, vl, hv, hv1, hv2, hv3⟩ := vsl_slice b x y kd
  have hvs : vx + vl ≤ s.size := by
    by_cases hk : kd = 1
    · have := hv2 hk; have := h2 hk; omega
    · have := hv3 hk; omega
  have hcv1 : (convert 41 9 (.slice (some ⟨G, k, none⟩) nm.length cp)).run Tryd.prog W = .ok (.string (strOfNums nm)) W :=
    run_convert_bytes_arg W 41 5 Tryd.underlying41 Tryd.underlying5 G k nm.length cp nm rfl (fun i hi => hH.cell i hi) 9 Tryd.underlying9
  have hh := hT.hd vx (vx + vl) hvs
  have hcv2 : (convert 41 9 (.slice (some ⟨b, vx, none⟩) vl vl)).run Tryd.prog W = .ok (.string (strOfNums (win s vx (vx + vl)))) W :=
    run_convert_bytes_arg W 41 5 Tryd.underlying41 Tryd.underlying5 b vx vl vl (win s vx (vx + vl)) (by rw [win_len]; omega) (fun i hi => hh.cell i (by rw [win_len]; omega)) 9 Tryd.underlying9
  rw [hv]
  obtain ⟨c1, e1⟩ : ∃ c1, strOfNums nm = c1 := ⟨_, rfl⟩
  obtain ⟨c2, e2⟩ : ∃ c2, strOfNums (win s vx (vx + vl)) = c2 := ⟨_, rfl⟩
  rw [e1] at hcv1
  rw [e2] at hcv2
  obtain ⟨nl, hnl⟩ : ∃ nl, nm.length = nl := ⟨_, rfl⟩
  rw [hnl] at hcv1 ⊢
  have HX := Aside0.mk hb
  have HO := Aside0.mk ho
  have HB := Aside0.mk hB
  have HN := Aside0.mk hj
  have HG := Aside0.mk hgB
  have g0 := hb.cell
  show Calls Tryd.prog 12 #[.slice (some ⟨G, k, none⟩) nl cp, .slice (some ⟨b, vx, none⟩) vl vl, .int .i64 kd, .int .i64 (y : Int), .pointer (some ⟨g, 0, none⟩)] W _
  clear hv hv1 hv2 hv3 hvs hh e1 e2 hnl hT hH hb ho hB hj hgB h2 hxy hy
  go_enter Tryd.func12, Tryd.ntmps12
  go_wp2_with ((with_reducible refine gate_builtin (b := .append) (xs := #[.tmp 10, .tmp 18]) rfl ?_); at_builtin; refine print_append_cells (w0 := W) (B + 1) rfl (.tmp 10) (.tmp 18) 30 44 _ 4 48 rfl Tryd.underlying30 infoF rfl (by decide) (by decide) v j inner [.string c1, .string c2, .int .i64 kd, .int .i64 (y : Int)] rfl rfl rfl (by simp [Value.oneCell']) HO.out (Below.refl _ _) HB.out (by have := HN.out; omega) ?_; intro v1 w1 ho1 hb1 hg1 hat1; obtain ⟨sa, sc, rfl⟩ := own_slice ho1; have HO1 := Aside0.mk ho1; have HB1 := Aside0.mk hb1; have hne : some g ≠ v.ownBlock := (fun he => by have := own_base HO.out g he.symm; have := HG.out; omega); have HX1 := Aside0.mk (show Bx g v w1 from by obtain ⟨t, ht⟩ := HX.out; exact ⟨t, blk_grown ht hg1 hne⟩); have q1 := HX1.out.cell; have q2 := HX1.out.free; clear ho1 hb1 hg1 hat1 hne g0)
  go_ret
  have hne1 : some g ≠ (Value.slice sa (j + 1) sc).ownBlock := fun he => by have := own_base HO1.out g he.symm; have := HG.out; omega
  refine ⟨rfl, ⟨_, _, HX1.out.put, own_setCell HO1.out hne1 _, fun hh => absurd hh (Nat.succ_ne_zero _)⟩, ?_⟩
  have h1 : Bes (fun k => k = g ∨ B < k) W w1 := ⟨HB1.out.os, HB1.out.tape, HB1.out.output, HB1.out.size, fun i hi hp => HB1.out.block i (by omega)⟩
  exact h1.set g 0 _ (.inl rfl)
set_option maxHeartbeats 2000000 in
set_option maxRecDepth 100000 in
/-- ObjectEach is objectEachConfig with the default configuration. -/
theorem opub_calls (D F KK : Value) (w : World) (hG : Glob w) (R : Value → World → Prop) (HK : Calls Tryd.prog 17 #[cfgV, D, F, KK] w fun e' w' => ∃ v, e' = .returned v ∧ R v w') :
    Calls Tryd.prog 11 #[D, F, KK] w fun e' w' => ∃ v, e' = .returned v ∧ R v w' := by
  have g0 := hG.e0_0
  have g1 := hG.e0_1
  have g2 := hG.e0_2
  have HK := Aside0.mk HK
  dsimp only [cfgV] at HK
  clear hG
  go_enter Tryd.func11, Tryd.ntmps11
  go_wp2_with (go_at_call 17; (with_reducible refine HK.out.mono ?_); rintro e' w3 ⟨v, rfl, hR⟩; have HR := Aside0.mk hR; clear hR)
  go_ret
  exact ⟨v, rfl, HR.out⟩
/-- What impl.JpObjectEach gives where keys lead. -/
def Jr (s : ByteArray) (p : Nat) (v : Value) : Prop := (bt s (p : Int) ≠ 123 ∧ v = .tuple #[.slice none 0 0, .bool false]) ∨ (bt s (p : Int) = 123 ∧ ∃ u, v = .tuple #[u, .bool true])
set_option maxHeartbeats 2000000 in
set_option maxRecDepth 100000 in
theorem jpobj_calls {s : ByteArray} {keys : List ByteArray} {q0 p : Nat} {els : List OM} {f : Nat} (h : Oq s keys q0 p els f) (hz : s.size ≤ 2147483647) (hks : ∀ k ∈ keys, k.size ≤ 2147483647) (hel : els.length ≤ 2147483647) (hme : ∀ m ∈ els, m.x < m.y ∧ m.y ≤ s.size ∧ (m.kd = 1 → m.x + 2 ≤ m.y)) (A1 : Option Addr) (c1 kb ko : Nat) (hkc : keys.length ≤ c1) (hkA : keys ≠ [] → A1 = some ⟨kb, ko, none⟩) (w : World) (hK : Ky kb ko keys w) (hG : Glob w) :
    Calls Tryd.prog 6 #[.string s, .slice A1 keys.length c1] w fun e' w' => (∃ v, e' = .returned v ∧ Jr s p v) ∧ Below w.heap.size w w' := by
  have kb1 := fun W => print_bytes (P := Tryd.prog) 9 41 5 Tryd.underlying9 Tryd.underlying41 Tryd.underlying5 s W
  have hb1 := below_alloc_ w (.cells #[.slice none 0 0] 30)
  have hx1 := Bx.new w (.slice none 0 0) 30
  have hs1 : (w.alloc (.cells #[.slice none 0 0] 30)).heap.size = w.heap.size + 1 := Go.Deep.nblk_alloc _ _
  generalize hw1 : w.alloc (.cells #[.slice none 0 0] 30) = w1 at hb1 hx1 hs1
  have hb2 := below_bytes w1 5 s
  have hs2 : (Lib.bytesWorld w1 5 s).heap.size = w1.heap.size + 1 := Lib.bytesWorld_size _ _ _
  have hlt1 := hx1.lt
  have hQ : Qk w1.heap.size (grownCap w1 s.size 0 5) kb ko c1 A1 s keys (Lib.bytesWorld w1 5 s) := ⟨hz, grownCap_ge _ _ _ _, hks, hkc, hkA, (hG.below hb1).below hb2, tx_of s w1, (hK.more hb1).more hb2⟩
  have hP : ∀ W, Bes (fun k => k = w.heap.size ∨ (Lib.bytesWorld w1 5 s).heap.size < k) (Lib.bytesWorld w1 5 s) W → Below w.heap.size w W ∧ Glob W ∧ Tx w1.heap.size s W := by
    intro W hB
    have h3 : Below w.heap.size (Lib.bytesWorld w1 5 s) W := hB.below (by omega) (fun k hk => by omega)
    have h4 : Below w.heap.size w W := ((below_step hb1 hb2).trans h3)
    refine ⟨h4, hG.below h4, ⟨fun i hi => ?_⟩⟩
    exact hB.cell (by show ¬ (w1.heap.size = w.heap.size ∨ _ < w1.heap.size); omega) (hQ.text.cell i hi)
  have main := oeach_calls h 12 #[.pointer (some ⟨w.heap.size, 0, none⟩)] w1.heap.size (grownCap w1 s.size 0 5) kb ko c1 A1 (Lib.bytesWorld w1 5 s) (fun k => k = w.heap.size ∨ (Lib.bytesWorld w1 5 s).heap.size < k) (Jb w.heap.size (Lib.bytesWorld w1 5 s).heap.size) hQ
    (fun args W => enters_ Tryd.func12 (by kernel_rfl) rfl args W) (by omega) (fun W hB => (hP W hB).2) (fun j W W' hI hB => hI.more hB) ⟨.slice none 0 0, [], hx1.more hb2, own_nil _ _ _ _, fun _ => rfl⟩
    (fun j hj G k cp W hI hB hlt hH => by
      obtain ⟨m1, m2, m3⟩ := hme _ (List.getElem_mem hj)
      exact oclos_calls (by omega) (by omega) G k cp _ _ _ _ m2 m3 m1 W hI hlt (hP W hB).2.2 hH)
  have pub := opub_calls _ _ _ _ hQ.glob (fun v W => Jr s p (.tuple #[(if bt s (p : Int) = 123 then (W.cell? ⟨w.heap.size, 0, none⟩).getD undef else .slice none 0 0), .bool (bt s (p : Int) == 123)]) ∧ (∃ u, Bx w.heap.size u W ∧ (bt s (p : Int) ≠ 123 → u = .slice none 0 0)) ∧ ((bt s (p : Int) == 123) = true ∧ v = .nilIface ∨ (bt s (p : Int) == 123) = false ∧ ∃ te pe, v = .iface te pe) ∧ Below w.heap.size w W) (main.mono (by
    rintro e' W' ⟨⟨hne, ⟨te, pe, rfl, _⟩, hI⟩ | ⟨he, rfl, hI⟩, hB⟩
    · refine ⟨_, rfl, .inl ⟨hne, by rw [if_neg hne, beq_eq_false_iff_ne.2 hne]⟩, ?_, .inr ⟨beq_eq_false_iff_ne.2 hne, te, pe, rfl⟩, (hP W' hB).1⟩
      obtain ⟨v, inner, h1, h2, h3⟩ := hI
      exact ⟨v, h1, fun _ => h3 rfl⟩
    · obtain ⟨v, inner, h1, h2, h3⟩ := hI
      exact ⟨_, rfl, .inr ⟨he, _, by rw [he]; rfl⟩, ⟨v, h1, fun hh => absurd he hh⟩, .inl ⟨by rw [he]; rfl, rfl⟩, (hP W' hB).1⟩))
  have HK := Aside0.mk pub
  have HB := Aside0.mk (below_step hb1 hb2)
  obtain ⟨N, hN⟩ : ∃ N, keys.length = N := ⟨_, rfl⟩
  obtain ⟨n, hn⟩ : ∃ n, s.size = n := ⟨_, rfl⟩
  rw [hN, hn] at HK
  rw [hN]
  obtain ⟨pz, hpz⟩ : ∃ pz, bt s (p : Int) = pz := ⟨_, rfl⟩
  have HJ := Aside0.mk (show ∀ v, Jr s p v ↔ ((pz ≠ 123 ∧ v = .tuple #[.slice none 0 0, .bool false]) ∨ (pz = 123 ∧ ∃ u, v = .tuple #[u, .bool true])) from fun v => by unfold Jr; rw [hpz])
  rw [hpz, hs1] at HK
  clear hs1 pub main hP hQ hs2 hlt1 hx1 hb1 hb2 hN hG hK hkA hkc hme hel hks hz h hpz
  subst hw1
  go_enter Tryd.func6, Tryd.ntmps6
  go_wp2_with (go_at_call 11; (with_reducible refine HK.out.mono ?_); rintro e' w3 ⟨v, rfl, hJr, ⟨u, hu, hu2⟩, hv, hB⟩; have HR := Aside0.mk (And.intro hJr (And.intro hu2 hB)); have HU := Aside0.mk hu; have HV := Aside0.mk hv; clear hJr hu2 hB hu hv)
  have q1 := HU.out.cell
  rcases HV.out with ⟨hp, rfl⟩ | ⟨hp, te, pe, rfl⟩
  · go_wp2
    go_region
    all_goals (try go_wp2)
    all_goals go_ret2
    all_goals exact ⟨⟨_, rfl, (HJ.out _).2 (.inr ⟨by simpa using hp, _, rfl⟩)⟩, by first | exact HR.out.2.2 | exact HR.out.2.2.drew⟩
  · have hne : pz ≠ 123 := by simpa using hp
    obtain rfl := HR.out.2.1 hne
    go_wp2
    go_region
    all_goals (try go_wp2)
    all_goals go_ret2
    all_goals exact ⟨⟨_, rfl, (HJ.out _).2 (.inl ⟨hne, rfl⟩)⟩, by first | exact HR.out.2.2 | exact HR.out.2.2.drew⟩
end Go.Proofs.YtefjihdcaecmcaaDoor.PFnJpObjectNone