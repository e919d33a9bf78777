/- strconv.ParseInt(s, 10, 64) by the kit's contracts; no condition beside those that each theorem states. -/
import Derived.Test.YtljmeaemonpkoaaDoorGSFnFfInt64
import Derived.Test.YtljmeaemonpkoaaDoorSHFnFfInt64
import Derived.Test.YtljmeaemonpkoaaDoorPFnFfInt64x0
namespace Go.Proofs.YtljmeaemonpkoaaDoor.PFnFfInt64
open Go.RowKit Go.Proofs.YtljmeaemonpkoaaDoorW.PrintWords Go.Proofs.YtljmeaemonpkoaaDoorW.PrintLast Go.Proofs.YtljmeaemonpkoaaDoorW.PrintMore
def strconv_ParseInt.f (a0 : ByteArray) (a1 : Int) (a2 : Int) : Option (Int × Option Int) :=
  if a1 = 10 ∧ a2 = 64 ∧ a0.size ≤ 281474976710656 then
    match Lib.parseIntB 64 a0.data.toList with
    | .ok v => some (v, none)
    | .«syntax» => some (0, some 0)
    | .range => some (Lib.intSat 64 a0.data.toList, some 0)
  else none
theorem strconv_ParseInt.calls (a0 : ByteArray) (a1 : Int) (a2 : Int) (r1 : Int) (r2 : Option Int) (w : World) (h : strconv_ParseInt.f a0 a1 a2 = some (r1, r2)) (hG : Glob w) :
    Calls Tryd.prog 41 #[.string a0, .int .i64 a1, .int .i64 a2] w fun e w' => ∃ ev : TypeId × Value, e = .returned (.tuple #[.int .i64 r1, errX r2 ev]) ∧ Below w.heap.size w w' := by
  unfold strconv_ParseInt.f at h
  obtain ⟨⟨t1, p1, hs⟩, ⟨t2, p2, hr⟩⟩ := hG
  split at h
  · rename_i hc
    obtain ⟨rfl, rfl, hz⟩ := hc
    split at h
    · rename_i v hv
      obtain ⟨rfl, rfl⟩ := Prod.mk.inj (Option.some.inj h)
      refine (Tryd.strconv_ParseInt_10_at64_ok a0 (by omega) v hv w).mono fun e w' he => ?_
      obtain ⟨he, hw⟩ := he
      refine ⟨(0, .nilIface), he, ?_⟩
      rcases hw with rfl | ⟨t, rfl⟩
      · exact Below.refl _ _
      · exact bytes_below (Below.refl _ _) (Nat.le_refl _) _ _
    · rename_i hv
      obtain ⟨rfl, rfl⟩ := Prod.mk.inj (Option.some.inj h)
      refine (Tryd.strconv_ParseInt_10_at64_syntax a0 hz hv _ w hs (.inr ⟨t1, p1, rfl⟩)).mono fun e w' he => ?_
      obtain ⟨N, he, _, _, hb⟩ := he
      exact ⟨(_, _), he, hb⟩
    · rename_i hv
      obtain ⟨rfl, rfl⟩ := Prod.mk.inj (Option.some.inj h)
      refine (Tryd.strconv_ParseInt_10_at64_range a0 hz hv _ w hr (.inr ⟨t2, p2, rfl⟩)).mono fun e w' he => ?_
      obtain ⟨N, he, _, _, hb⟩ := he
      exact ⟨(_, _), he, hb⟩
  · cases h
end Go.Proofs.YtljmeaemonpkoaaDoor.PFnFfInt64
