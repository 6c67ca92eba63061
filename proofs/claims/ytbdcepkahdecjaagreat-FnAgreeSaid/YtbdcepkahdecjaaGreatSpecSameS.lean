import Derived.Test.YtbdcepkahdecjaaGreatSpecSame
namespace Go.Proofs.YtbdcepkahdecjaaGreat
open Go.RowKit
theorem sameState_yes (l : KV) (w : World) (v1 v2 : Value) (B1 B2 : Nat) (hn1 : l.length ≤ 100000) (h1 : StateAt w B1 v1 l) (h2 : StateAt w B2 v2 l) (hb1 : B1 ≤ w.heap.size) (hb2 : B2 ≤ w.heap.size) :
    Calls Tryz.prog 6 #[v1, v2] w fun e w' => e = .returned (.bool true) ∧ Below w.heap.size w w' := by
  obtain ⟨A1, c1, A2, c2, rfl, hk1, hv1⟩ := h1
  obtain ⟨A3, c3, A4, c4, rfl, hk2, hv2⟩ := h2
  have cK := fun w B hk1 hk2 => same_yes (l.map Prod.fst) w l.length c1 c3 A1 A3 B B (by simp) hn1 hk1 hk2
  have cV := fun w B hv1 hv2 => same_yes (l.map Prod.snd) w l.length c2 c4 A2 A4 B B (by simp) hn1 hv1 hv2
  generalize (l.length : Int) = n at *
  have CK := Lib.hid cK
  have CV := Lib.hid cV
  have HK1 := Lib.hid (hk1.more hb1)
  have HK2 := Lib.hid (hk2.more hb2)
  have HV1 := Lib.hid (hv1.more hb1)
  have HV2 := Lib.hid (hv2.more hb2)
  clear cK cV hk1 hk2 hv1 hv2
  go_enter Tryz.func6, Tryz.ntmps6
  go_wp2_with fail
  have b0 : Below w.heap.size w ((w.alloc (.cells #[.slice A1 l.length c1, .slice A2 l.length c2, .int .i64 n, .bool (n == 0)] 28)).alloc (.cells #[.slice A3 l.length c3, .slice A4 l.length c4, .int .i64 n, .bool (n == 0)] 28)) :=
    ((Below.refl _ _).alloc (Nat.le_refl _) _).alloc (by simp) _
  have B0 := Lib.hid b0
  clear b0
  refine (CK.out _ w.heap.size (HK1.out.below B0.out) (HK2.out.below B0.out)).mono ?_
  rintro e w1 ⟨rfl, m, rfl⟩
  have CV' := Lib.hid (CV.out (((w.alloc (.cells #[.slice A1 l.length c1, .slice A2 l.length c2, .int .i64 n, .bool (n == 0)] 28)).alloc (.cells #[.slice A3 l.length c3, .slice A4 l.length c4, .int .i64 n, .bool (n == 0)] 28)).drewN m) w.heap.size (HV1.out.below (Below.drewN' B0.out m)) (HV2.out.below (Below.drewN' B0.out m)))
  clear CK CV HK1 HK2 HV1 HV2
  go_wp2_with fail
  refine CV'.out.mono ?_
  rintro e w1 ⟨rfl, m', rfl⟩
  clear CV'
  go_wp2_with fail
  go_ret
  exact ⟨by simp, Below.drewN' B0.out (m + m')⟩
end Go.Proofs.YtbdcepkahdecjaaGreat
