/-
  growsRedBlack answers true.
-/
import Derived.Test.YtmhkknobgcdkkaaRbState
namespace Go.Proofs.Ytmhkknobgcdkkaa.Rb
open Go.RowKit Go.Proofs.Ytmhkknobgcdkkaa

set_option maxHeartbeats 2000000 in
set_option maxRecDepth 100000 in
theorem growsRedBlack_walk (w : World) : Calls Try.prog 21 #[] w fun e w' => e = .returned (.bool true) ∧ Below w.heap.size w w' := by
  have hr : run ⟨0, 0⟩ [⟨1, 5, 6⟩] = [(5, 6)] := by simp [run, step, ins]
  have c1 := fun (w : World) (A : Option Addr) (ha : ActsAt w w.heap.size A [⟨1, 5, 6⟩]) => implRedBlackState_walk ⟨0, 0⟩ (.inl rfl) 1 1 A [⟨1, 5, 6⟩] w rfl (by omega) ha
  rw [hr] at c1
  have C1 := Lib.hid c1
  clear c1 hr
  go_enter Try.func21, Try.ntmps21
  go_wp2_with fail
  have b0 : Below w.heap.size w (w.alloc (.cells #[.int .i64 1, .int .i64 5, .int .i64 6] 59)) := (Below.refl _ _).alloc (Nat.le_refl _) _
  have a0 : ActsAt (w.alloc (.cells #[.int .i64 1, .int .i64 5, .int .i64 6] 59)) (w.alloc (.cells #[.int .i64 1, .int .i64 5, .int .i64 6] 59)).heap.size (some ⟨w.heap.size, 0, none⟩) [⟨1, 5, 6⟩] := by
    have hb : Blk (w.alloc (.cells #[.int .i64 1, .int .i64 5, .int .i64 6] 59)) w.heap.size 59 #[.int .i64 1, .int .i64 5, .int .i64 6] := Blk.new _ _ _
    intro i d hd
    cases i with
    | zero =>
      simp only [List.getElem?_cons_zero, Option.some.injEq] at hd
      subst hd
      exact ⟨_, rfl, hb.lt, hb.cell 0, hb.cell 1, hb.cell 2⟩
    | succ i => simp at hd
  have A0 := Lib.hid a0
  have B0 := Lib.hid b0
  clear a0 b0
  refine (C1.out _ _ A0.out).mono ?_
  rintro e w1 ⟨v, rfl, hst, b1⟩
  have b1' := B0.out.trans (b1.mono B0.out.size)
  obtain ⟨A1, c1, A2, c2, rfl, own1, own2⟩ := hst
  have h1 := RowAt.of_own own1
  obtain ⟨a1, rfl, hlt, hc⟩ := h1.get (show (intRow ([((5 : Int), (6 : Int))].map Prod.fst))[0]? = some (.int .i64 5) from rfl)
  have hc0 : w1.cell? a1 = some (.int .i64 5) := by simpa [Addr.add] using hc
  have B1 := Lib.hid b1'
  have fin : Below w.heap.size w (w1.alloc (.cells #[.slice (some a1) 1 c1, .slice A2 1 c2, .int .i64 1, .bool false] 33)) := b1'.alloc b1'.size _
  have Fin := Lib.hid fin
  clear own1 own2 b1 b1' h1 C1 A0 B0 hc fin B1
  simp only [List.length_cons, List.length_nil]
  go_wp2_with fail
  go_ret
  exact ⟨rfl, Fin.out⟩
end Go.Proofs.Ytmhkknobgcdkkaa.Rb
