/-
  The reference's Height of a tree that is told as a list of nodes.
-/
import Derived.Test.YtmhkknobgcdkkaaKnRow
import Derived.Test.YtmhkknobgcdkkaaCmp
import Derived.IntWalk
import Derived.Deep.RegionHeld3
namespace Go.Proofs.Ytmhkknobgcdkkaa
open Go.RowKit

theorem RowAt.kn {w : World} {B : Nat} {A : Option Addr} {K : List Kn} (h : RowAt w B A (knCells K)) {i : Nat} {x : Kn} (hx : K[i]? = some x) (j : Nat) (hj : j < 6) : ∃ a, A = some a ∧ w.cell? (a.add (i * 6 + j)) = (knVals x)[j]? := by
  have h1 := knCells_getj hx j hj
  have h2 : ∃ u, (knVals x)[j]? = some u := ⟨_, List.getElem?_eq_getElem (by simp [knVals]; omega)⟩
  obtain ⟨u, hu⟩ := h2
  obtain ⟨a, ha, _, hc⟩ := h (i * 6 + j) u (h1.trans hu)
  exact ⟨a, ha, hc.trans hu.symm⟩

set_option maxHeartbeats 4000000 in
set_option maxRecDepth 100000 in
theorem height_walk (K : List Kn) (n cap : Nat) (A : Option Addr) (hn : K.length = n) (t : BT) : ∀ (a u left : Int) (w : World), SubAt K a u t → (t.height : Int) ≤ left → left ≤ 200000 → (∀ m, RowAt (w.drewN m) w.heap.size A (knCells K)) →
    Calls Try.prog 25 #[.slice A n cap, .int .i64 a, .int .i64 left] w fun e w' => e = .returned (.int .i64 t.height) ∧ ∃ m, w' = w.drewN m := by
  induction t with
  | nil =>
    intro a u left w h hl hl2 hr
    simp only [SubAt] at h
    subst h
    clear hr
    have hl0 : ¬ left < 0 := by simp [BT.height] at hl; omega
    go_enter Try.func25, Try.ntmps25
    go_wp2_with fail
    go_ret
    exact ⟨rfl, 0, rfl⟩
  | node i l k v b r ihl ihr =>
    intro a u left w h hl hl2 hr
    obtain ⟨m, rfl, la, ra, hm, s1, s2⟩ := h
    obtain ⟨ad, rfl, e3⟩ := RowAt.kn (hr 0) hm 3 (by omega)
    have hm1 := (List.getElem?_eq_some_iff.1 hm).1
    have HL := Lib.hid (fun mm => ihl la m (left - 1) (w.drewN mm) s1 (by simp only [BT.height] at hl; omega) (by omega) (fun m2 => by have := hr (mm + m2); rw [World.drewN_drewN]; exact this))
    have HR := Lib.hid (fun mm => ihr ra m (left - 1) (w.drewN mm) s2 (by simp only [BT.height] at hl; omega) (by omega) (fun m2 => by have := hr (mm + m2); rw [World.drewN_drewN]; exact this))
    obtain ⟨ad', ha4, e4⟩ := RowAt.kn (hr 0) hm 4 (by omega)
    injection ha4 with ha4
    subst ha4
    have hc3 : w.cell? ⟨(ad.add (m * 6)).block, (ad.add (m * 6)).off + 3, none⟩ = some (.int .i64 la) := by rw [← add_succ _ _ _ (by omega)]; exact e3
    have hc4 : w.cell? ⟨(ad.add (m * 6)).block, (ad.add (m * 6)).off + 4, none⟩ = some (.int .i64 ra) := by rw [← add_succ _ _ _ (by omega)]; exact e4
    have hm0 : (0 : Int) ≤ (m : Int) := by omega
    have hmn : (m : Int) < (n : Int) := by omega
    have hl0 : (0 : Int) ≤ left := by have := hl; omega
    have hw : IntKind.i64.wrap (left - 1) = left - 1 := IntWalk.i64_in _ (by omega)
    have hh : (max l.height r.height : Int) + 1 ≤ 200000 := by simp only [BT.height] at hl; omega
    clear hr e3 e4 hm hm1 s1 s2 ihl ihr
    go_enter Try.func25, Try.ntmps25
    go_wp2_with fail
    go_quiet (first | (go_at_call_of 25 (Value.int .i64 la); exact Calls.quiet_of (HL.out _)) | (go_at_call_of 25 (Value.int .i64 ra); exact Calls.quiet_of (HR.out _)))
    all_goals
      go_wp2_with fail
    all_goals
      go_ret
      refine ⟨congrArg (fun z => Ending.returned (Value.int IntKind.i64 z)) (a₁ := _) (a₂ := ((BT.node i l k v b r).height : Int)) ?_, _, rfl⟩
      simp only [BT.height]
      omega
end Go.Proofs.Ytmhkknobgcdkkaa
