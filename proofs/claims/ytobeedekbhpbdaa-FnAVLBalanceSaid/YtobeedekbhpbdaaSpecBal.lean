/-
  The reference's Balanced, of what is balanced.
-/
import Derived.Test.YtobeedekbhpbdaaSpecHeight
namespace Go.Proofs.Ytobeedekbhpbdaa
open Go.RowKit

set_option maxHeartbeats 4000000 in
set_option maxRecDepth 100000 in
theorem balanced_walk (t : BT) (cap : Nat) (A : Option Addr) (w : World) (n : Nat) (hn : t.count = n) (hn1 : n ≤ 100000) (hall : t.All (fun l r => (l.height : Int) - r.height ≤ 1 ∧ (r.height : Int) - l.height ≤ 1)) (hr : RowAt w w.heap.size A (knCells (knots 0 (-1) t))) :
    Calls Try.prog 12 #[.slice A n cap] w fun e w' => e = .returned (.bool true) ∧ Below w.heap.size w w' := by
  have H := Lib.hid (subAt_all (K := knots 0 (-1) t) t 0 (-1) [] [] rfl (by simp) hall)
  have HR := Lib.hid hr
  have HN := Lib.hid (show (knots 0 (-1) t).length = n by rw [knots_length, hn])
  clear hall hr hn
  generalize knots 0 (-1) t = K at *
  go_enter Try.func12, Try.ntmps12
  go_wp2_with fail
  go_loopw [8] (fun i wr => ∃ k : Nat, k ≤ n ∧ i = .int .i64 k ∧ Below w.heap.size w wr) (fun i _ => n - (intOf i).toNat)
  case atStart => exact ⟨0, Nat.zero_le _, rfl, Below.refl _ _⟩
  case round =>
    obtain ⟨k, hk, rfl, hb⟩ := hrel
    have HB := Lib.hid hb
    by_cases hlt : k < n
    · obtain ⟨x, hx⟩ : ∃ x, K[k]? = some x := ⟨_, List.getElem?_eq_getElem (by have := HN.out; omega)⟩
      obtain ⟨lt, rt, m, ⟨p1, p2⟩, s1, s2, hc⟩ := H.out x (List.mem_of_getElem? hx)
      rw [HN.out] at hc
      have R := HR.out.below hb
      obtain ⟨ad, rfl, e0⟩ := RowAt.kn R hx 0 (by omega)
      have get : ∀ j, j < 6 → ∀ u, (knVals x)[j]? = some u → wr.cell? (ad.add (k * 6 + j)) = some u := fun j hj u hu => by
        obtain ⟨ad', h1, h2⟩ := RowAt.kn R hx j hj
        injection h1 with h1
        subst h1
        exact h2.trans hu
      have c0 : wr.cell? (ad.add (k * 6)) = some (.int .i64 x.key) := get 0 (by omega) _ rfl
      have c1 : wr.cell? ⟨(ad.add (k * 6)).block, (ad.add (k * 6)).off + 1, none⟩ = some (.int .i64 x.val) := by rw [← add_succ _ _ _ (by omega)]; exact get 1 (by omega) _ rfl
      have c2 : wr.cell? ⟨(ad.add (k * 6)).block, (ad.add (k * 6)).off + 2, none⟩ = some (.int .i64 x.up) := by rw [← add_succ _ _ _ (by omega)]; exact get 2 (by omega) _ rfl
      have c3 : wr.cell? ⟨(ad.add (k * 6)).block, (ad.add (k * 6)).off + 3, none⟩ = some (.int .i64 x.left) := by rw [← add_succ _ _ _ (by omega)]; exact get 3 (by omega) _ rfl
      have c4 : wr.cell? ⟨(ad.add (k * 6)).block, (ad.add (k * 6)).off + 4, none⟩ = some (.int .i64 x.right) := by rw [← add_succ _ _ _ (by omega)]; exact get 4 (by omega) _ rfl
      have c5 : wr.cell? ⟨(ad.add (k * 6)).block, (ad.add (k * 6)).off + 5, none⟩ = some (.int .i64 x.size) := by rw [← add_succ _ _ _ (by omega)]; exact get 5 (by omega) _ rfl
      have hl1 := lt.height_le
      have hl2 := rt.height_le
      have RA := Lib.hid (fun mm => ((HR.out.below (Below.drewN' (hb.alloc hb.size (.cells #[.int .i64 x.key, .int .i64 x.val, .int .i64 x.up, .int .i64 x.left, .int .i64 x.right, .int .i64 x.size] 47)) mm)).more (C := (wr.alloc (.cells #[.int .i64 x.key, .int .i64 x.val, .int .i64 x.up, .int .i64 x.left, .int .i64 x.right, .int .i64 x.size] 47)).heap.size) (by have := hb.size; simp; omega)))
      have HL := Lib.hid (fun mm => height_walk K n cap (some ad) HN.out lt x.left m n ((wr.alloc (.cells #[.int .i64 x.key, .int .i64 x.val, .int .i64 x.up, .int .i64 x.left, .int .i64 x.right, .int .i64 x.size] 47)).drewN mm) s1 (by omega) (by omega) (fun m2 => by rw [World.drewN_drewN]; exact RA.out (mm + m2)))
      have HRr := Lib.hid (fun mm => height_walk K n cap (some ad) HN.out rt x.right m n ((wr.alloc (.cells #[.int .i64 x.key, .int .i64 x.val, .int .i64 x.up, .int .i64 x.left, .int .i64 x.right, .int .i64 x.size] 47)).drewN mm) s2 (by omega) (by omega) (fun m2 => by rw [World.drewN_drewN]; exact RA.out (mm + m2)))
      have hw : IntKind.i64.wrap ((lt.height : Int) - rt.height) = (lt.height : Int) - rt.height := IntWalk.i64_in _ (by omega)
      have hd1 : ¬ ((lt.height : Int) - rt.height < -1) := by omega
      have hd2 : ¬ (1 < (lt.height : Int) - rt.height) := by omega
      have BA := Lib.hid (hb.alloc hb.size (.cells #[.int .i64 x.key, .int .i64 x.val, .int .i64 x.up, .int .i64 x.left, .int .i64 x.right, .int .i64 x.size] 47))
      have hk0 : (k : Int) < (n : Int) := by omega
      clear get e0 R hb s1 s2 hc p1 p2 hx RA H
      go_wp2_with fail
      have b3 : (wr.alloc (.cells #[.int .i64 x.key, .int .i64 x.val, .int .i64 x.up, .int .i64 x.left, .int .i64 x.right, .int .i64 x.size] 47)).cell? ⟨wr.heap.size, 3, none⟩ = some (.int .i64 x.left) := (Blk.new wr 47 _).cell 3
      have b4 : (wr.alloc (.cells #[.int .i64 x.key, .int .i64 x.val, .int .i64 x.up, .int .i64 x.left, .int .i64 x.right, .int .i64 x.size] 47)).cell? ⟨wr.heap.size, 4, none⟩ = some (.int .i64 x.right) := (Blk.new wr 47 _).cell 4
      clear c0 c1 c2 c3 c4 c5
      generalize wr.alloc (.cells #[.int .i64 x.key, .int .i64 x.val, .int .i64 x.up, .int .i64 x.left, .int .i64 x.right, .int .i64 x.size] 47) = w2 at *
      go_quiet (first | (go_at_call_of 25 (Value.int .i64 x.left); exact Calls.quiet_of (HL.out _)) | (go_at_call_of 25 (Value.int .i64 x.right); exact Calls.quiet_of (HRr.out _)))
      go_wp2_with fail
      go_roundw
      case rel => exact ⟨k + 1, by omega, by go_num, Below.drewN' BA.out _⟩
      case measure => simp [intOf]; omega
    · obtain rfl : n = k := by omega
      go_wp2_with fail
      go_ret
      exact ⟨rfl, HB.out⟩
end Go.Proofs.Ytobeedekbhpbdaa
