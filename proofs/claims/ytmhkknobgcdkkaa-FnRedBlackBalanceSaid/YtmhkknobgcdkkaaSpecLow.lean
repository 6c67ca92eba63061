/-
  The reference's Low, of a height that is at most twice a logarithm.
-/
import Derived.Test.YtmhkknobgcdkkaaRows0
import Derived.IntWalk
namespace Go.Proofs.Ytmhkknobgcdkkaa
open Go.RowKit

theorem low_step {H : Int} {N b : Nat} (h1 : H ≤ 2 * (b : Int)) (h2 : 2 ^ b ≤ N) (h0 : 0 < H) : ∃ b' : Nat, H - 2 ≤ 2 * (b' : Int) ∧ 2 ^ b' ≤ (N + 1) / 2 := by
  cases b with
  | zero => omega
  | succ b => exact ⟨b, by omega, by rw [Nat.pow_succ] at h2; omega⟩
theorem low_one {H : Int} {N b : Nat} (h1 : H ≤ 2 * (b : Int)) (h2 : 2 ^ b ≤ N) (h0 : N ≤ 1) : H ≤ 0 := by
  cases b with
  | zero => omega
  | succ b => have := Nat.one_le_two_pow (n := b); rw [Nat.pow_succ] at h2; omega

set_option maxHeartbeats 1000000 in
set_option maxRecDepth 100000 in
theorem low_walk (h many b : Nat) (w : World) (hh : h ≤ 100000) (hm : many ≤ 100000) (h1 : h ≤ 2 * b) (h2 : 2 ^ b ≤ many + 1) :
    Calls Try.prog 20 #[.int .i64 h, .int .i64 many] w fun e w' => e = .returned (.bool true) ∧ w = w' := by
  have H1 := Lib.hid h1
  have H2 := Lib.hid h2
  clear h1 h2
  go_enter Try.func20, Try.ntmps20
  go_wp2_with fail
  go_loop [0, 5] (fun x n => ∃ (H : Int) (N b : Nat), x = .int .i64 H ∧ n = .int .i64 (N : Int) ∧ -2 ≤ H ∧ H ≤ 100000 ∧ N ≤ 100001 ∧ Hid (H ≤ 2 * (b : Int)) ∧ Hid (2 ^ b ≤ N)) (fun x _ => (intOf x + 2).toNat)
  case atStart => exact ⟨(h : Int), many + 1, b, rfl, by go_num, by omega, by omega, by omega, Lib.hid (by have := H1.out; omega), H2⟩
  case round =>
    obtain ⟨H, N, b, rfl, rfl, hl, hu, hN, hb1, hb2⟩ := hrel
    by_cases hn : 1 < N
    · by_cases hp : 0 < H
      · obtain ⟨b', hb3, hb4⟩ := low_step hb1.out hb2.out hp
        have HB3 := Lib.hid hb3
        have HB4 := Lib.hid hb4
        clear hb3 hb4 hb1 hb2
        go_wp2_with fail
        go_round
        case rel => exact ⟨H - 2, (N + 1) / 2, b', rfl, by go_num, by omega, by omega, by omega, HB3, HB4⟩
        case measure => simp [intOf]; omega
      · go_wp2_with fail
        go_ret
        exact ⟨rfl, rfl⟩
    · have hp : H ≤ 0 := low_one hb1.out hb2.out (by omega)
      clear hb1 hb2
      go_wp2_with fail
      go_ret
      exact ⟨rfl, rfl⟩
end Go.Proofs.Ytmhkknobgcdkkaa
