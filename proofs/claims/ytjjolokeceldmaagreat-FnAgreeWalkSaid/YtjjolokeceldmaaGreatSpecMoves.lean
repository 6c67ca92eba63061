import Derived.Test.YtjjolokeceldmaaGreatPures
import Derived.Test.YtjjolokeceldmaaGreatKeptBase
namespace Go.Proofs.YtjjolokeceldmaaGreat
open Go.RowKit Lib
def fine1 (m : Do) : Bool := !(decide (m.op = 7 ∨ m.op = 8) && decide (m.key < 1 ∨ 1000 < m.key))
def mvOk (ms : List Do) : Bool := ms.all fine1 && decide (ms.length ≤ 300)
theorem mvOk_yes {ms : List Do} (h : mvOk ms = true) : ms.length ≤ 300 ∧ ∀ m ∈ ms, (m.op = 7 ∨ m.op = 8) → 1 ≤ m.key ∧ m.key ≤ 1000 := by
 unfold mvOk at h
 simp only [Bool.and_eq_true, List.all_eq_true, decide_eq_true_eq] at h
 refine ⟨h.2, fun m hm ho => ?_⟩
 have := h.1 m hm
 unfold fine1 at this
 simp [ho] at this
 omega
set_option maxHeartbeats 1000000 in
set_option maxRecDepth 100000 in
theorem movesOk_walk (n cap : Nat) (A : Option Addr) (ms : List Do) (w : World) (hn : ms.length = n) (hn1 : n ≤ 2147483647) (ha : ActsAt w w.heap.size A ms) :
 Calls Tryz.prog 5 #[.slice A n cap] w fun e w' => e = .returned (.bool (mvOk ms)) ∧ Below w.heap.size w w' := by
 have Ha := hid ha
 have HN := hid hn
 clear ha hn
 go_enter Tryz.func5, Tryz.ntmps5
 go_wp2_with fail
 go_loopw [7] (fun i wr => ∃ k : Nat, k ≤ n ∧ i = .int .i64 k ∧ (ms.take k).all fine1 = true ∧ Below w.heap.size w wr) (fun i _ => n - (intOf i).toNat)
 case atStart => exact ⟨0, Nat.zero_le _, rfl, rfl, Below.refl _ _⟩
 case round =>
  obtain ⟨k, hk, rfl, hall, hw⟩ := hrel
  by_cases hlt : k < n
  ·obtain ⟨a, d, rfl, hab, hd, c0, c1, c2⟩ := ActsAt.at_ (Ha.out.below hw) (i := k) (by have := HN.out; omega)
   have BW := hid (hw.alloc hw.size (.cells #[.int .i64 d.op, .int .i64 d.key, .int .i64 d.val] 35))
   have good := hid (fun (hg : fine1 d = true) => show (ms.take (k + 1)).all fine1 = true by rw [List.take_add_one, hd]; simp only [Option.toList_some, List.all_append, hall, Bool.true_and]; simpa using hg)
   have bad := hid (fun (hg : fine1 d = false) => show mvOk ms = false by
    have : ms.all fine1 = false := by
     rw [List.all_eq_false]
     exact ⟨d, List.mem_of_getElem? hd, by simp [hg]⟩
    unfold mvOk; rw [this]; rfl)
   clear hall hw hd
   by_cases h7 : d.op = 7
   ·have b7 : (d.op == 7) = true := by simpa using h7
    by_cases k1 : d.key < 1
    ·have d1 : decide (d.key < 1) = true := decide_eq_true k1
     have G := hid (bad.out (by unfold fine1; simp; omega))
     clear good bad h7 k1
     go_wp2_with fail
     go_ret
     exact ⟨by rw [G.out]; rfl, BW.out⟩
    ·have d1 : decide (d.key < 1) = false := decide_eq_false k1
     by_cases k2 : 1000 < d.key
     ·have d2 : decide (1000 < d.key) = true := decide_eq_true k2
      have G := hid (bad.out (by unfold fine1; simp; omega))
      clear good bad h7 k1 k2
      go_wp2_with fail
      go_ret
      exact ⟨by rw [G.out]; rfl, BW.out⟩
     ·have d2 : decide (1000 < d.key) = false := decide_eq_false k2
      have G := hid (good.out (by unfold fine1; simp; omega))
      clear good bad h7 k1 k2
      go_wp2_with fail
      go_roundw
      case rel => exact ⟨k + 1, by omega, by go_num, G.out, BW.out⟩
      case measure => simp [intOf]; omega
   by_cases h8 : d.op = 8
   ·have b7 : (d.op == 7) = false := by simpa using h7
    have b8 : (d.op == 8) = true := by simpa using h8
    by_cases k1 : d.key < 1
    ·have d1 : decide (d.key < 1) = true := decide_eq_true k1
     have G := hid (bad.out (by unfold fine1; simp; omega))
     clear good bad h7 h8 k1
     go_wp2_with fail
     go_ret
     exact ⟨by rw [G.out]; rfl, BW.out⟩
    ·have d1 : decide (d.key < 1) = false := decide_eq_false k1
     by_cases k2 : 1000 < d.key
     ·have d2 : decide (1000 < d.key) = true := decide_eq_true k2
      have G := hid (bad.out (by unfold fine1; simp; omega))
      clear good bad h7 h8 k1 k2
      go_wp2_with fail
      go_ret
      exact ⟨by rw [G.out]; rfl, BW.out⟩
     ·have d2 : decide (1000 < d.key) = false := decide_eq_false k2
      have G := hid (good.out (by unfold fine1; simp; omega))
      clear good bad h7 h8 k1 k2
      go_wp2_with fail
      go_roundw
      case rel => exact ⟨k + 1, by omega, by go_num, G.out, BW.out⟩
      case measure => simp [intOf]; omega
   have b7 : (d.op == 7) = false := by simpa using h7
   have b8 : (d.op == 8) = false := by simpa using h8
   have G := hid (good.out (by unfold fine1; simp; omega))
   clear good bad h7 h8
   go_wp2_with fail
   go_roundw
   case rel => exact ⟨k + 1, by omega, by go_num, G.out, BW.out⟩
   case measure => simp [intOf]; omega
  ·obtain rfl : k = n := by omega
   have hall' : ms.all fine1 = true := by rw [List.take_of_length_le (by have := HN.out; omega)] at hall; exact hall
   have G := hid (show mvOk ms = decide (k ≤ 300) by unfold mvOk; rw [hall', HN.out]; rfl)
   have HW := hid hw
   clear hall hall' hw
   by_cases h300 : k ≤ 300
   ·have d1 : decide ((k : Int) ≤ 300) = true := decide_eq_true (by omega)
    have G2 := hid (show mvOk ms = true by rw [G.out]; exact decide_eq_true h300)
    clear h300
    go_wp2_with fail
    go_ret
    exact ⟨by rw [G2.out]; rfl, HW.out⟩
   ·have d1 : decide ((k : Int) ≤ 300) = false := decide_eq_false (by omega)
    have G2 := hid (show mvOk ms = false by rw [G.out]; exact decide_eq_false h300)
    clear h300
    go_wp2_with fail
    go_ret
    exact ⟨by rw [G2.out]; rfl, HW.out⟩
end Go.Proofs.YtjjolokeceldmaaGreat
