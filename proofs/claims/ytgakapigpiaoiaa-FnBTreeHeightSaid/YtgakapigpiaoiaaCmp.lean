import Derived.Test.YtgakapigpiaoiaaRows
import Derived.Test.YtgakapigpiaoiaaMem
import Derived.WalkKit
import Derived.WalkSpells
import Derived.WalkLawsBesides
import Derived.Deep.QuietTactic
import Derived.BigQuiet
import Derived.Lib.Hide
namespace Go.Proofs.Ytgakapigpiaoiaa
open Go.RowKit
theorem compared_any (a b : Int) (w : World) : Calls Try.prog 28 #[.int .i64 a, .int .i64 b] w fun e w' => e = .returned (.int .i64 (sg a b)) ∧ w = w' := by
  rcases sg_cases a b with ⟨h, e⟩ | ⟨h, e⟩ | ⟨h, e⟩
  · rw [e]; clear e
    go_enter Try.func28, Try.ntmps28
    go_wp2
    go_ret
    exact ⟨rfl, rfl⟩
  · rw [e]; clear e
    subst h
    go_enter Try.func28, Try.ntmps28
    go_wp2
    go_ret
    exact ⟨rfl, rfl⟩
  · rw [e]; clear e
    have h' : ¬ a < b := by omega
    go_enter Try.func28, Try.ntmps28
    go_wp2
    go_ret
    exact ⟨rfl, rfl⟩
theorem tmod_bd (n m : Int) (h1 : 1 ≤ m) : -m < n.tmod m ∧ n.tmod m < m := by
  have h := Int.tmod_eq_emod (a := n) (b := m)
  have h2 := Int.emod_nonneg n (b := m) (by omega)
  have h3 := Int.emod_lt_of_pos n (b := m) (by omega)
  rw [h]; split <;> omega
theorem rest_eq (n m : Int) : (n.tmod m + m) % m = n % m := by
  rw [Int.add_emod_right]
  have h := Int.tmod_eq_emod (a := n) (b := m)
  rw [h]
  split
  · simp
  · rcases Int.le_total 0 m with hm | hm
    · rw [show n % m - (m.natAbs : Int) = n % m - m from by omega, Int.sub_emod_right, Int.emod_emod]
    · rw [show n % m - (m.natAbs : Int) = n % m + m from by omega, Int.add_emod_right, Int.emod_emod]
theorem rest_any (n m : Int) (w : World) (h1 : 1 ≤ m) (h2 : m ≤ 1000) : Calls Try.prog 29 #[.int .i64 n, .int .i64 m] w fun e w' => e = .returned (.int .i64 (n % m)) ∧ w = w' := by
  have hb := tmod_bd n m h1
  have hr := Lib.hid (rest_eq n m)
  go_enter Try.func29, Try.ntmps29
  go_wp2
  go_ret
  exact ⟨by rw [← hr.out]; rfl, rfl⟩
theorem run_assert_same {P : Program} {t x : TypeId} {k : IntKind} (h : P.underlying t = some (.int k)) (v : Value) (w : World) :
    (Instr.typeAssert (.iface t v) x t false).run P w = .ok v w := by
  simp [Instr.typeAssert, run_underlying h]
@[go_sem] theorem assert_int (v : Value) (w : World) : (Instr.typeAssert (.iface 3 v) 20 3 false).run Try.prog w = .ok v w := run_assert_same Try.underlying3 v w
def OrdAt (w : World) (ob : Nat) (o : Ord) : Prop := Blk w ob 23 #[.int .i64 o.kind, .int .i64 o.m]
abbrev cmpv (ob : Nat) : Value := .func (.func 27) #[] #[.pointer (some ⟨ob, 0, none⟩)]
theorem quiet_left {P : Program} {f : FuncId} {args : Array Value} {w : World} {n : Nat} {v : Value}
    (h : Calls P f args (w.drewN n) fun e w' => e = .returned v ∧ w.drewN n = w') : Calls P f args (w.drewN n) fun e w'' => e = .returned v ∧ ∃ m, w'' = w.drewN m :=
  h.mono fun _ _ ⟨he, hm⟩ => ⟨he, n, hm.symm⟩
theorem by1_any (o : Ord) (ob : Nat) (a b : Int) (w : World) (ho : o.fine) (hb : OrdAt w ob o) :
    Calls Try.prog 27 #[.iface 3 (.int .i64 a), .iface 3 (.int .i64 b), .pointer (some ⟨ob, 0, none⟩)] w fun e w' => e = .returned (.int .i64 (o.cmp a b)) ∧ ∃ n, w' = w.drewN n := by
  have h0 : w.cell? ⟨ob, 0, none⟩ = some (.int .i64 o.kind) := Blk.cell hb 0
  have h1 : w.cell? ⟨ob, 1, none⟩ = some (.int .i64 o.m) := Blk.cell hb 1
  clear hb
  rcases ho with hk | hk | ⟨hk, hm1, hm2⟩
  · have hc := Lib.hid (show o.cmp a b = sg a b by simp [Ord.cmp, Ord.rk, hk])
    rw [hk] at h0
    clear hk
    go_enter Try.func27, Try.ntmps27
    go_wp2_with fail
    go_quiet (fail)
    go_wp2_with fail
    refine (compared_any _ _ _).mono ?_
    rintro e w' ⟨rfl, rfl⟩
    go_wp2_with fail
    go_ret
    exact ⟨by rw [hc.out]; rfl, _, rfl⟩
  · have hc := Lib.hid (show o.cmp a b = sg b a by
      have e1 : o.rk a = -a := by simp [Ord.rk, hk]
      have e2 : o.rk b = -b := by simp [Ord.rk, hk]
      rw [Ord.cmp, e1, e2]
      rcases sg_cases (-a) (-b) with ⟨h, e⟩ | ⟨h, e⟩ | ⟨h, e⟩ <;> rcases sg_cases b a with ⟨h', e'⟩ | ⟨h', e'⟩ | ⟨h', e'⟩ <;> omega)
    rw [hk] at h0
    clear hk
    go_enter Try.func27, Try.ntmps27
    go_wp2_with fail
    go_quiet (fail)
    go_wp2_with fail
    refine (compared_any _ _ _).mono ?_
    rintro e w' ⟨rfl, rfl⟩
    go_wp2_with fail
    go_ret
    exact ⟨by rw [hc.out]; rfl, _, rfl⟩
  · have hc := Lib.hid (show o.cmp a b = sg (a % o.m) (b % o.m) by simp [Ord.cmp, Ord.rk, hk])
    rw [hk] at h0
    clear hk
    go_enter Try.func27, Try.ntmps27
    go_wp2_with fail
    go_quiet (fail)
    go_wp2_with fail
    obtain ⟨w1, hw1⟩ : ∃ w1, w1 = w.drewN nq := ⟨_, rfl⟩
    have h1' : w1.cell? ⟨ob, 1, none⟩ = some (.int .i64 o.m) := by rw [hw1]; exact h1
    have Hw1 := Lib.hid hw1
    rw [← hw1]
    clear hw1 h0 h1
    go_quiet (first
      | (go_at_call 29; exact quiet_left (rest_any _ _ _ hm1 hm2))
      | (go_at_call 28; exact quiet_left (compared_any _ _ _)))
    go_wp2_with fail
    go_ret
    exact ⟨by rw [hc.out]; rfl, _, by rw [Hw1.out, World.drewN_drewN]⟩
theorem by1_lt (o : Ord) (ob : Nat) (a b : Int) (w : World) (ho : o.fine) (hb : OrdAt w ob o) (h : o.rk a < o.rk b) :
    Calls Try.prog 27 #[.iface 3 (.int .i64 a), .iface 3 (.int .i64 b), .pointer (some ⟨ob, 0, none⟩)] w fun e w' => e = .returned (.int .i64 (-1)) ∧ ∃ n, w' = w.drewN n := by
  have := by1_any o ob a b w ho hb
  rwa [show o.cmp a b = -1 by unfold Ord.cmp sg; rw [if_pos h]] at this
theorem by1_eq (o : Ord) (ob : Nat) (a b : Int) (w : World) (ho : o.fine) (hb : OrdAt w ob o) (h : o.rk a = o.rk b) :
    Calls Try.prog 27 #[.iface 3 (.int .i64 a), .iface 3 (.int .i64 b), .pointer (some ⟨ob, 0, none⟩)] w fun e w' => e = .returned (.int .i64 0) ∧ ∃ n, w' = w.drewN n := by
  have := by1_any o ob a b w ho hb
  rwa [show o.cmp a b = 0 by unfold Ord.cmp sg; rw [if_neg (by omega), if_neg (by omega)]] at this
theorem by1_gt (o : Ord) (ob : Nat) (a b : Int) (w : World) (ho : o.fine) (hb : OrdAt w ob o) (h : o.rk b < o.rk a) :
    Calls Try.prog 27 #[.iface 3 (.int .i64 a), .iface 3 (.int .i64 b), .pointer (some ⟨ob, 0, none⟩)] w fun e w' => e = .returned (.int .i64 1) ∧ ∃ n, w' = w.drewN n := by
  have := by1_any o ob a b w ho hb
  rwa [show o.cmp a b = 1 by unfold Ord.cmp sg; rw [if_neg (by omega), if_pos h]] at this
theorem OrdAt.only {w w' : World} {ob : Nat} {o : Ord} {S : List Nat} (h : OrdAt w ob o) (ho : Only S w w') (hn : ob ∉ S) : OrdAt w' ob o := Blk.only h ho hn
theorem OrdAt.lt {w : World} {ob : Nat} {o : Ord} (h : OrdAt w ob o) : ob < w.heap.size := Blk.lt h
theorem OrdAt.drewN {w : World} {ob : Nat} {o : Ord} (h : OrdAt w ob o) (n : Nat) : OrdAt (w.drewN n) ob o := h
end Go.Proofs.Ytgakapigpiaoiaa
