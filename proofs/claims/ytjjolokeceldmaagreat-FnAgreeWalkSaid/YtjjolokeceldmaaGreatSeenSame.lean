import Derived.Test.YtjjolokeceldmaaGreatSeen
namespace Go.Proofs.YtjjolokeceldmaaGreat
open Go.RowKit Lib
set_option maxRecDepth 100000 in
theorem sameSeen_yes (xs : List (Option (Int × Int))) (w : World) (n c1 c2 : Nat) (A1 A2 : Option Addr) (B1 B2 : Nat) (hn : xs.length = n) (hn1 : n ≤ 100000) (h1 : RowAt w B1 A1 (seenCells xs)) (h2 : RowAt w B2 A2 (seenCells xs)) :
 Calls Tryz.prog 7 #[.slice A1 n c1, .slice A2 n c2] w fun e w' => e = .returned (.bool true) ∧ ∃ m, w' = w.drewN m := by
 have H1 := hid h1
 have H2 := hid h2
 have hneq := seen_neq
 clear h1 h2
 go_enter Tryz.func7, Tryz.ntmps7
 go_wp2_with fail
 go_loopw [13] (fun i wr => ∃ (k : Nat), k ≤ n ∧ i = .int .i64 k ∧ ∃ m, wr = w.drewN m) (fun i _ => n - (intOf i).toNat)
 case atStart => exact ⟨0, Nat.zero_le _, rfl, 0, rfl⟩
 case round =>
  obtain ⟨k, hk, rfl, hm⟩ := hrel
  have HM := hid hm
  by_cases hlt : k < n
  ·obtain ⟨b, x, y, g0, g1, g2⟩ := seenCells_get (l := xs) (i := k) (by omega)
   obtain ⟨a1, rfl, p0, p1, p2⟩ := H1.out.seen g0 g1 g2
   obtain ⟨a2, rfl, q0, q1, q2⟩ := H2.out.seen g0 g1 g2
   have r0 : wr.cell? (a1.add (k * 3)) = some (.bool b) := by obtain ⟨m, rfl⟩ := hm; exact p0
   have r1 : wr.cell? ⟨(a1.add (k * 3)).block, (a1.add (k * 3)).off + 1, none⟩ = some (.int .i64 x) := by obtain ⟨m, rfl⟩ := hm; exact p1
   have r2 : wr.cell? ⟨(a1.add (k * 3)).block, (a1.add (k * 3)).off + 2, none⟩ = some (.int .i64 y) := by obtain ⟨m, rfl⟩ := hm; exact p2
   have s0 : wr.cell? (a2.add (k * 3)) = some (.bool b) := by obtain ⟨m, rfl⟩ := hm; exact q0
   have s1 : wr.cell? ⟨(a2.add (k * 3)).block, (a2.add (k * 3)).off + 1, none⟩ = some (.int .i64 x) := by obtain ⟨m, rfl⟩ := hm; exact q1
   have s2 : wr.cell? ⟨(a2.add (k * 3)).block, (a2.add (k * 3)).off + 2, none⟩ = some (.int .i64 y) := by obtain ⟨m, rfl⟩ := hm; exact q2
   have hk0 : (0 : Int) ≤ (k : Int) := by omega
   have hkn : (k : Int) < (n : Int) := by omega
   clear p0 p1 p2 q0 q1 q2 g0 g1 g2 hm
   go_wp2_with fail
   go_quiet (fail)
   go_wp2_with fail
   go_roundw
   case rel =>
    obtain ⟨m, hm⟩ := HM.out
    exact ⟨k + 1, by omega, by go_num, m + nq, by rw [hm, World.drewN_drewN]⟩
   case measure => simp [intOf]; omega
  ·clear hm
   go_wp2_with fail
   go_ret
   exact ⟨rfl, HM.out⟩
end Go.Proofs.YtjjolokeceldmaaGreat
