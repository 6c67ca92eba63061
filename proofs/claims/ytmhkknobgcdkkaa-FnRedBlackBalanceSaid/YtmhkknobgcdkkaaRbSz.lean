/-
  The red-black tree's Node.Size. (Printed by gen_size.py.)
-/
import Derived.Test.YtmhkknobgcdkkaaRbPut
import Derived.IntWalk
namespace Go.Proofs.Ytmhkknobgcdkkaa.Rb
open Go.RowKit Go.Proofs.Ytmhkknobgcdkkaa

theorem rbPtr_sz (l : BT) : (∃ j, ptr l.root = .pointer (some ⟨j, 0, none⟩) ∧ l ≠ .nil) ∨ (ptr l.root = .pointer none ∧ l = .nil) := by
  cases l with
  | nil => exact .inr ⟨rfl, rfl⟩
  | node i l k v b r => exact .inl ⟨i, rfl, fun h => by cases h⟩

theorem rbNodeSize_walk (t : BT) : ∀ (p : Option Nat) (w : World), IsT rbL w t p → t.count ≤ 100000 →
    Calls Try.prog 40 #[ptr t.root] w fun e w' => e = .returned (.int .i64 t.count) ∧ w = w' := by
  induction t with
  | nil =>
    intro p w _ _
    simp only [BT.root, ptr, Option.map_none, BT.count]
    go_enter Try.func40, Try.ntmps40
    go_wp2_with fail
    go_ret
    exact ⟨rfl, rfl⟩
  | node i l k v b r ihl ihr =>
    intro p w h hc
    obtain ⟨_, _, hl3, hr4⟩ := h.1.cells_
    have HL0 := Lib.hid (fun w1 (h1 : IsT rbL w1 l (some i)) => ihl (some i) w1 h1 (by simp only [BT.count] at hc; omega))
    have HR0 := Lib.hid (fun w1 (h1 : IsT rbL w1 r (some i)) => ihr (some i) w1 h1 (by simp only [BT.count] at hc; omega))
    have HT := Lib.hid h
    have hcl : l.count ≤ 100000 := by simp only [BT.count] at hc; omega
    have hcr : r.count ≤ 100000 := by simp only [BT.count] at hc; omega
    have hcc : l.count + r.count ≤ 100000 := by simp only [BT.count] at hc; omega
    clear ihl ihr h hc
    rcases rbPtr_sz l with ⟨j, ej, nj⟩ | ⟨ej, rfl⟩ <;> rcases rbPtr_sz r with ⟨j2, ej2, nj2⟩ | ⟨ej2, rfl⟩
    · rw [ej] at hl3
      rw [ej2] at hr4
      have HL := Lib.hid (show Calls Try.prog 40 #[.pointer (some ⟨j, 0, none⟩)] w _ from ej ▸ HL0.out w HT.out.2.1)
      have HR := Lib.hid (show Calls Try.prog 40 #[.pointer (some ⟨j2, 0, none⟩)] w _ from ej2 ▸ HR0.out w HT.out.2.2)
      clear HL0 HR0 HT ej ej2 nj nj2
      simp only [BT.root, ptr, Option.map_some]
      go_enter Try.func40, Try.ntmps40
      go_wp2_with fail
      refine HL.out.mono ?_
      rintro e w' ⟨rfl, rfl⟩
      clear HL
      go_wp2_with fail
      refine HR.out.mono ?_
      rintro e w' ⟨rfl, rfl⟩
      clear HR
      go_wp2_with fail
      go_ret
      exact ⟨by congr 2; simp only [BT.count]; go_num, rfl⟩
    · rw [ej] at hl3
      rw [ej2] at hr4
      have HL := Lib.hid (show Calls Try.prog 40 #[.pointer (some ⟨j, 0, none⟩)] w _ from ej ▸ HL0.out w HT.out.2.1)
      clear HL0 HR0 HT ej ej2 nj
      clear hcr
      simp only [BT.root, ptr, Option.map_some]
      go_enter Try.func40, Try.ntmps40
      go_wp2_with fail
      refine HL.out.mono ?_
      rintro e w' ⟨rfl, rfl⟩
      clear HL
      go_wp2_with fail
      go_ret
      exact ⟨by congr 2; simp only [BT.count]; go_num, rfl⟩
    · rw [ej] at hl3
      rw [ej2] at hr4
      have HR := Lib.hid (show Calls Try.prog 40 #[.pointer (some ⟨j2, 0, none⟩)] w _ from ej2 ▸ HR0.out w HT.out.2.2)
      clear HL0 HR0 HT ej ej2 nj2
      clear hcl
      simp only [BT.root, ptr, Option.map_some]
      go_enter Try.func40, Try.ntmps40
      go_wp2_with fail
      refine HR.out.mono ?_
      rintro e w' ⟨rfl, rfl⟩
      clear HR
      go_wp2_with fail
      go_ret
      exact ⟨by congr 2; simp only [BT.count]; go_num, rfl⟩
    · rw [ej] at hl3
      rw [ej2] at hr4
      clear HL0 HR0 HT ej ej2
      clear hcl
      clear hcr
      simp only [BT.root, ptr, Option.map_some]
      go_enter Try.func40, Try.ntmps40
      go_wp2_with fail
      go_ret
      exact ⟨rfl, rfl⟩
end Go.Proofs.Ytmhkknobgcdkkaa.Rb
