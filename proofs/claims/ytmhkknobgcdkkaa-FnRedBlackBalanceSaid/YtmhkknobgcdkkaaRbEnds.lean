/-
  The red-black tree: its first and last node. (Printed by gen_rbends.py: both sides alike.)
-/
import Derived.Test.YtmhkknobgcdkkaaPures
import Derived.Test.YtmhkknobgcdkkaaRbTree
import Derived.Deep.LoopGhost
namespace Go.Proofs.Ytmhkknobgcdkkaa.Rb
open Go.RowKit Go.Proofs.Ytmhkknobgcdkkaa

def loP (p : Option Nat) : BT → Option Nat
  | .nil => p
  | .node i l k v b r => (BT.node i l k v b r).lo
def hiP (p : Option Nat) : BT → Option Nat
  | .nil => p
  | .node i l k v b r => (BT.node i l k v b r).hi
theorem loP_none (t : BT) : loP none t = t.lo := by cases t <;> rfl
theorem hiP_none (t : BT) : hiP none t = t.hi := by cases t <;> rfl
theorem loP_step {p : Option Nat} {i : Nat} {l r : BT} {k v b : Int} : loP p (.node i l k v b r) = loP (some i) l := by
  cases l with
  | nil => rfl
  | node i' l' k' v' b' r' => simp only [loP]; rw [BT.lo_node (by intro h; cases h)]
theorem hiP_step {p : Option Nat} {i : Nat} {l r : BT} {k v b : Int} : hiP p (.node i l k v b r) = hiP (some i) r := by
  cases r with
  | nil => simp only [hiP]; exact BT.hi_nil
  | node i' l' k' v' b' r' => simp only [hiP]; rw [BT.hi_node (by intro h; cases h)]

theorem rbLeft_walk (w : World) (H : Hd) (t : BT) (s : St rbL w H [] t) :
    Calls Try.prog 101 #[.pointer (some ⟨H.tb, 0, none⟩)] w fun e w' => e = .returned (ptr t.lo) ∧ w' = w := by
  obtain ⟨hsl, _⟩ := s.hc.slot_cell
  simp only [slot, ptr] at hsl
  have hS := Lib.hid s
  clear s
  go_enter Try.func101, Try.ntmps101
  go_wp2_with fail
  go_loopg [3, 4] (t.count + 1) (fun g par cur wr => wr = w ∧ ∃ (c : Ctx) (s : BT) (p : Option Nat), cur = ptr s.root ∧ par = ptr p ∧ St rbL w H c s ∧ loP none t = loP p s ∧ s.count < g)
  case atStart => exact ⟨rfl, [], t, none, rfl, rfl, hS.out, rfl, by omega⟩
  case round =>
    clear hsl hS
    obtain ⟨hw, c, s, p, hcur, hpar, hst, he, hg⟩ := hrel
    subst hw
    have HE := Lib.hid he
    have HS := Lib.hid hst
    clear he
    cases s with
    | nil =>
      simp only [BT.root, ptr, Option.map_none] at hcur hpar
      subst hcur
      clear hst
      have HP := Lib.hid hpar
      clear hpar
      go_wp2_with fail
      go_ret
      exact ⟨by rw [HP.out, ← loP_none, HE.out]; rfl, rfl⟩
    | node i l k v b r =>
      obtain ⟨_, _, hl3, hr4⟩ := hst.ht.1.cells_
      simp only [root_node, ptr, Option.map_some] at hcur hl3 hr4
      subst hcur
      have HN := Lib.hid hst.downL
      clear hst hpar
      go_wp2_with fail
      go_roundg (l.count + 1)
      case measure => simp only [BT.count] at hg; omega
      case rel => exact ⟨rfl, _, l, some i, rfl, rfl, HN.out, by rw [HE.out, loP_step], by omega⟩

theorem rbRight_walk (w : World) (H : Hd) (t : BT) (s : St rbL w H [] t) :
    Calls Try.prog 123 #[.pointer (some ⟨H.tb, 0, none⟩)] w fun e w' => e = .returned (ptr t.hi) ∧ w' = w := by
  obtain ⟨hsl, _⟩ := s.hc.slot_cell
  simp only [slot, ptr] at hsl
  have hS := Lib.hid s
  clear s
  go_enter Try.func123, Try.ntmps123
  go_wp2_with fail
  go_loopg [3, 4] (t.count + 1) (fun g par cur wr => wr = w ∧ ∃ (c : Ctx) (s : BT) (p : Option Nat), cur = ptr s.root ∧ par = ptr p ∧ St rbL w H c s ∧ hiP none t = hiP p s ∧ s.count < g)
  case atStart => exact ⟨rfl, [], t, none, rfl, rfl, hS.out, rfl, by omega⟩
  case round =>
    clear hsl hS
    obtain ⟨hw, c, s, p, hcur, hpar, hst, he, hg⟩ := hrel
    subst hw
    have HE := Lib.hid he
    have HS := Lib.hid hst
    clear he
    cases s with
    | nil =>
      simp only [BT.root, ptr, Option.map_none] at hcur hpar
      subst hcur
      clear hst
      have HP := Lib.hid hpar
      clear hpar
      go_wp2_with fail
      go_ret
      exact ⟨by rw [HP.out, ← hiP_none, HE.out]; rfl, rfl⟩
    | node i l k v b r =>
      obtain ⟨_, _, hl3, hr4⟩ := hst.ht.1.cells_
      simp only [root_node, ptr, Option.map_some] at hcur hl3 hr4
      subst hcur
      have HN := Lib.hid hst.downR
      clear hst hpar
      go_wp2_with fail
      go_roundg (r.count + 1)
      case measure => simp only [BT.count] at hg; omega
      case rel => exact ⟨rfl, _, r, some i, rfl, rfl, HN.out, by rw [HE.out, hiP_step], by omega⟩

end Go.Proofs.Ytmhkknobgcdkkaa.Rb
