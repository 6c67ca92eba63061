/-
  The thin package makes an red-black tree: by, NewWith, done, avl.
-/
import Derived.Test.YtmhkknobgcdkkaaBases
import Derived.Test.YtmhkknobgcdkkaaRows0
import Derived.Test.YtmhkknobgcdkkaaRbTree
namespace Go.Proofs.Ytmhkknobgcdkkaa.Rb
open Go.RowKit Go.Proofs.Ytmhkknobgcdkkaa

@[go_sem] theorem rb_method_Put (n : Nat) (a : Addr) (w : World) : (method (n + 1) 68 (.pointer (some a)) "Put").run Try.prog w = .ok (87, .pointer (some a)) w := by kernel_rfl
@[go_sem] theorem rb_method_Remove (n : Nat) (a : Addr) (w : World) : (method (n + 1) 68 (.pointer (some a)) "Remove").run Try.prog w = .ok (88, .pointer (some a)) w := by kernel_rfl
@[go_sem] theorem rb_method_Clear (n : Nat) (a : Addr) (w : World) : (method (n + 1) 68 (.pointer (some a)) "Clear").run Try.prog w = .ok (84, .pointer (some a)) w := by kernel_rfl

set_option maxRecDepth 100000 in
theorem rbDone_walk (o : Ord) (B tb n cap : Nat) (A : Option Addr) (acts : List Do) (w : World) (hn : acts.length = n) (hn1 : n ≤ 1000) (ha : ActsAt w B A acts) (l0 : KV) (hl0 : l0.length ≤ 1000) (h0 : RbHas o B w tb l0) :
    Calls Try.prog 38 #[.iface 68 (.pointer (some ⟨tb, 0, none⟩)), .slice A n cap] w fun e w' =>
      e = .returned (.tuple #[]) ∧ RbHas o B w' tb (acts.foldl (step o) l0) ∧ Below B w w' := by
  go_enter Try.func38, Try.ntmps38
  go_wp2_with fail
  go_loopw [8] (fun i wr => ∃ k : Nat, k ≤ n ∧ i = .int .i64 k ∧ RbHas o B wr tb ((acts.take k).foldl (step o) l0) ∧ Below B w wr) (fun i _ => n - (intOf i).toNat)
  case atStart => exact ⟨0, Nat.zero_le _, rfl, h0, Below.refl _ _⟩
  case round =>
    obtain ⟨k, hk, rfl, hh, hb⟩ := hrel
    by_cases hlt : k < n
    · obtain ⟨a, d, rfl, hab, hd, c0, c1, c2⟩ := ActsAt.at_ (ha.below hb) (i := k) (by omega)
      have hsz := hh.size
      have hlen := foldl_take_length o l0 h0.asc acts k
      have fin := fun (w2 : World) (h2 : RbHas o B w2 tb (step o ((acts.take k).foldl (step o) l0) d)) (b2 : Below B (wr.alloc (.cells #[.int .i64 d.op, .int .i64 d.key, .int .i64 d.val] 59)) w2) =>
        show RbHas o B w2 tb ((acts.take (k + 1)).foldl (step o) l0) ∧ Below B w w2 from
          ⟨by rw [foldl_take_succ o l0 acts k d hd]; exact h2, (hb.alloc hsz _).trans b2⟩
      generalize hL : (acts.take k).foldl (step o) l0 = L at *
      have Hh := Lib.hid (hh.alloc (.cells #[.int .i64 d.op, .int .i64 d.key, .int .i64 d.val] 59))
      have Hb := Lib.hid hb
      have Ha := Lib.hid ha
      have H0 := Lib.hid h0
      have HL := Lib.hid hL
      have Fin := Lib.hid fin
      have Hlen := Lib.hid hlen
      clear hh hb ha h0 hd hL fin hsz hlen
      by_cases h1 : d.op = 1
      · have e1 := Lib.hid (show step o L d = ins o d.key d.val L by unfold step; rw [if_pos h1])
        rw [h1] at c0 Hh Fin
        clear h1
        go_wp2_with fail
        refine (rbPut_has Hh.out _ _ (by have := Hlen.out; omega)).mono ?_
        rintro e w2 ⟨rfl, h2, b2⟩
        rw [← e1.out] at h2
        have F := Lib.hid (Fin.out _ h2 b2)
        clear h2 b2
        go_wp2_with fail
        go_roundw
        case rel => exact ⟨k + 1, by omega, by go_num, F.out.1, F.out.2⟩
        case measure => simp [intOf]; omega
      · by_cases h2 : d.op = 2
        · have e1 := Lib.hid (show step o L d = del o d.key L by unfold step; rw [if_neg h1, if_pos h2])
          rw [h2] at c0 Hh Fin
          clear h1 h2
          go_wp2_with fail
          refine (rbRemove_has Hh.out _ (by have := Hlen.out; omega)).mono ?_
          rintro e w2 ⟨rfl, h2, b2⟩
          rw [← e1.out] at h2
          have F := Lib.hid (Fin.out _ h2 b2)
          clear h2 b2
          go_wp2_with fail
          go_roundw
          case rel => exact ⟨k + 1, by omega, by go_num, F.out.1, F.out.2⟩
          case measure => simp [intOf]; omega
        · by_cases h3 : d.op = 3
          · have e1 := Lib.hid (show step o L d = [] by unfold step; rw [if_neg h1, if_neg h2, if_pos h3])
            rw [h3] at c0 Hh Fin
            clear h1 h2 h3
            go_wp2_with fail
            refine (rbClear_has Hh.out).mono ?_
            rintro e w2 ⟨rfl, h2, b2⟩
            rw [← e1.out] at h2
            have F := Lib.hid (Fin.out _ h2 b2)
            clear h2 b2
            go_wp2_with fail
            go_roundw
            case rel => exact ⟨k + 1, by omega, by go_num, F.out.1, F.out.2⟩
            case measure => simp [intOf]; omega
          · have e1 : step o L d = L := by unfold step; rw [if_neg h1, if_neg h2, if_neg h3]
            have h2' := Hh.out
            rw [← e1] at h2'
            have F := Lib.hid (Fin.out _ h2' (Below.refl _ _))
            have g1 : (d.op == 1) = false := by simpa using h1
            have g2 : (d.op == 2) = false := by simpa using h2
            have g3 : (d.op == 3) = false := by simpa using h3
            clear e1 h2' h1 h2 h3
            go_wp2_with fail
            go_roundw
            case rel => exact ⟨k + 1, by omega, by go_num, F.out.1, F.out.2⟩
            case measure => simp [intOf]; omega
    · have hkn : k = n := by omega
      have F : RbHas o B wr tb (acts.foldl (step o) l0) := by rw [← List.take_of_length_le (l := acts) (i := k) (by omega)]; exact hh
      have HF := Lib.hid F
      have Hb := Lib.hid hb
      clear hh hb ha h0 F hkn
      go_wp2_with fail
      go_end0
      exact ⟨rfl, HF.out, Hb.out⟩

theorem rbNew_walk (ob : Nat) (w : World) : Calls Try.prog 41 #[cmpv ob] w fun e w' =>
    e = .returned (.pointer (some ⟨w.heap.size, 0, none⟩)) ∧ w.alloc (.cells (rbL.head ⟨w.heap.size, cmpv ob, 0⟩ none) 67) = w' := by
  go_enter Try.func41, Try.ntmps41
  go_wp2_with fail
  go_ret
  exact ⟨rfl, rfl⟩

/-- The package makes a tree and does the acts: it holds what the reference holds. -/
theorem rb_walk (o : Ord) (ho : o.fine) (n cap : Nat) (A : Option Addr) (acts : List Do) (w : World) (hn : acts.length = n) (hn1 : n ≤ 1000) (ha : ActsAt w w.heap.size A acts) :
    Calls Try.prog 31 #[.agg #[.int .i64 o.kind, .int .i64 o.m], .slice A n cap] w fun e w' =>
      ∃ tb, e = .returned (.pointer (some ⟨tb, 0, none⟩)) ∧ RbHas o w.heap.size w' tb (run o acts) ∧ Below w.heap.size w w' := by
  have Ha := Lib.hid ha
  clear ha
  go_enter Try.func31, Try.ntmps31
  go_wp2_with fail
  refine (by_walk o _).mono ?_
  rintro e w1 ⟨rfl, rfl⟩
  go_wp2_with fail
  refine (rbNew_walk _ _).mono ?_
  rintro e w1 ⟨rfl, rfl⟩
  have h0 : RbHas o w.heap.size (((w.alloc (.cells #[.int .i64 o.kind, .int .i64 o.m] 23)).alloc (.cells #[.int .i64 o.kind, .int .i64 o.m] 23)).alloc (.cells (rbL.head ⟨w.heap.size + 1 + 1, cmpv (w.heap.size + 1), 0⟩ none) 67)) (w.heap.size + 1 + 1) [] := by
    refine ⟨w.heap.size + 1, .nil, ⟨⟨?_, trivial, by simp [allIds, Ctx.ids, BT.ids]⟩, ⟨0, rfl, rfl⟩, Asc.nil o, ho, ?_, by simp [BT.ids], by omega, by simp [BT.ids]; omega⟩, rfl⟩
    · exact Blk.new' (by simp) _ _
    · exact Blk.alloc (Blk.new' (by simp) _ _) _
  have b0 : Below w.heap.size w (((w.alloc (.cells #[.int .i64 o.kind, .int .i64 o.m] 23)).alloc (.cells #[.int .i64 o.kind, .int .i64 o.m] 23)).alloc (.cells (rbL.head ⟨w.heap.size + 1 + 1, cmpv (w.heap.size + 1), 0⟩ none) 67)) :=
    (((Below.refl _ _).alloc (Nat.le_refl _) _).alloc (by simp) _).alloc (by simp; omega) _
  have H0 := Lib.hid h0
  have B0 := Lib.hid b0
  clear h0 b0
  go_wp2_with fail
  refine (rbDone_walk o w.heap.size _ n cap A acts _ hn hn1 (Ha.out.below B0.out) [] (by simp) H0.out).mono ?_
  rintro e w2 ⟨rfl, h2, b2⟩
  have H2 := Lib.hid h2
  have B2 := Lib.hid (B0.out.trans b2)
  clear h2 b2
  go_wp2_with fail
  go_ret
  exact ⟨_, rfl, H2.out, B2.out⟩

end Go.Proofs.Ytmhkknobgcdkkaa.Rb
