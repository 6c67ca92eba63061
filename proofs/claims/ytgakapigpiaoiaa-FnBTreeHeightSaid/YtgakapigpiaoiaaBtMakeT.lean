import Derived.Test.YtgakapigpiaoiaaBtTops
import Derived.Test.YtgakapigpiaoiaaBtRunT
namespace Go.Proofs.Ytgakapigpiaoiaa.Bt
open Go.RowKit Go.Proofs.Ytgakapigpiaoiaa
theorem foldlS_take_succ (m : Int) (o : Ord) (T0 : Option Tr) (acts : List Do) (k : Nat) (a : Do) (h : acts[k]? = some a) : (acts.take (k + 1)).foldl (stepS m o) T0 = stepS m o ((acts.take k).foldl (stepS m o) T0) a := by
  rw [List.take_add_one, h, List.foldl_append]
  rfl
set_option maxRecDepth 100000 in
theorem btDoneT_walk (m : Int) (o : Ord) (B tb n cap : Nat) (A : Option Addr) (acts : List Do) (w : World) (hn : acts.length = n) (hn1 : n ≤ 1000) (ha : ActsAt w B A acts) (l0 : KV) (hl0 : l0.length ≤ 1000) (T0 : Option Tr) (h0 : BtHasT m o B w tb l0 T0) :
    Calls Try.prog 24 #[.iface 50 (.pointer (some ⟨tb, 0, none⟩)), .slice A n cap] w fun e w' =>
      e = .returned (.tuple #[]) ∧ BtHasT m o B w' tb (acts.foldl (step o) l0) (acts.foldl (stepS m o) T0) ∧ Below B w w' := by
  go_enter Try.func24, Try.ntmps24
  go_wp2_with fail
  go_loopw [8] (fun i wr => ∃ k : Nat, k ≤ n ∧ i = .int .i64 k ∧ BtHasT m o B wr tb ((acts.take k).foldl (step o) l0) ((acts.take k).foldl (stepS m o) T0) ∧ Below B w wr) (fun i _ => n - (intOf i).toNat)
  case atStart => exact ⟨0, Nat.zero_le _, rfl, h0, Below.refl _ _⟩
  case round =>
    obtain ⟨k, hk, rfl, hh, hb⟩ := hrel
    by_cases hlt : k < n
    · obtain ⟨a, d, rfl, hab, hd, c0, c1, c2⟩ := ActsAt.at_ (ha.below hb) (i := k) (by omega)
      have hsz := hh.has.size
      have hlen := foldl_take_length o l0 h0.has.asc acts k
      have fin := fun (w2 : World) (h2 : BtHasT m o B w2 tb (step o ((acts.take k).foldl (step o) l0) d) (stepS m o ((acts.take k).foldl (stepS m o) T0) d)) (b2 : Below B (wr.alloc (.cells #[.int .i64 d.op, .int .i64 d.key, .int .i64 d.val] 55)) w2) =>
        show BtHasT m o B w2 tb ((acts.take (k + 1)).foldl (step o) l0) ((acts.take (k + 1)).foldl (stepS m o) T0) ∧ Below B w w2 from
          ⟨by rw [foldl_take_succ o l0 acts k d hd, foldlS_take_succ m o T0 acts k d hd]; exact h2, (hb.alloc hsz _).trans b2⟩
      generalize hL : (acts.take k).foldl (step o) l0 = L at *
      generalize hTT : (acts.take k).foldl (stepS m o) T0 = TT at *
      have Hh := Lib.hid (hh.alloc (.cells #[.int .i64 d.op, .int .i64 d.key, .int .i64 d.val] 55))
      have Hb := Lib.hid hb
      have Ha := Lib.hid ha
      have H0 := Lib.hid h0
      have HL := Lib.hid hL
      have HTT := Lib.hid hTT
      have Fin := Lib.hid fin
      have Hlen := Lib.hid hlen
      clear hh hb ha h0 hd hL hTT fin hsz hlen
      by_cases h1 : d.op = 1
      · have e1 := Lib.hid (show step o L d = ins o d.key d.val L by unfold step; rw [if_pos h1])
        have e2 := Lib.hid (show stepS m o TT d = putS m o d.key d.val TT by unfold stepS; rw [if_pos h1])
        rw [h1] at c0 Hh Fin
        clear h1
        go_wp2_with fail
        refine (btPut_hasT Hh.out _ _ (by have := Hlen.out; omega)).mono ?_
        rintro e w2 ⟨rfl, h2, b2⟩
        rw [← e1.out, ← e2.out] at h2
        have F := Lib.hid (Fin.out _ h2 b2)
        clear h2 b2
        go_wp2_with fail
        go_roundw
        case rel => exact ⟨k + 1, by omega, by go_num, F.out.1, F.out.2⟩
        case measure => simp [intOf]; omega
      · by_cases h2 : d.op = 2
        · have e1 := Lib.hid (show step o L d = del o d.key L by unfold step; rw [if_neg h1, if_pos h2])
          have e2 := Lib.hid (show stepS m o TT d = remS m o d.key TT by unfold stepS; rw [if_neg h1, if_pos h2])
          rw [h2] at c0 Hh Fin
          clear h1 h2
          go_wp2_with fail
          refine (btRemove_hasT Hh.out _ (by have := Hlen.out; omega)).mono ?_
          rintro e w2 ⟨rfl, h2, b2⟩
          rw [← e1.out, ← e2.out] at h2
          have F := Lib.hid (Fin.out _ h2 b2)
          clear h2 b2
          go_wp2_with fail
          go_roundw
          case rel => exact ⟨k + 1, by omega, by go_num, F.out.1, F.out.2⟩
          case measure => simp [intOf]; omega
        · by_cases h3 : d.op = 3
          · have e1 := Lib.hid (show step o L d = [] by unfold step; rw [if_neg h1, if_neg h2, if_pos h3])
            have e2 := Lib.hid (show stepS m o TT d = none by unfold stepS; rw [if_neg h1, if_neg h2, if_pos h3])
            rw [h3] at c0 Hh Fin
            clear h1 h2 h3
            go_wp2_with fail
            refine (btClear_hasT Hh.out).mono ?_
            rintro e w2 ⟨rfl, h2, b2⟩
            rw [← e1.out, ← e2.out] at h2
            have F := Lib.hid (Fin.out _ h2 b2)
            clear h2 b2
            go_wp2_with fail
            go_roundw
            case rel => exact ⟨k + 1, by omega, by go_num, F.out.1, F.out.2⟩
            case measure => simp [intOf]; omega
          · have e1 : step o L d = L := by unfold step; rw [if_neg h1, if_neg h2, if_neg h3]
            have e2 : stepS m o TT d = TT := by unfold stepS; rw [if_neg h1, if_neg h2, if_neg h3]
            have h2' := Hh.out
            rw [← e1, ← e2] at h2'
            have F := Lib.hid (Fin.out _ h2' (Below.refl _ _))
            have g1 : (d.op == 1) = false := by simpa using h1
            have g2 : (d.op == 2) = false := by simpa using h2
            have g3 : (d.op == 3) = false := by simpa using h3
            clear e1 e2 h2' h1 h2 h3
            go_wp2_with fail
            go_roundw
            case rel => exact ⟨k + 1, by omega, by go_num, F.out.1, F.out.2⟩
            case measure => simp [intOf]; omega
    · have hkn : k = n := by omega
      have F : BtHasT m o B wr tb (acts.foldl (step o) l0) (acts.foldl (stepS m o) T0) := by rw [← List.take_of_length_le (l := acts) (i := k) (by omega)]; exact hh
      have HF := Lib.hid F
      have Hb := Lib.hid hb
      clear hh hb ha h0 F hkn
      go_wp2_with fail
      go_end0
      exact ⟨rfl, HF.out, Hb.out⟩
theorem bt_walkT (m : Int) (hm : 3 ≤ m ∧ m ≤ 64) (o : Ord) (ho : o.fine) (n cap : Nat) (A : Option Addr) (acts : List Do) (w : World) (hn : acts.length = n) (hn1 : n ≤ 1000) (ha : ActsAt w w.heap.size A acts) :
    Calls Try.prog 17 #[.int .i64 m, .agg #[.int .i64 o.kind, .int .i64 o.m], .slice A n cap] w fun e w' =>
      ∃ tb, e = .returned (.pointer (some ⟨tb, 0, none⟩)) ∧ BtHasT m o w.heap.size w' tb (run o acts) (runS m o acts) ∧ Below w.heap.size w w' := by
  have Ha := Lib.hid ha
  clear ha
  go_enter Try.func17, Try.ntmps17
  go_wp2_with fail
  refine (by_walk o _).mono ?_
  rintro e w1 ⟨rfl, rfl⟩
  go_wp2_with fail
  refine (btNew_walk m hm.1 _ _).mono ?_
  rintro e w1 ⟨rfl, rfl⟩
  have h0 : BtHasT m o w.heap.size (((w.alloc (.cells #[.int .i64 o.kind, .int .i64 o.m] 23)).alloc (.cells #[.int .i64 o.kind, .int .i64 o.m] 23)).alloc (.cells #[.pointer none, cmpv (w.heap.size + 1), .int .i64 0, .int .i64 m] 49)) (w.heap.size + 1 + 1) [] none := by
    refine ⟨⟨w.heap.size + 1 + 1, w.heap.size + 1, none, 0, m⟩, fun _ => none, fun _ => ⟨none, 0, none, 0⟩, ⟨⟨Blk.new' (by simp) _ _, by simp only; omega, (Blk.new' (by simp) _ _).alloc _, fun _ _ h => by (cases h), fun _ _ _ h => by (cases h), fun _ _ _ _ h => by (cases h), fun _ _ _ _ h => by (cases h)⟩, .inl ⟨rfl, rfl⟩, rfl, Asc.nil o, ho, rfl, hm⟩, rfl, rfl⟩
  have b0 : Below w.heap.size w (((w.alloc (.cells #[.int .i64 o.kind, .int .i64 o.m] 23)).alloc (.cells #[.int .i64 o.kind, .int .i64 o.m] 23)).alloc (.cells #[.pointer none, cmpv (w.heap.size + 1), .int .i64 0, .int .i64 m] 49)) :=
    (((Below.refl _ _).alloc (Nat.le_refl _) _).alloc (by simp) _).alloc (by simp; omega) _
  have H0 := Lib.hid h0
  have B0 := Lib.hid b0
  clear h0 b0
  go_wp2_with fail
  refine (btDoneT_walk m o w.heap.size _ n cap A acts _ hn hn1 (Ha.out.below B0.out) [] (by simp) none H0.out).mono ?_
  rintro e w2 ⟨rfl, h2, b2⟩
  have H2 := Lib.hid h2
  have B2 := Lib.hid (B0.out.trans b2)
  clear h2 b2
  go_wp2_with fail
  go_ret
  exact ⟨_, rfl, H2.out, B2.out⟩
end Go.Proofs.Ytgakapigpiaoiaa.Bt
