/-
  The reference's State: what a list of pairs tells of itself.
-/
import Derived.Test.YtpkgmgebhnhhjaaSpecRun
namespace Go.Proofs.Ytpkgmgebhnhhjaa
open Go.RowKit

/-- A store into a block of another type leaves a row as it was. -/
theorem own_off {w : World} {base : Nat} {e t : TypeId} {size : Nat} {v : Value} {n : Nat} {xs : List Value} {cs : Array Value} (h : w.ownsRow base e size v n xs) {p : Addr} (hb : Blk w p.block t cs) (ht : t ≠ e) (x : Value) : (w.setCell p x).ownsRow base e size v n xs := by
  refine ⟨h.1, ?_⟩
  rcases h.2 with ⟨rfl, h0⟩ | ⟨g, cap', cur, rfl, hb', hg, h2⟩
  · exact .inl ⟨rfl, h0⟩
  · have hne := Blk.ne_ hb (show Blk w g e cur from hg) ht
    exact .inr ⟨g, cap', cur, rfl, hb', (Below.heap_setCell w p x g (fun e => hne e.symm)).trans hg, h2⟩
theorem own_ne {w : World} {base : Nat} {e t : TypeId} {size g n n' cap gb : Nat} {xs : List Value} {cs : Array Value} (h : w.ownsRow base e size (.slice (some ⟨g, 0, none⟩) n cap) n' xs) (hb : Blk w gb t cs) (ht : t ≠ e) : g ≠ gb := by
  rcases h.2 with ⟨h0, _⟩ | ⟨g', cap', cur, hv, hb', hg, h2⟩
  · cases h0
  · injection hv with h1 h2 h3
    injection h1 with h1
    injection h1 with h1
    subst h1
    exact fun e => Blk.ne_ hb (show Blk w g _ cur from hg) ht e.symm

/-- Two rows of numbers of the call's own, apart from each other. -/
structure Rows2 (w : World) (base : Nat) (g1 c1 g2 c2 k : Nat) (xs ys : List Int) : Prop where
  r1 : w.ownsRow base 3 1 (.slice (some ⟨g1, 0, none⟩) k c1) k (intRow xs)
  r2 : w.ownsRow base 3 1 (.slice (some ⟨g2, 0, none⟩) k c2) k (intRow ys)
  ne : g1 ≠ g2

set_option maxHeartbeats 1000000 in
set_option maxRecDepth 100000 in
theorem sstate_walk (n cap : Nat) (A : Option Addr) (l : KV) (w : World) (hn : l.length = n) (hn1 : n ≤ 100000) (hr : RowAt w w.heap.size A (prCells l)) :
    Calls Try.prog 36 #[.slice A n cap] w fun e w' => ∃ v, e = .returned v ∧ StateOwn w' w.heap.size v l ∧ Below w.heap.size w w' := by
  have Hr := Lib.hid hr
  have HN := Lib.hid hn
  clear hr hn
  go_enter Try.func36, Try.ntmps36
  go_wp2_with fail
  go_loopw [16] (fun i wr => ∃ (k g1 c1 g2 c2 : Nat), k ≤ n ∧ i = .int .i64 k ∧ Rows2 wr (w.heap.size + 1) g1 c1 g2 c2 k (l.take k |>.map Prod.fst) (l.take k |>.map Prod.snd) ∧
      Blk wr (w.heap.size + 1 + 1 + 1) 41 #[.slice (some ⟨g1, 0, none⟩) k c1, .slice (some ⟨g2, 0, none⟩) k c2, .int .i64 n, .bool ((n : Int) == 0)] ∧ Blk wr w.heap.size 41 #[.slice none 0 0, .slice none 0 0, .int .i64 0, .bool false] ∧ Below w.heap.size w wr) (fun i _ => n - (intOf i).toNat)
  case atStart =>
    refine ⟨0, w.heap.size + 1, 0, w.heap.size + 1 + 1, 0, Nat.zero_le _, rfl, ⟨?_, ?_, by omega⟩, Blk.newAt (by simp) _ _, ?_, ?_⟩
    · exact own_empty' (Blk.alloc (Blk.alloc (Blk.newAt (by simp) _ _) _) _) (Nat.le_refl _)
    · exact own_empty' (Blk.alloc (Blk.newAt (by simp) _ _) _) (Nat.le_succ _)
    · exact Blk.alloc (Blk.alloc (Blk.alloc (Blk.new _ _ _) _) _) _
    · exact ((((Below.refl _ _).alloc (Nat.le_refl _) _).alloc (by simp) _).alloc (by simp; omega) _).alloc (by simp; omega) _
  case round =>
    obtain ⟨k, g1, c1, g2, c2, hk, rfl, hrows, hs, hres, hw⟩ := hrel
    by_cases hlt : k < n
    · obtain ⟨p, hp⟩ : ∃ p, l[k]? = some p := ⟨_, List.getElem?_eq_getElem (by have := HN.out; omega)⟩
      obtain ⟨a, rfl, hab, hp0, hp1⟩ := (Hr.out.below hw).pair hp
      have PB := Lib.hid (Blk.new wr 54 #[.int .i64 p.1, .int .i64 p.2])
      have HS := Lib.hid (Blk.alloc hs (.cells #[.int .i64 p.1, .int .i64 p.2] 54))
      have HP := Lib.hid (Blk.alloc hres (.cells #[.int .i64 p.1, .int .i64 p.2] 54))
      have HW := Lib.hid (hw.alloc hw.size (.cells #[.int .i64 p.1, .int .i64 p.2] 54))
      have R1 := Lib.hid (hrows.r1.alloc (.cells #[.int .i64 p.1, .int .i64 p.2] 54))
      have R2 := Lib.hid (hrows.r2.alloc (.cells #[.int .i64 p.1, .int .i64 p.2] 54))
      have RN := Lib.hid hrows.ne
      have hc0 : (wr.alloc (.cells #[.int .i64 p.1, .int .i64 p.2] 54)).cell? ⟨w.heap.size + 1 + 1 + 1, 0, none⟩ = some (.slice (some ⟨g1, 0, none⟩) k c1) := HS.out.cell 0
      have T1 := Lib.hid (show (l.take (k + 1) |>.map Prod.fst) = (l.take k |>.map Prod.fst) ++ [p.1] by rw [List.take_add_one, hp]; simp)
      have T2 := Lib.hid (show (l.take (k + 1) |>.map Prod.snd) = (l.take k |>.map Prod.snd) ++ [p.2] by rw [List.take_add_one, hp]; simp)
      have BL := Lib.hid (show w.heap.size + 1 + 1 + 1 < wr.heap.size from hs.lt)
      clear hrows hs hres hw hp
      go_wp2_with (at_builtin; refine Hid.out ?_)
      delta Hid
      have hz : wr.heap.size + 1 = (wr.alloc (.cells #[.int .i64 p.1, .int .i64 p.2] 54)).heap.size := by simp
      generalize wr.alloc (.cells #[.int .i64 p.1, .int .i64 p.2] 54) = wa at *
      refine wpList_appT Try.underlying39 int_info rfl (by omega) rfl _ _ rfl (w.heap.size + 1) (.slice (some ⟨g1, 0, none⟩) k c1) k (intRow (l.take k |>.map Prod.fst)) rfl (R1.out.alloc _) (some ⟨wr.heap.size + 1, 0, none⟩) 1 1 (intRow [p.1]) rfl (src_blk (Blk.newAt hz _ _) rfl) (intRow_one _) (by omega) (by omega) (by have := BL.out; simp; omega) ?_
      intro v1 w1 own1 gr1 ob1
      replace gr1 := (show World.grownBy _ w1 (some g1) from gr1)
      replace ob1 := (show v1.ownBlock = some g1 ∨ v1.ownBlock = some _ from ob1)
      obtain ⟨g3, c3, rfl, _, _, _, hg3⟩ := own_some own1 (by rcases ob1 with h | h <;> rw [h] <;> simp)
      have hg2 := own_room R2.out
      have hne : g3 ≠ g2 := by
        rcases ob1 with h | h
        · have h := Option.some.inj (show some g3 = some g1 from h); have h2 : g1 ≠ g2 := RN.out; omega
        · have h := Option.some.inj (show some g3 = some _ from h); simp at h; omega
      have ns := own_ne R1.out HS.out (by decide)
      have nr := own_ne R1.out HP.out (by decide)
      have np := own_ne R1.out PB.out (by decide)
      have S1 := Lib.hid (show Blk w1 _ _ _ from grown_keep gr1 (HS.out.alloc _) (by intro e; injection e with e; exact ns e))
      have P1 := Lib.hid (show Blk w1 _ _ _ from grown_keep gr1 (HP.out.alloc _) (by intro e; injection e with e; exact nr e))
      have Q1 := Lib.hid (show Blk w1 _ _ _ from grown_keep gr1 (PB.out.alloc _) (by intro e; injection e with e; exact np e))
      have V1 := Lib.hid (own_grown (R2.out.alloc (.cells #[.int .i64 p.1] 3)) gr1 (by intro g h e; have h := Option.some.inj (show some g2 = some g from h); have e := Option.some.inj e; have h2 : g1 ≠ g2 := RN.out; omega))
      have W1 := Lib.hid ((HW.out.alloc HW.out.size (.cells #[.int .i64 p.1] 3)).grown gr1 (by have := HW.out.size; simp; omega) (by intro k hk; injection hk with hk; have := (own_room R1.out).2.2.1; omega))
      have O1 := Lib.hid own1
      have NE := Lib.hid hne
      have hd0 : w1.cell? ⟨w.heap.size + 1 + 1 + 1, 0, none⟩ = some (.slice (some ⟨g1, 0, none⟩) k c1) := S1.out.cell 0
      have hd1 : w1.cell? ⟨w.heap.size + 1 + 1 + 1, 1, none⟩ = some (.slice (some ⟨g2, 0, none⟩) k c2) := S1.out.cell 1
      have hdf := S1.out.frozen
      have hq1 : w1.cell? ⟨wr.heap.size, 1, none⟩ = some (.int .i64 p.2) := Q1.out.cell 1
      clear own1 gr1 ob1 hg2 hne ns nr np hc0 hg3 hz R1 R2 RN HS HP HW PB
      go_wp2_with (at_builtin; refine Hid.out ?_)
      delta Hid
      have A1 := Lib.hid (own_off O1.out (p := ⟨w.heap.size + 1 + 1 + 1, 0, none⟩) S1.out (by decide) (.slice (some ⟨g3, 0, none⟩) (k + 1) c3))
      have A2 := Lib.hid (own_off V1.out (p := ⟨w.heap.size + 1 + 1 + 1, 0, none⟩) S1.out (by decide) (.slice (some ⟨g3, 0, none⟩) (k + 1) c3))
      have S2 := Lib.hid (Blk.set_ S1.out 0 (.slice (some ⟨g3, 0, none⟩) (k + 1) c3))
      have P2 := Lib.hid (Blk.far P1.out (p := ⟨w.heap.size + 1 + 1 + 1, 0, none⟩) (by simp only; omega) (.slice (some ⟨g3, 0, none⟩) (k + 1) c3))
      have W2 := Lib.hid (W1.out.setCell (p := ⟨w.heap.size + 1 + 1 + 1, 0, none⟩) (by simp only; omega) (.slice (some ⟨g3, 0, none⟩) (k + 1) c3))
      have hz : w1.heap.size = (w1.setCell ⟨w.heap.size + 1 + 1 + 1, 0, none⟩ (.slice (some ⟨g3, 0, none⟩) (k + 1) c3)).heap.size := by simp [World.setCell]
      have BS := Lib.hid S1.out.lt
      clear hd0 hd1 hdf hq1 S1 P1 Q1 V1 W1 O1
      generalize w1.setCell ⟨w.heap.size + 1 + 1 + 1, 0, none⟩ (.slice (some ⟨g3, 0, none⟩) (k + 1) c3) = wb at *
      refine wpList_appT Try.underlying39 int_info rfl (by omega) rfl (.tmp 28) (.tmp 31) rfl (w.heap.size + 1) (.slice (some ⟨g2, 0, none⟩) k c2) k (intRow (l.take k |>.map Prod.snd)) rfl (A2.out.alloc _) (some ⟨w1.heap.size, 0, none⟩) 1 1 (intRow [p.2]) rfl (src_blk (Blk.newAt hz _ _) rfl) (intRow_one _) (by omega) (by omega) (by have := BS.out; simp; omega) ?_
      intro v2 w3 own3 gr3 ob3
      replace gr3 := (show World.grownBy _ w3 (some g2) from gr3)
      replace ob3 := (show v2.ownBlock = some g2 ∨ v2.ownBlock = some _ from ob3)
      obtain ⟨g4, c4, rfl, _, _, _, hg4⟩ := own_some own3 (by rcases ob3 with h | h <;> rw [h] <;> simp)
      have hg3 := own_room A1.out
      have hne : g3 ≠ g4 := by
        have h2 : g3 ≠ g2 := NE.out
        rcases ob3 with h | h
        · have h := Option.some.inj (show some g4 = some g2 from h); omega
        · have h := Option.some.inj (show some g4 = some _ from h); simp at h; omega
      have ns := own_ne A2.out S2.out (by decide)
      have nr := own_ne A2.out P2.out (by decide)
      have S3 := Lib.hid (show Blk w3 _ _ _ from grown_keep gr3 (S2.out.alloc _) (by intro e; injection e with e; exact ns e))
      have P3 := Lib.hid (show Blk w3 _ _ _ from grown_keep gr3 (P2.out.alloc _) (by intro e; injection e with e; exact nr e))
      have V3 := Lib.hid (own_grown (A1.out.alloc (.cells #[.int .i64 p.2] 3)) gr3 (by intro g h e; have h := Option.some.inj (show some g3 = some g from h); have e := Option.some.inj e; have h2 : g3 ≠ g2 := NE.out; omega))
      have W3 := Lib.hid ((W2.out.alloc W2.out.size (.cells #[.int .i64 p.2] 3)).grown gr3 (by have := W2.out.size; simp; omega) (by intro k hk; injection hk with hk; have := (own_room A2.out).2.2.1; omega))
      have O3 := Lib.hid own3
      have NF := Lib.hid hne
      have hd1 : w3.cell? ⟨w.heap.size + 1 + 1 + 1, 1, none⟩ = some (.slice (some ⟨g2, 0, none⟩) k c2) := S3.out.cell 1
      have hdf := S3.out.frozen
      clear own3 gr3 ob3 hg3 hne ns nr hg4 hz A1 A2 NE S2 P2 W2
      have B1 := own_off V3.out (p := ⟨w.heap.size + 1 + 1 + 1, 1, none⟩) S3.out (by decide) (.slice (some ⟨g4, 0, none⟩) (k + 1) c4)
      have B2 := own_off O3.out (p := ⟨w.heap.size + 1 + 1 + 1, 1, none⟩) S3.out (by decide) (.slice (some ⟨g4, 0, none⟩) (k + 1) c4)
      have S4 := Blk.set_ S3.out 1 (.slice (some ⟨g4, 0, none⟩) (k + 1) c4)
      have P4 := Blk.far P3.out (p := ⟨w.heap.size + 1 + 1 + 1, 1, none⟩) (by simp only; omega) (.slice (some ⟨g4, 0, none⟩) (k + 1) c4)
      have W4 := W3.out.setCell (p := ⟨w.heap.size + 1 + 1 + 1, 1, none⟩) (by simp only; omega) (.slice (some ⟨g4, 0, none⟩) (k + 1) c4)
      rw [← intRow_append, ← T1.out] at B1
      rw [← intRow_append, ← T2.out] at B2
      have FF := Lib.hid (And.intro (Rows2.mk B1 B2 NF.out) (And.intro S4 (And.intro P4 W4)))
      clear B1 B2 S4 P4 W4 V3 O3 S3 P3 W3
      go_wp2_with fail
      go_roundw
      case rel => exact ⟨k + 1, g3, c3, g4, c4, by omega, by go_num, FF.out.1, FF.out.2.1, FF.out.2.2.1, FF.out.2.2.2⟩
      case measure => simp [intOf]; omega
    · obtain rfl : k = n := by omega
      rw [List.take_of_length_le (by have := HN.out; omega)] at hrows
      have hs0 : wr.cell? ⟨w.heap.size + 1 + 1 + 1, 0, none⟩ = some (.slice (some ⟨g1, 0, none⟩) k c1) := hs.cell 0
      have hs1 : wr.cell? ⟨w.heap.size + 1 + 1 + 1, 1, none⟩ = some (.slice (some ⟨g2, 0, none⟩) k c2) := hs.cell 1
      have hs2 : wr.cell? ⟨w.heap.size + 1 + 1 + 1, 2, none⟩ = some (.int .i64 k) := hs.cell 2
      have hs3 : wr.cell? ⟨w.heap.size + 1 + 1 + 1, 3, none⟩ = some (.bool ((k : Int) == 0)) := hs.cell 3
      have hr0 : wr.cell? ⟨w.heap.size, 0, none⟩ = some (.slice none 0 0) := hres.cell 0
      have hr1 : wr.cell? ⟨w.heap.size, 1, none⟩ = some (.slice none 0 0) := hres.cell 1
      have hr2 : wr.cell? ⟨w.heap.size, 2, none⟩ = some (.int .i64 0) := hres.cell 2
      have hr3 : wr.cell? ⟨w.heap.size, 3, none⟩ = some (.bool false) := hres.cell 3
      have hrf := hres.frozen
      have fb := Blk.set_ (Blk.set_ (Blk.set_ (Blk.set_ hres 0 (.slice (some ⟨g1, 0, none⟩) k c1)) 1 (.slice (some ⟨g2, 0, none⟩) k c2)) 2 (.int .i64 k)) 3 (.bool ((k : Int) == 0))
      have Fin : StateOwn (set4 wr w.heap.size (.slice (some ⟨g1, 0, none⟩) k c1) (.slice (some ⟨g2, 0, none⟩) k c2) (.int .i64 k) (.bool ((k : Int) == 0))) w.heap.size (.agg #[.slice (some ⟨g1, 0, none⟩) k c1, .slice (some ⟨g2, 0, none⟩) k c2, .int .i64 k, .bool ((k : Int) == 0)]) l ∧ Below w.heap.size w (set4 wr w.heap.size (.slice (some ⟨g1, 0, none⟩) k c1) (.slice (some ⟨g2, 0, none⟩) k c2) (.int .i64 k) (.bool ((k : Int) == 0))) := by
        have h0 : StateOwn wr (w.heap.size + 1) (.agg #[.slice (some ⟨g1, 0, none⟩) k c1, .slice (some ⟨g2, 0, none⟩) k c2, .int .i64 k, .bool ((k : Int) == 0)]) l :=
          ⟨some ⟨g1, 0, none⟩, c1, some ⟨g2, 0, none⟩, c2, by rw [HN.out], by rw [HN.out]; exact hrows.r1, by rw [HN.out]; exact hrows.r2⟩
        refine ⟨StateOwn.less ((((h0.far (p := ⟨w.heap.size, 0, none⟩) (Nat.lt_succ_self _) _).far (p := ⟨w.heap.size, 1, none⟩) (Nat.lt_succ_self _) _).far (p := ⟨w.heap.size, 2, none⟩) (Nat.lt_succ_self _) _).far (p := ⟨w.heap.size, 3, none⟩) (Nat.lt_succ_self _) _) (Nat.le_succ _), ?_⟩
        exact (((hw.setCell (p := ⟨w.heap.size, 0, none⟩) (Nat.le_refl _) _).setCell (p := ⟨w.heap.size, 1, none⟩) (Nat.le_refl _) _).setCell (p := ⟨w.heap.size, 2, none⟩) (Nat.le_refl _) _).setCell (p := ⟨w.heap.size, 3, none⟩) (Nat.le_refl _) _
      have FB := Lib.hid fb
      have FIN := Lib.hid Fin
      clear fb Fin hrows hs hres hw
      generalize hbn : ((k : Int) == 0) = bn at *
      clear hbn
      go_wp2_with fail
      refine bodyPost_ret (results_cell_row rfl _ _ w.heap.size _ _ (0, 0) _ rfl FB.out Try.underlying41 rfl state_size) rfl ?_
      exact ⟨_, rfl, FIN.out.1, FIN.out.2⟩

end Go.Proofs.Ytpkgmgebhnhhjaa
