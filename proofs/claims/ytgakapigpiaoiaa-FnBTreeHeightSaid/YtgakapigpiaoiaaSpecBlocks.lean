import Derived.Test.YtgakapigpiaoiaaSpecLeaves
import Derived.Test.YtgakapigpiaoiaaBtShape
import Derived.Test.YtgakapigpiaoiaaSpecSame
namespace Go.Proofs.Ytgakapigpiaoiaa.Bt
open Go.RowKit Go.Proofs.Ytgakapigpiaoiaa
theorem results_row_tmp {P : Program} {fn : Func} {p u : Tmp} {ty : TypeId} (h : fn.results = #[.cell p ty, .tmp u]) (tmps : Array Value) (w : World) (g : Nat) (t : TypeId) (cs : Array Value) (fr : Nat × Nat) (d : TypeDesc)
    (hp : tmps.getD p undef = .pointer (some ⟨g, 0, none⟩)) (hg : w.heap[g]? = some (.cells cs t fr))
    (hu : P.underlying ty = some d) (hd : (match d with | .struct _ | .array _ _ => true | _ => false) = true) (hi : (P.info? ty).map (·.size) = some cs.size) :
    (results fn tmps).run P w = .ok (.tuple #[.agg cs, tmps.getD u undef]) w := by
  have hp' : tmps[p]?.getD undef = .pointer (some ⟨g, 0, none⟩) := by simpa using hp
  simp [results, h, hp', asAddr, run_loadVar_row w g t ty cs fr d hg hu hd hi, Result.andThen]
theorem own_offT {w : World} {base : Nat} {e t : TypeId} {size : Nat} {v : Value} {n : Nat} {xs : List Value} {cs : Array Value} (h : w.ownsRow base e size v n xs) {p : Addr} (hb : Blk w p.block t cs) (ht : t ≠ e) (x : Value) : (w.setCell p x).ownsRow base e size v n xs := by
  refine ⟨h.1, ?_⟩
  rcases h.2 with ⟨rfl, h0⟩ | ⟨g, cap', cur, rfl, hb', hg, h2⟩
  · exact .inl ⟨rfl, h0⟩
  · have hne := Blk.ne_ hb (show Blk w g e cur from hg) ht
    exact .inr ⟨g, cap', cur, rfl, hb', (Below.heap_setCell w p x g (fun e => hne e.symm)).trans hg, h2⟩
set_option maxHeartbeats 4000000 in
set_option maxRecDepth 100000 in
theorem specBlocks_walk {m : Int} {l : KV} {L : List BK} {h : Nat} (sh : ShapeOf m l L h) (hl : l.length ≤ 1000) (hm : m ≤ 64) (n cap : Nat) (A : Option Addr) (hn : L.length = n) (hn1 : n ≤ 1000) (w : World) (hr : ListAt w w.heap.size A L) (ln : Nat) (hln : l.length = ln) :
    Calls Try.prog 9 #[.slice A n cap] w fun e w' => ∃ A1 c1 A2 c2, e = .returned (.tuple #[.agg #[.slice A1 ln c1, .slice A2 ln c2, .int .i64 0, .bool false], .int .i64 h]) ∧
      w'.ownsRow w.heap.size 3 1 (.slice A1 ln c1) ln (intRow (l.map Prod.fst)) ∧ w'.ownsRow w.heap.size 3 1 (.slice A2 ln c2) ln (intRow (l.map Prod.snd)) ∧ Below w.heap.size w w' := by
  have BW := Lib.hid (fun r : Array Value => show Below w.heap.size w ((((w.alloc (.cells r 30)).alloc (.cells #[] 3)).alloc (.cells #[] 3)).alloc (.cells #[.slice (some ⟨w.heap.size + 1, 0, none⟩) 0 0, .slice (some ⟨w.heap.size + 1 + 1, 0, none⟩) 0 0, .int .i64 0, .bool false] 30)) from ((((Below.refl _ _).alloc (Nat.le_refl _) _).alloc (by simp) _).alloc (by simp; omega) _).alloc (by simp; omega) _)
  have HF := Lib.hid (fun r : Array Value => show Fill ((((w.alloc (.cells r 30)).alloc (.cells #[] 3)).alloc (.cells #[] 3)).alloc (.cells #[.slice (some ⟨w.heap.size + 1, 0, none⟩) 0 0, .slice (some ⟨w.heap.size + 1 + 1, 0, none⟩) 0 0, .int .i64 0, .bool false] 30)) w.heap.size (w.heap.size + 1 + 1 + 1) (some ⟨w.heap.size + 1, 0, none⟩) 0 (some ⟨w.heap.size + 1 + 1, 0, none⟩) 0 0 0 [] [] from by
    refine ⟨rfl, rfl, by omega, Blk.newAt (by simp) _ _, ?_, ?_, ?_, ?_⟩
    · exact own_empty (Blk.alloc (Blk.alloc (Blk.newAt (by simp) _ _) _) _) (Nat.le_succ _)
    · exact own_empty (Blk.alloc (Blk.newAt (by simp) _ _) _) (by omega)
    · intro a1 a2 h1 h2; injection h1 with h1; injection h2 with h2; subst h1 h2; simp only; omega
    · rintro a (h | h) <;> (injection h with h; subst h; simp only; omega))
  have HP := Lib.hid (show Blk ((((w.alloc (.cells #[.slice none 0 0, .slice none 0 0, .int .i64 0, .bool false] 30)).alloc (.cells #[] 3)).alloc (.cells #[] 3)).alloc (.cells #[.slice (some ⟨w.heap.size + 1, 0, none⟩) 0 0, .slice (some ⟨w.heap.size + 1 + 1, 0, none⟩) 0 0, .int .i64 0, .bool false] 30)) w.heap.size 30 #[.slice none 0 0, .slice none 0 0, .int .i64 0, .bool false] from Blk.alloc (Blk.alloc (Blk.alloc (Blk.new _ _ _) _) _) _)
  have HR := Lib.hid hr
  have HLN := Lib.hid hln
  clear hr
  rcases sh with ⟨rfl, rfl, rfl⟩ | ⟨σ, rt, r, S, hrt, hf, rfl, rfl, rfl⟩
  · obtain rfl : n = 0 := by simpa using hn.symm
    obtain rfl : ln = 0 := by simpa using hln.symm
    clear hn hn1 hl hln
    go_enter Try.func9, Try.ntmps9
    go_wp2_with fail
    have fb := Blk.alloc (Blk.alloc (Blk.alloc (Blk.new w 30 #[.slice (some ⟨w.heap.size + 1, 0, none⟩) 0 0, .slice (some ⟨w.heap.size + 1 + 1, 0, none⟩) 0 0, .int .i64 0, .bool false]) (.cells #[] 3)) (.cells #[] 3)) (.cells #[.slice (some ⟨w.heap.size + 1, 0, none⟩) 0 0, .slice (some ⟨w.heap.size + 1 + 1, 0, none⟩) 0 0, .int .i64 0, .bool false] 30)
    refine bodyPost_ret (results_row_tmp rfl _ _ w.heap.size _ _ (0, 0) _ rfl fb Try.underlying30 rfl state_size) rfl ?_
    exact ⟨_, _, _, _, rfl, (HF.out _).own1, (HF.out _).own2, BW.out _⟩
  · have hfe : ∀ i d, σ i = some d → d.es.length ≤ 1000 := fun i d hi => by have := (hf i d hi).1; omega
    have hlv := lv_lt_cnt S rt r hrt
    have hbl := bks_length S rt r hrt 0 (-1)
    have hlo : lvOf σ rt = r.lv := by unfold lvOf; rw [hrt]
    have CO := Lib.hid (leaves_walk S hfe n cap A hn w HR.out (w.heap.size + 1 + 1 + 1) rt r hrt 0 (-1) n [] [] _ _ 0 _ 0 0 (SubB.self σ rt (-1)) (by rw [hlo]; omega) (by omega) (BW.out #[.slice none 0 0, .slice none 0 0, .int .i64 0, .bool false]) (HF.out #[.slice none 0 0, .slice none 0 0, .int .i64 0, .bool false]) (by omega))
    have hb : ((n : Int) == 0) = false := by simp; omega
    have HLO := Lib.hid hlo
    clear hlv hbl hlo hn hfe hf hrt hl hln
    go_enter Try.func9, Try.ntmps9
    go_wp2_with fail
    have HQ := Lib.hid (show (w.heap.size : Nat) ∉ (w.heap.size + 1 + 1 + 1) :: (blks (some ⟨w.heap.size + 1, 0, none⟩) ++ blks (some ⟨w.heap.size + 1 + 1, 0, none⟩)) by simp [blks]; omega)
    have BV := Lib.hid (BW.out #[.slice none 0 0, .slice none 0 0, .int .i64 0, .bool false])
    have HG := Lib.hid (HF.out #[.slice none 0 0, .slice none 0 0, .int .i64 0, .bool false])
    clear BW HF
    generalize ((((w.alloc (.cells #[.slice none 0 0, .slice none 0 0, .int .i64 0, .bool false] 30)).alloc (.cells #[] 3)).alloc (.cells #[] 3)).alloc (.cells #[.slice (some ⟨w.heap.size + 1, 0, none⟩) 0 0, .slice (some ⟨w.heap.size + 1 + 1, 0, none⟩) 0 0, .int .i64 0, .bool false] 30)) = w1 at *
    refine CO.out.mono ?_
    rintro e w2 ⟨rfl, A3, c3, A4, c4, f, fs⟩
    have P2 := Lib.hid (HP.out.only fs.on HQ.out)
    have B2 := Lib.hid (BV.out.trans (fs.below HG.out BV.out.size))
    simp only [HLN.out, Nat.zero_add, List.nil_append] at f
    have hs0 : w2.cell? ⟨w.heap.size + 1 + 1 + 1, 0, none⟩ = some (.slice A3 ln c3) := f.blk.cell 0
    have hs1 : w2.cell? ⟨w.heap.size + 1 + 1 + 1, 1, none⟩ = some (.slice A4 ln c4) := f.blk.cell 1
    have hs2 : w2.cell? ⟨w.heap.size + 1 + 1 + 1, 2, none⟩ = some (.int .i64 0) := f.blk.cell 2
    have hs3 : w2.cell? ⟨w.heap.size + 1 + 1 + 1, 3, none⟩ = some (.bool false) := f.blk.cell 3
    have hc0 : w2.cell? ⟨w.heap.size, 0, none⟩ = some (.slice none 0 0) := P2.out.cell 0
    have hc1 : w2.cell? ⟨w.heap.size, 1, none⟩ = some (.slice none 0 0) := P2.out.cell 1
    have hc2 : w2.cell? ⟨w.heap.size, 2, none⟩ = some (.int .i64 0) := P2.out.cell 2
    have hc3 : w2.cell? ⟨w.heap.size, 3, none⟩ = some (.bool false) := P2.out.cell 3
    have hcf := P2.out.frozen
    have F2 := Lib.hid f
    clear f fs
    go_wp2_with fail
    have fb := Blk.set_ (Blk.set_ (Blk.set_ (Blk.set_ P2.out 0 (.slice A3 ln c3)) 1 (.slice A4 ln c4)) 2 (.int .i64 0)) 3 (.bool false)
    refine bodyPost_ret (results_row_tmp rfl _ _ w.heap.size _ _ (0, 0) _ rfl fb Try.underlying30 rfl state_size) rfl ?_
    refine ⟨_, _, _, _, by rw [HLO.out]; rfl, ?_, ?_, ?_⟩
    · exact own_offT (own_offT (own_offT (own_offT F2.out.own1 (p := ⟨w.heap.size, 0, none⟩) P2.out (by decide) _) (p := ⟨w.heap.size, 1, none⟩) (Blk.set_ P2.out 0 _) (by decide) _) (p := ⟨w.heap.size, 2, none⟩) (Blk.set_ (Blk.set_ P2.out 0 _) 1 _) (by decide) _) (p := ⟨w.heap.size, 3, none⟩) (Blk.set_ (Blk.set_ (Blk.set_ P2.out 0 _) 1 _) 2 _) (by decide) _
    · exact own_offT (own_offT (own_offT (own_offT F2.out.own2 (p := ⟨w.heap.size, 0, none⟩) P2.out (by decide) _) (p := ⟨w.heap.size, 1, none⟩) (Blk.set_ P2.out 0 _) (by decide) _) (p := ⟨w.heap.size, 2, none⟩) (Blk.set_ (Blk.set_ P2.out 0 _) 1 _) (by decide) _) (p := ⟨w.heap.size, 3, none⟩) (Blk.set_ (Blk.set_ (Blk.set_ P2.out 0 _) 1 _) 2 _) (by decide) _
    · exact (((B2.out.setCell (p := ⟨w.heap.size, 0, none⟩) (Nat.le_refl _) _).setCell (p := ⟨w.heap.size, 1, none⟩) (Nat.le_refl _) _).setCell (p := ⟨w.heap.size, 2, none⟩) (Nat.le_refl _) _).setCell (p := ⟨w.heap.size, 3, none⟩) (Nat.le_refl _) _
end Go.Proofs.Ytgakapigpiaoiaa.Bt
