/-
  Several texts as one (BtCopy, BtErase, BtPar, BtMem2): each says its own in its remarks.
-/
import Derived.Test.YtgakapigpiaoiaaBtMems
import Derived.Laws.CopyOwn
import Derived.Laws.OwnMore
import Derived.Deep.RegionHeld3
import Derived.Deep.RegionHeldLaw
import Derived.Deep.RegionLaw
import Derived.Test.YtgakapigpiaoiaaRegApp
import Derived.StillTailTactics
namespace Go.Proofs.Ytgakapigpiaoiaa.Bt
open Go.RowKit Go.Proofs.Ytgakapigpiaoiaa
theorem only_setRow (w : World) (g : Nat) (cs : Array Value) : Only [g] w (w.setRow g cs) :=
  ⟨rfl, rfl, rfl, by simp [World.setRow], fun k _ hk => setRow_other w g k cs (fun e => hk (by simp [e]))⟩
theorem step_copyO {P : Program} {ops : Array Oper} {o : Oper} {a : Act} {w : World} {K : Act → World → Prop} {Q : Exit → Act → World → Prop} {E : Prop} (hgd : o.guard = none) (d s : Operand) (dT sT : TypeId)
    (ho : o.op = .call { callee := .builtin .copy, args := #[d, s], argTypes := #[dT, sT] }) (elem : TypeId) (hu : P.underlying dT = some (.slice elem)) (hsz : (P.info? elem).map (·.size) = some 1)
    (dp sp : Option Addr) (dLen dCap sLen sCap : Nat) (hd : a.eval d = .slice dp dLen dCap) (hs : a.eval s = .slice sp sLen sCap)
    (g off : Nat) (cur : List Value) (t : TypeId) (hg : w.heap[g]? = some (.cells cur.toArray t (0, 0))) (cs : List Value) (hn : cs.length = Nat.min sLen dLen)
    (hpos : 0 < cs.length → dp = some ⟨g, off, none⟩ ∧ ∃ ad, sp = some ad ∧ ∀ j v, cs[j]? = some v → w.cell? (ad.add j) = some v)
    (hfit : off + cs.length ≤ cur.length) (h1 : ∀ v ∈ cs, v.oneCell' = true)
    (h : ∀ w', Hid (w'.heap[g]? = some (.cells (splice cur off cs).toArray t (0, 0))) → Hid (Only [g] w w') → K (a.put o.dst (goInt cs.length)) w') :
    if Region.wanted o (yielded ops a.tmps) = true then Oper.wp P o a w K Q else E := by
  have hw : Region.wanted o (yielded ops a.tmps) = true := by simp [Region.wanted, hgd]
  rw [if_pos hw]
  by_cases h0 : cs.length = 0
  · obtain rfl : cs = [] := List.eq_nil_of_length_eq_zero h0
    have hrun := run_copy_none (P := P) w dT sT o.type elem dp sp dLen dCap sLen sCap hu hsz (by simpa using hn.symm)
    unfold Oper.wp
    simp [execOp, ho, resolve, invoke, builtin, hd, hs, hrun, Result.andThen]
    exact h w (show _ = _ by simpa [splice] using hg) (Only.refl _ _)
  · obtain ⟨rfl, ad, rfl, hsrc⟩ := hpos (by omega)
    have hrun := run_copy_row (P := P) w dT sT o.type elem g off dLen dCap ad sLen sCap cur.toArray t cs hu hsz hg hn hsrc (by simpa using hfit) h1
    unfold Oper.wp
    simp [execOp, ho, resolve, invoke, builtin, hd, hs, hrun, Result.andThen]
    exact h _ (show _ = _ by simpa [splice] using setRow_heap w g _ _ t _ hg) (only_setRow _ _ _)
theorem own_list {w : World} {B : Nat} {e : TypeId} {n c n' : Nat} {A : Option Addr} {xs : List Value} (h : w.ownsRow B e 1 (.slice A n c) n' xs) {g : Nat} (hx : A = some ⟨g, 0, none⟩) :
    ∃ L : List Value, w.heap[g]? = some (.cells L.toArray e (0, 0)) ∧ B ≤ g ∧ n' ≤ c ∧ c ≤ maxLen ∧ L.length = c ∧ L.take n' = xs := by
  subst hx
  rcases h.2 with ⟨h1, _⟩ | ⟨g', cap, cur, hv, hb, hg, hn, hm, hs, ht⟩
  · cases h1
  · injection hv with h1 h2 h3
    injection h1 with h1
    injection h1 with h1
    subst h1 h3
    exact ⟨cur.toList, by simpa using hg, hb, hn, hm, by simpa using hs, by simpa using ht⟩
theorem list_own {w : World} {B g : Nat} {e : TypeId} {n c : Nat} {L xs : List Value} (hg : w.heap[g]? = some (.cells L.toArray e (0, 0))) (hb : B ≤ g) (hn : n ≤ c) (hm : c ≤ maxLen) (hl : L.length = c) (ht : L.take n = xs) : w.ownsRow B e 1 (.slice (some ⟨g, 0, none⟩) n c) n xs := by
  refine ⟨?_, .inr ⟨g, c, L.toArray, rfl, hb, hg, hn, hm, by simpa using hl, by simpa using ht⟩⟩
  rw [← ht, List.length_take]; omega
section
variable {β : Type}
theorem splice_erase (L : List β) (n j : Nat) (u : β) (hj : j < n) (hn : n ≤ L.length) : ((splice L j ((L.take n).drop (j + 1))).set (n - 1) u).take (n - 1) = (L.take n).eraseIdx j := by
  unfold splice
  apply List.ext_getElem?
  intro k
  simp only [List.getElem?_take, List.getElem?_set, List.getElem?_append, List.getElem?_drop, List.length_take, List.length_drop, List.getElem?_eraseIdx]
  by_cases hk : k < n - 1
  · rw [if_pos hk, if_neg (by omega)]
    by_cases hkj : k < j
    · rw [if_pos (by omega), if_pos hkj, if_pos hkj, if_pos (by omega)]
    · rw [if_neg (by omega), if_neg hkj, if_pos (by omega), if_pos (by omega), if_pos (by omega)]
      congr 1; omega
  · rw [if_neg hk]
    by_cases hkj : k < j
    · omega
    · rw [if_neg hkj, if_neg (by omega)]
theorem splice_insert (L : List β) (n j : Nat) (u : β) (hj : j ≤ n) (hn : n + 1 ≤ L.length) : ((splice L (j + 1) ((L.take n).drop j)).set j u).take (n + 1) = (L.take n).insertIdx j u := by
  unfold splice
  apply List.ext_getElem?
  intro k
  rw [List.getElem?_insertIdx]
  simp only [List.getElem?_take, List.getElem?_set, List.getElem?_append, List.getElem?_drop, List.length_take, List.length_drop, List.length_append]
  by_cases hk : k < n + 1
  · rw [if_pos hk]
    by_cases hkj : j = k
    · subst hkj
      rw [if_pos rfl, if_pos (by omega), if_neg (by omega), if_pos rfl, if_pos (by omega)]
    · rw [if_neg hkj]
      by_cases hlt : k < j
      · rw [if_pos (by omega), if_pos (by omega), if_pos hlt, if_pos (by omega)]
      · rw [if_neg (by omega), if_pos (by omega), if_pos (by omega), if_neg hlt, if_neg (by omega), if_pos (by omega)]
        congr 1; omega
  · rw [if_neg hk, if_neg (by omega), if_neg (by omega), if_neg (by omega)]
end
theorem ptr_info1 : (Try.prog.info? 62).map (·.size) = some 1 := by kernel_rfl
theorem ptr_info2 : (Try.prog.info? 45).map (·.size) = some 1 := by kernel_rfl
theorem en_info : (Try.prog.info? 62).map (fun i => (i.zero, i.size, i.bytes)) = some (some (.pointer none), 1, 8) := by kernel_rfl
theorem nd_info : (Try.prog.info? 45).map (fun i => (i.zero, i.size, i.bytes)) = some (some (.pointer none), 1, 8) := by kernel_rfl
end Go.Proofs.Ytgakapigpiaoiaa.Bt

namespace Go.Proofs.Ytgakapigpiaoiaa.Bt
open Go.RowKit Go.Proofs.Ytgakapigpiaoiaa
set_option maxHeartbeats 2000000 in
set_option maxRecDepth 100000 in
theorem delEntry_raw {w : World} {B i : Nat} {p : Option Nat} {a : Arr} {n n2 : Nat} {xs ys : List Value} (s : NdRaw w B i p a n n2 xs ys) (h1 : ∀ u ∈ xs, u.oneCell' = true) (j : Nat) (hj : j < n) (hn : n ≤ 100000) (t : Value) :
    Calls Try.prog 67 #[t, .pointer (some ⟨i, 0, none⟩), .int .i64 j] w fun e w' => e = .returned (.tuple #[]) ∧ NdRaw w' B i p a (n - 1) n2 (xs.eraseIdx j) ys ∧ Only (ids i a) w w' := by
  obtain ⟨g, hA⟩ : ∃ g, a.A1 = some ⟨g, 0, none⟩ := by
    cases hA : a.A1 with
    | none =>
      have := s.own1
      rw [hA] at this
      rcases this.2 with ⟨_, h0⟩ | ⟨g, cap, cur, hv, _⟩
      · omega
      · cases hv
    | some x => exact ⟨x.block, by rw [← (own_blk s.own1 hA).choose_spec.2.2.1]⟩
  obtain ⟨L, hL, hBg, hnc, hcm, hLc, hxs⟩ := own_list s.own1 hA
  have c1 : w.cell? ⟨i, 1, none⟩ = some (.slice (some ⟨g, 0, none⟩) n a.c1) := by rw [← hA]; exact s.blk.cell 1
  have hgi : g ≠ i := Blk.ne_ (show Blk w g _ _ from hL) s.blk (by decide)
  have HS := Lib.hid s
  have HL := Lib.hid hL
  have HX := Lib.hid hxs
  have H1 := Lib.hid h1
  have HLC := Lib.hid hLc
  have HA := Lib.hid hA
  have HC := Lib.hid hcm
  clear s hL hxs hA h1 hLc hcm
  have hj0 : (0 : Int) ≤ (j : Int) := by omega
  have hjn : (j : Int) < (n : Int) := by omega
  have hjl : (j : Int) ≤ (n : Int) := by omega
  have hj1 : (0 : Int) ≤ (j : Int) + 1 := by omega
  have hjl1 : (j : Int) + 1 ≤ (n : Int) := by omega
  have hn0 : (n : Int) ≤ 100000 := by omega
  have hnl : (n : Int) - 1 < (n : Int) := by omega
  have hnl1 : (1 : Int) ≤ (n : Int) := by omega
  have hnl2 : (0 : Int) ≤ (n : Int) - 1 := by omega
  have hnl3 : 0 < n := by omega
  have hnl4 : 1 ≤ n := by omega
  have hw1 : IntKind.i64.wrap ((j : Int) + 1) = (j : Int) + 1 := IntWalk.i64_in _ (by omega)
  have hw2 : ((j : Int) + 1).toNat = j + 1 := by omega
  have hw3 : IntKind.i64.wrap ((n : Int) - 1) = (n : Int) - 1 := IntWalk.i64_in _ (by omega)
  have hw4 : ((n : Int) - 1).toNat = n - 1 := by omega
  generalize hc : a.c1 = c at *
  have HCC := Lib.hid hc
  clear hc
  have SB := Lib.hid (show Blk w i 61 #[ptr p, (.slice (some ⟨g, 0, none⟩) n c), .slice a.A2 n2 a.c2] from by rw [← HA.out, ← HCC.out]; exact HS.out.blk)
  have EL := Lib.hid (show ((L.take n).drop (j + 1)).length = Nat.min (n - (j + 1)) (n - j) by have := HLC.out; simp only [List.length_drop, List.length_take]; show _ = min _ _; omega)
  have ES := Lib.hid (show ∀ q v, ((L.take n).drop (j + 1))[q]? = some v → w.cell? ((⟨g, j + 1, none⟩ : Addr).add q) = some v from fun q v hv => by
    rw [List.getElem?_drop, List.getElem?_take] at hv
    split at hv
    · have e1 : ((⟨g, j + 1, none⟩ : Addr).add q) = ⟨g, j + 1 + q, none⟩ := by unfold Addr.add; split <;> simp_all
      rw [e1, Blk.cell (show Blk w g _ _ from HL.out)]
      simpa using hv
    · cases hv)
  have EF := Lib.hid (show j + ((L.take n).drop (j + 1)).length ≤ L.length by have := HLC.out; simp only [List.length_drop, List.length_take]; omega)
  have E1 := Lib.hid (show ∀ v ∈ (L.take n).drop (j + 1), v.oneCell' = true from fun v hv => H1.out v (by rw [← HX.out]; exact List.mem_of_mem_drop hv))
  have hnnc : (n : Int) ≤ (c : Int) := by omega
  have hnl5 : (n : Int) - 1 ≤ (c : Int) := by omega
  have hnl6 : (n : Int) ≤ (c : Int) + 1 := by omega
  have hcj : ¬ c = j := by omega
  by_cases hcj1 : c = j + 1
  · subst hcj1
    have hnl7 : (n : Int) - 1 ≤ (j : Int) + 1 := by omega
    have hnl8 : (n : Int) ≤ (j : Int) + 1 + 1 := by omega
    have hnl9 : (n : Int) ≤ (j : Int) + 1 := by omega
    go_enter Try.func67, Try.ntmps67
    go_wp2_with fail
    have K := Lib.hid c1
    go_region_held3 (fun w' => w'.cell? ⟨i, 1, none⟩ = some (.slice (some ⟨g, 0, none⟩) n (j + 1))) (exact K.out)
      (first
        | (refine step_copyO rfl (.tmp 11) (.tmp 18) 58 58 rfl 62 Try.underlying58 ptr_info1 _ _ _ _ _ _ rfl rfl g j L 62 HL.out ((L.take n).drop (j + 1)) (by have e := EL.out; first | exact e | (rw [e]; show min _ _ = min _ _; omega)) (fun h0 => by have := EL.out; simp at h0; omega) (EF.out) (E1.out) ?_
           intro w4 hg4 on4
           have SB4 := Lib.hid ((Blk.drew SB.out).only on4.out (by simpa using hgi.symm))
           have K := Lib.hid (SB4.out.cell 1)))
    obtain ⟨L4, hL4⟩ : ∃ L4, L4 = splice L j ((L.take n).drop (j + 1)) := ⟨_, rfl⟩
    have LE := Lib.hid (show (L4.set (n - 1) (.pointer none)).take (n - 1) = xs.eraseIdx j by rw [hL4, ← HX.out]; exact splice_erase L n j _ (by omega) (by have := HLC.out; omega))
    have LC4 := Lib.hid (show L4.length = (j + 1) by rw [hL4, length_splice _ _ _ EF.out]; exact HLC.out)
    have GB4 := Lib.hid (show Blk w4 g 62 L4.toArray from by rw [hL4]; exact hg4.out)
    have ON4 := Lib.hid (show Only [g] w w4 from (Only.refl [g] w).drew.trans on4.out)
    clear hL4 hg4 on4 EF ES EL E1
    obtain ⟨v4, hv4⟩ : ∃ v, w4.cell? ⟨g, n - 1, none⟩ = some v := ⟨L4.toArray[n - 1]'(by have := LC4.out; simp; omega), by rw [GB4.out.cell]; exact Array.getElem?_eq_getElem _⟩
    have hf4 := GB4.out.frozen (n - 1)
    have c14 : w4.cell? ⟨i, 1, none⟩ = some (.slice (some ⟨g, 0, none⟩) n (j + 1)) := SB4.out.cell 1
    go_wp2_with fail
    go_still_tail 11, (by kernel_rfl)
    change wpList _ _ _ _ _ w4.drew
    have GB5 := Lib.hid (Blk.drew GB4.out)
    have SB5 := Lib.hid (Blk.drew SB4.out)
    have ON5 := Lib.hid ON4.out.drew
    have hv5 : w4.drew.cell? ⟨g, n - 1, none⟩ = some v4 := hv4
    have hf5 : w4.drew.frozen? ⟨g, n - 1, none⟩ = false := hf4
    clear GB4 SB4 ON4 hv4 hf4 c14
    generalize w4.drew = w5 at *
    have GB6 := Lib.hid (GB5.out.set_ (n - 1) (.pointer none))
    have SB6 := Lib.hid (SB5.out.far (p := ⟨g, n - 1, none⟩) (fun e => hgi e.symm) (.pointer none))
    have ON6 := Lib.hid (ON5.out.setCell (p := ⟨g, n - 1, none⟩) (.inl (by simp)) (.pointer none))
    have c16 : (w5.setCell ⟨g, n - 1, none⟩ (.pointer none)).cell? ⟨i, 1, none⟩ = some (.slice (some ⟨g, 0, none⟩) n (j + 1)) := SB6.out.cell 1
    go_wp2_with fail
    clear GB5 SB5 ON5 hv5 hf5
    generalize w5.setCell ⟨g, n - 1, none⟩ (.pointer none) = w6 at *
    go_still_tail 14, (by kernel_rfl)
    change wpList _ _ _ _ _ w6.drew
    have GB7 := Lib.hid (Blk.drew GB6.out)
    have SB7 := Lib.hid (Blk.drew SB6.out)
    have ON7 := Lib.hid ON6.out.drew
    clear GB6 SB6 ON6 c16
    generalize w6.drew = w7 at *
    have c17 : w7.cell? ⟨i, 1, none⟩ = some (.slice (some ⟨g, 0, none⟩) n (j + 1)) := SB7.out.cell 1
    have f17 := SB7.out.frozen 1
    go_wp2_with fail
    go_end0
    have ON8 := (ON7.out.mono (S' := [g, i]) (fun b _ hb => by simp at hb ⊢; exact .inl hb)).setCell (p := ⟨i, 1, none⟩) (.inl (by simp)) (.slice (some ⟨g, 0, none⟩) (n - 1) (j + 1))
    refine ⟨rfl, ⟨by rw [HA.out]; simpa [HCC.out] using SB7.out.set_ 1 (.slice (some ⟨g, 0, none⟩) (n - 1) (j + 1)), ?_, ?_, HS.out.ge⟩, ON8.mono (fun b _ hb => ?_)⟩
    · rw [HA.out, HCC.out]
      exact list_own (L := L4.set (n - 1) (.pointer none)) (by have := GB7.out.far (p := ⟨i, 1, none⟩) hgi (.slice (some ⟨g, 0, none⟩) (n - 1) (j + 1)); unfold Blk at this; simpa using this) hBg (by omega) HC.out (by simpa using LC4.out) LE.out
    · refine own_only HS.out.own2 ON8 (fun x hx hm => ?_)
      obtain ⟨cur, hcx, _⟩ := own_blk HS.out.own2 hx
      simp only [List.mem_cons, List.not_mem_nil, or_false] at hm
      rcases hm with e | e
      · exact Blk.ne_ hcx (show Blk w g 62 L.toArray from HL.out) (by decide) e
      · exact Blk.ne_ hcx HS.out.blk (by decide) e
    · simp only [List.mem_cons, List.not_mem_nil, or_false] at hb
      rcases hb with rfl | rfl
      · exact mem_ids.2 (.inr (.inl ⟨_, HA.out, rfl⟩))
      · exact mem_ids.2 (.inl rfl)
  · go_enter Try.func67, Try.ntmps67
    go_wp2_with fail
    have K := Lib.hid c1
    go_region_held3 (fun w' => w'.cell? ⟨i, 1, none⟩ = some (.slice (some ⟨g, 0, none⟩) n c)) (exact K.out)
      (first
        | (refine step_copyO rfl (.tmp 11) (.tmp 18) 58 58 rfl 62 Try.underlying58 ptr_info1 _ _ _ _ _ _ rfl rfl g j L 62 HL.out ((L.take n).drop (j + 1)) (by have e := EL.out; first | exact e | (rw [e]; show min _ _ = min _ _; omega)) (fun _ => ⟨rfl, _, rfl, ES.out⟩) (EF.out) (E1.out) ?_
           intro w4 hg4 on4
           have SB4 := Lib.hid ((Blk.drew SB.out).only on4.out (by simpa using hgi.symm))
           have K := Lib.hid (SB4.out.cell 1)))
    obtain ⟨L4, hL4⟩ : ∃ L4, L4 = splice L j ((L.take n).drop (j + 1)) := ⟨_, rfl⟩
    have LE := Lib.hid (show (L4.set (n - 1) (.pointer none)).take (n - 1) = xs.eraseIdx j by rw [hL4, ← HX.out]; exact splice_erase L n j _ (by omega) (by have := HLC.out; omega))
    have LC4 := Lib.hid (show L4.length = c by rw [hL4, length_splice _ _ _ EF.out]; exact HLC.out)
    have GB4 := Lib.hid (show Blk w4 g 62 L4.toArray from by rw [hL4]; exact hg4.out)
    have ON4 := Lib.hid (show Only [g] w w4 from (Only.refl [g] w).drew.trans on4.out)
    clear hL4 hg4 on4 EF ES EL E1
    obtain ⟨v4, hv4⟩ : ∃ v, w4.cell? ⟨g, n - 1, none⟩ = some v := ⟨L4.toArray[n - 1]'(by have := LC4.out; simp; omega), by rw [GB4.out.cell]; exact Array.getElem?_eq_getElem _⟩
    have hf4 := GB4.out.frozen (n - 1)
    have c14 : w4.cell? ⟨i, 1, none⟩ = some (.slice (some ⟨g, 0, none⟩) n c) := SB4.out.cell 1
    go_wp2_with fail
    go_still_tail 11, (by kernel_rfl)
    change wpList _ _ _ _ _ w4.drew
    have GB5 := Lib.hid (Blk.drew GB4.out)
    have SB5 := Lib.hid (Blk.drew SB4.out)
    have ON5 := Lib.hid ON4.out.drew
    have hv5 : w4.drew.cell? ⟨g, n - 1, none⟩ = some v4 := hv4
    have hf5 : w4.drew.frozen? ⟨g, n - 1, none⟩ = false := hf4
    clear GB4 SB4 ON4 hv4 hf4 c14
    generalize w4.drew = w5 at *
    have GB6 := Lib.hid (GB5.out.set_ (n - 1) (.pointer none))
    have SB6 := Lib.hid (SB5.out.far (p := ⟨g, n - 1, none⟩) (fun e => hgi e.symm) (.pointer none))
    have ON6 := Lib.hid (ON5.out.setCell (p := ⟨g, n - 1, none⟩) (.inl (by simp)) (.pointer none))
    have c16 : (w5.setCell ⟨g, n - 1, none⟩ (.pointer none)).cell? ⟨i, 1, none⟩ = some (.slice (some ⟨g, 0, none⟩) n c) := SB6.out.cell 1
    go_wp2_with fail
    clear GB5 SB5 ON5 hv5 hf5
    generalize w5.setCell ⟨g, n - 1, none⟩ (.pointer none) = w6 at *
    go_still_tail 14, (by kernel_rfl)
    change wpList _ _ _ _ _ w6.drew
    have GB7 := Lib.hid (Blk.drew GB6.out)
    have SB7 := Lib.hid (Blk.drew SB6.out)
    have ON7 := Lib.hid ON6.out.drew
    clear GB6 SB6 ON6 c16
    generalize w6.drew = w7 at *
    have c17 : w7.cell? ⟨i, 1, none⟩ = some (.slice (some ⟨g, 0, none⟩) n c) := SB7.out.cell 1
    have f17 := SB7.out.frozen 1
    go_wp2_with fail
    go_end0
    have ON8 := (ON7.out.mono (S' := [g, i]) (fun b _ hb => by simp at hb ⊢; exact .inl hb)).setCell (p := ⟨i, 1, none⟩) (.inl (by simp)) (.slice (some ⟨g, 0, none⟩) (n - 1) c)
    refine ⟨rfl, ⟨by rw [HA.out]; simpa [HCC.out] using SB7.out.set_ 1 (.slice (some ⟨g, 0, none⟩) (n - 1) c), ?_, ?_, HS.out.ge⟩, ON8.mono (fun b _ hb => ?_)⟩
    · rw [HA.out, HCC.out]
      exact list_own (L := L4.set (n - 1) (.pointer none)) (by have := GB7.out.far (p := ⟨i, 1, none⟩) hgi (.slice (some ⟨g, 0, none⟩) (n - 1) c); unfold Blk at this; simpa using this) hBg (by omega) HC.out (by simpa using LC4.out) LE.out
    · refine own_only HS.out.own2 ON8 (fun x hx hm => ?_)
      obtain ⟨cur, hcx, _⟩ := own_blk HS.out.own2 hx
      simp only [List.mem_cons, List.not_mem_nil, or_false] at hm
      rcases hm with e | e
      · exact Blk.ne_ hcx (show Blk w g 62 L.toArray from HL.out) (by decide) e
      · exact Blk.ne_ hcx HS.out.blk (by decide) e
    · simp only [List.mem_cons, List.not_mem_nil, or_false] at hb
      rcases hb with rfl | rfl
      · exact mem_ids.2 (.inr (.inl ⟨_, HA.out, rfl⟩))
      · exact mem_ids.2 (.inl rfl)
set_option maxHeartbeats 2000000 in
set_option maxRecDepth 100000 in
theorem delChild_raw {w : World} {B i : Nat} {p : Option Nat} {a : Arr} {n n2 : Nat} {xs ys : List Value} (s : NdRaw w B i p a n2 n ys xs) (h1 : ∀ u ∈ xs, u.oneCell' = true) (j : Nat) (hj : j < n) (hn : n ≤ 100000) (t : Value) :
    Calls Try.prog 74 #[t, .pointer (some ⟨i, 0, none⟩), .int .i64 j] w fun e w' => e = .returned (.tuple #[]) ∧ NdRaw w' B i p a n2 (n - 1) ys (xs.eraseIdx j) ∧ Only (ids i a) w w' := by
  obtain ⟨g, hA⟩ : ∃ g, a.A2 = some ⟨g, 0, none⟩ := by
    cases hA : a.A2 with
    | none =>
      have := s.own2
      rw [hA] at this
      rcases this.2 with ⟨_, h0⟩ | ⟨g, cap, cur, hv, _⟩
      · omega
      · cases hv
    | some x => exact ⟨x.block, by rw [← (own_blk s.own2 hA).choose_spec.2.2.1]⟩
  obtain ⟨L, hL, hBg, hnc, hcm, hLc, hxs⟩ := own_list s.own2 hA
  have c1 : w.cell? ⟨i, 2, none⟩ = some (.slice (some ⟨g, 0, none⟩) n a.c2) := by rw [← hA]; exact s.blk.cell 2
  have hgi : g ≠ i := Blk.ne_ (show Blk w g _ _ from hL) s.blk (by decide)
  have HS := Lib.hid s
  have HL := Lib.hid hL
  have HX := Lib.hid hxs
  have H1 := Lib.hid h1
  have HLC := Lib.hid hLc
  have HA := Lib.hid hA
  have HC := Lib.hid hcm
  clear s hL hxs hA h1 hLc hcm
  have hj0 : (0 : Int) ≤ (j : Int) := by omega
  have hjn : (j : Int) < (n : Int) := by omega
  have hjl : (j : Int) ≤ (n : Int) := by omega
  have hj1 : (0 : Int) ≤ (j : Int) + 1 := by omega
  have hjl1 : (j : Int) + 1 ≤ (n : Int) := by omega
  have hn0 : (n : Int) ≤ 100000 := by omega
  have hnl : (n : Int) - 1 < (n : Int) := by omega
  have hnl1 : (1 : Int) ≤ (n : Int) := by omega
  have hnl2 : (0 : Int) ≤ (n : Int) - 1 := by omega
  have hnl3 : 0 < n := by omega
  have hnl4 : 1 ≤ n := by omega
  have hw1 : IntKind.i64.wrap ((j : Int) + 1) = (j : Int) + 1 := IntWalk.i64_in _ (by omega)
  have hw2 : ((j : Int) + 1).toNat = j + 1 := by omega
  have hw3 : IntKind.i64.wrap ((n : Int) - 1) = (n : Int) - 1 := IntWalk.i64_in _ (by omega)
  have hw4 : ((n : Int) - 1).toNat = n - 1 := by omega
  generalize hc : a.c2 = c at *
  have HCC := Lib.hid hc
  clear hc
  have SB := Lib.hid (show Blk w i 61 #[ptr p, .slice a.A1 n2 a.c1, (.slice (some ⟨g, 0, none⟩) n c)] from by rw [← HA.out, ← HCC.out]; exact HS.out.blk)
  have EL := Lib.hid (show ((L.take n).drop (j + 1)).length = Nat.min (n - (j + 1)) (n - j) by have := HLC.out; simp only [List.length_drop, List.length_take]; show _ = min _ _; omega)
  have ES := Lib.hid (show ∀ q v, ((L.take n).drop (j + 1))[q]? = some v → w.cell? ((⟨g, j + 1, none⟩ : Addr).add q) = some v from fun q v hv => by
    rw [List.getElem?_drop, List.getElem?_take] at hv
    split at hv
    · have e1 : ((⟨g, j + 1, none⟩ : Addr).add q) = ⟨g, j + 1 + q, none⟩ := by unfold Addr.add; split <;> simp_all
      rw [e1, Blk.cell (show Blk w g _ _ from HL.out)]
      simpa using hv
    · cases hv)
  have EF := Lib.hid (show j + ((L.take n).drop (j + 1)).length ≤ L.length by have := HLC.out; simp only [List.length_drop, List.length_take]; omega)
  have E1 := Lib.hid (show ∀ v ∈ (L.take n).drop (j + 1), v.oneCell' = true from fun v hv => H1.out v (by rw [← HX.out]; exact List.mem_of_mem_drop hv))
  have hnnc : (n : Int) ≤ (c : Int) := by omega
  have hnl5 : (n : Int) - 1 ≤ (c : Int) := by omega
  have hnl6 : (n : Int) ≤ (c : Int) + 1 := by omega
  have hcj : ¬ c = j := by omega
  by_cases hcj1 : c = j + 1
  · subst hcj1
    have hnl7 : (n : Int) - 1 ≤ (j : Int) + 1 := by omega
    have hnl8 : (n : Int) ≤ (j : Int) + 1 + 1 := by omega
    have hnl9 : (n : Int) ≤ (j : Int) + 1 := by omega
    go_enter Try.func74, Try.ntmps74
    go_wp2_with fail
    have K := Lib.hid c1
    go_region_held3 (fun w' => w'.cell? ⟨i, 2, none⟩ = some (.slice (some ⟨g, 0, none⟩) n (j + 1))) (exact K.out)
      (first
        | (refine step_copyO rfl (.tmp 18) (.tmp 25) 59 59 rfl 45 Try.underlying59 ptr_info2 _ _ _ _ _ _ rfl rfl g j L 45 HL.out ((L.take n).drop (j + 1)) (by have e := EL.out; first | exact e | (rw [e]; show min _ _ = min _ _; omega)) (fun h0 => by have := EL.out; simp at h0; omega) (EF.out) (E1.out) ?_
           intro w4 hg4 on4
           have SB4 := Lib.hid ((Blk.drew SB.out).only on4.out (by simpa using hgi.symm))
           have K := Lib.hid (SB4.out.cell 2)))
    obtain ⟨L4, hL4⟩ : ∃ L4, L4 = splice L j ((L.take n).drop (j + 1)) := ⟨_, rfl⟩
    have LE := Lib.hid (show (L4.set (n - 1) (.pointer none)).take (n - 1) = xs.eraseIdx j by rw [hL4, ← HX.out]; exact splice_erase L n j _ (by omega) (by have := HLC.out; omega))
    have LC4 := Lib.hid (show L4.length = (j + 1) by rw [hL4, length_splice _ _ _ EF.out]; exact HLC.out)
    have GB4 := Lib.hid (show Blk w4 g 45 L4.toArray from by rw [hL4]; exact hg4.out)
    have ON4 := Lib.hid (show Only [g] w w4 from (Only.refl [g] w).drew.trans on4.out)
    clear hL4 hg4 on4 EF ES EL E1
    obtain ⟨v4, hv4⟩ : ∃ v, w4.cell? ⟨g, n - 1, none⟩ = some v := ⟨L4.toArray[n - 1]'(by have := LC4.out; simp; omega), by rw [GB4.out.cell]; exact Array.getElem?_eq_getElem _⟩
    have hf4 := GB4.out.frozen (n - 1)
    have c14 : w4.cell? ⟨i, 2, none⟩ = some (.slice (some ⟨g, 0, none⟩) n (j + 1)) := SB4.out.cell 2
    go_wp2_with fail
    go_still_tail 11, (by kernel_rfl)
    change wpList _ _ _ _ _ w4.drew
    have GB5 := Lib.hid (Blk.drew GB4.out)
    have SB5 := Lib.hid (Blk.drew SB4.out)
    have ON5 := Lib.hid ON4.out.drew
    have hv5 : w4.drew.cell? ⟨g, n - 1, none⟩ = some v4 := hv4
    have hf5 : w4.drew.frozen? ⟨g, n - 1, none⟩ = false := hf4
    clear GB4 SB4 ON4 hv4 hf4 c14
    generalize w4.drew = w5 at *
    have GB6 := Lib.hid (GB5.out.set_ (n - 1) (.pointer none))
    have SB6 := Lib.hid (SB5.out.far (p := ⟨g, n - 1, none⟩) (fun e => hgi e.symm) (.pointer none))
    have ON6 := Lib.hid (ON5.out.setCell (p := ⟨g, n - 1, none⟩) (.inl (by simp)) (.pointer none))
    have c16 : (w5.setCell ⟨g, n - 1, none⟩ (.pointer none)).cell? ⟨i, 2, none⟩ = some (.slice (some ⟨g, 0, none⟩) n (j + 1)) := SB6.out.cell 2
    go_wp2_with fail
    clear GB5 SB5 ON5 hv5 hf5
    generalize w5.setCell ⟨g, n - 1, none⟩ (.pointer none) = w6 at *
    go_still_tail 14, (by kernel_rfl)
    change wpList _ _ _ _ _ w6.drew
    have GB7 := Lib.hid (Blk.drew GB6.out)
    have SB7 := Lib.hid (Blk.drew SB6.out)
    have ON7 := Lib.hid ON6.out.drew
    clear GB6 SB6 ON6 c16
    generalize w6.drew = w7 at *
    have c17 : w7.cell? ⟨i, 2, none⟩ = some (.slice (some ⟨g, 0, none⟩) n (j + 1)) := SB7.out.cell 2
    have f17 := SB7.out.frozen 2
    go_wp2_with fail
    go_end0
    have ON8 := (ON7.out.mono (S' := [g, i]) (fun b _ hb => by simp at hb ⊢; exact .inl hb)).setCell (p := ⟨i, 2, none⟩) (.inl (by simp)) (.slice (some ⟨g, 0, none⟩) (n - 1) (j + 1))
    refine ⟨rfl, ⟨by rw [HA.out]; simpa [HCC.out] using SB7.out.set_ 2 (.slice (some ⟨g, 0, none⟩) (n - 1) (j + 1)), ?_, ?_, HS.out.ge⟩, ON8.mono (fun b _ hb => ?_)⟩
    · refine own_only HS.out.own1 ON8 (fun x hx hm => ?_)
      obtain ⟨cur, hcx, _⟩ := own_blk HS.out.own1 hx
      simp only [List.mem_cons, List.not_mem_nil, or_false] at hm
      rcases hm with e | e
      · exact Blk.ne_ hcx (show Blk w g 45 L.toArray from HL.out) (by decide) e
      · exact Blk.ne_ hcx HS.out.blk (by decide) e
    · rw [HA.out, HCC.out]
      exact list_own (L := L4.set (n - 1) (.pointer none)) (by have := GB7.out.far (p := ⟨i, 2, none⟩) hgi (.slice (some ⟨g, 0, none⟩) (n - 1) (j + 1)); unfold Blk at this; simpa using this) hBg (by omega) HC.out (by simpa using LC4.out) LE.out
    · simp only [List.mem_cons, List.not_mem_nil, or_false] at hb
      rcases hb with rfl | rfl
      · exact mem_ids.2 (.inr (.inr ⟨_, HA.out, rfl⟩))
      · exact mem_ids.2 (.inl rfl)
  · go_enter Try.func74, Try.ntmps74
    go_wp2_with fail
    have K := Lib.hid c1
    go_region_held3 (fun w' => w'.cell? ⟨i, 2, none⟩ = some (.slice (some ⟨g, 0, none⟩) n c)) (exact K.out)
      (first
        | (refine step_copyO rfl (.tmp 18) (.tmp 25) 59 59 rfl 45 Try.underlying59 ptr_info2 _ _ _ _ _ _ rfl rfl g j L 45 HL.out ((L.take n).drop (j + 1)) (by have e := EL.out; first | exact e | (rw [e]; show min _ _ = min _ _; omega)) (fun _ => ⟨rfl, _, rfl, ES.out⟩) (EF.out) (E1.out) ?_
           intro w4 hg4 on4
           have SB4 := Lib.hid ((Blk.drew SB.out).only on4.out (by simpa using hgi.symm))
           have K := Lib.hid (SB4.out.cell 2)))
    obtain ⟨L4, hL4⟩ : ∃ L4, L4 = splice L j ((L.take n).drop (j + 1)) := ⟨_, rfl⟩
    have LE := Lib.hid (show (L4.set (n - 1) (.pointer none)).take (n - 1) = xs.eraseIdx j by rw [hL4, ← HX.out]; exact splice_erase L n j _ (by omega) (by have := HLC.out; omega))
    have LC4 := Lib.hid (show L4.length = c by rw [hL4, length_splice _ _ _ EF.out]; exact HLC.out)
    have GB4 := Lib.hid (show Blk w4 g 45 L4.toArray from by rw [hL4]; exact hg4.out)
    have ON4 := Lib.hid (show Only [g] w w4 from (Only.refl [g] w).drew.trans on4.out)
    clear hL4 hg4 on4 EF ES EL E1
    obtain ⟨v4, hv4⟩ : ∃ v, w4.cell? ⟨g, n - 1, none⟩ = some v := ⟨L4.toArray[n - 1]'(by have := LC4.out; simp; omega), by rw [GB4.out.cell]; exact Array.getElem?_eq_getElem _⟩
    have hf4 := GB4.out.frozen (n - 1)
    have c14 : w4.cell? ⟨i, 2, none⟩ = some (.slice (some ⟨g, 0, none⟩) n c) := SB4.out.cell 2
    go_wp2_with fail
    go_still_tail 11, (by kernel_rfl)
    change wpList _ _ _ _ _ w4.drew
    have GB5 := Lib.hid (Blk.drew GB4.out)
    have SB5 := Lib.hid (Blk.drew SB4.out)
    have ON5 := Lib.hid ON4.out.drew
    have hv5 : w4.drew.cell? ⟨g, n - 1, none⟩ = some v4 := hv4
    have hf5 : w4.drew.frozen? ⟨g, n - 1, none⟩ = false := hf4
    clear GB4 SB4 ON4 hv4 hf4 c14
    generalize w4.drew = w5 at *
    have GB6 := Lib.hid (GB5.out.set_ (n - 1) (.pointer none))
    have SB6 := Lib.hid (SB5.out.far (p := ⟨g, n - 1, none⟩) (fun e => hgi e.symm) (.pointer none))
    have ON6 := Lib.hid (ON5.out.setCell (p := ⟨g, n - 1, none⟩) (.inl (by simp)) (.pointer none))
    have c16 : (w5.setCell ⟨g, n - 1, none⟩ (.pointer none)).cell? ⟨i, 2, none⟩ = some (.slice (some ⟨g, 0, none⟩) n c) := SB6.out.cell 2
    go_wp2_with fail
    clear GB5 SB5 ON5 hv5 hf5
    generalize w5.setCell ⟨g, n - 1, none⟩ (.pointer none) = w6 at *
    go_still_tail 14, (by kernel_rfl)
    change wpList _ _ _ _ _ w6.drew
    have GB7 := Lib.hid (Blk.drew GB6.out)
    have SB7 := Lib.hid (Blk.drew SB6.out)
    have ON7 := Lib.hid ON6.out.drew
    clear GB6 SB6 ON6 c16
    generalize w6.drew = w7 at *
    have c17 : w7.cell? ⟨i, 2, none⟩ = some (.slice (some ⟨g, 0, none⟩) n c) := SB7.out.cell 2
    have f17 := SB7.out.frozen 2
    go_wp2_with fail
    go_end0
    have ON8 := (ON7.out.mono (S' := [g, i]) (fun b _ hb => by simp at hb ⊢; exact .inl hb)).setCell (p := ⟨i, 2, none⟩) (.inl (by simp)) (.slice (some ⟨g, 0, none⟩) (n - 1) c)
    refine ⟨rfl, ⟨by rw [HA.out]; simpa [HCC.out] using SB7.out.set_ 2 (.slice (some ⟨g, 0, none⟩) (n - 1) c), ?_, ?_, HS.out.ge⟩, ON8.mono (fun b _ hb => ?_)⟩
    · refine own_only HS.out.own1 ON8 (fun x hx hm => ?_)
      obtain ⟨cur, hcx, _⟩ := own_blk HS.out.own1 hx
      simp only [List.mem_cons, List.not_mem_nil, or_false] at hm
      rcases hm with e | e
      · exact Blk.ne_ hcx (show Blk w g 45 L.toArray from HL.out) (by decide) e
      · exact Blk.ne_ hcx HS.out.blk (by decide) e
    · rw [HA.out, HCC.out]
      exact list_own (L := L4.set (n - 1) (.pointer none)) (by have := GB7.out.far (p := ⟨i, 2, none⟩) hgi (.slice (some ⟨g, 0, none⟩) (n - 1) c); unfold Blk at this; simpa using this) hBg (by omega) HC.out (by simpa using LC4.out) LE.out
    · simp only [List.mem_cons, List.not_mem_nil, or_false] at hb
      rcases hb with rfl | rfl
      · exact mem_ids.2 (.inr (.inr ⟨_, HA.out, rfl⟩))
      · exact mem_ids.2 (.inl rfl)
end Go.Proofs.Ytgakapigpiaoiaa.Bt

namespace Go.Proofs.Ytgakapigpiaoiaa.Bt
open Go.RowKit Go.Proofs.Ytgakapigpiaoiaa
def setPar (σ : Store) (ks : List Nat) (p : Option Nat) : Store := fun j => if j ∈ ks then (σ j).map (fun d => { d with par := p }) else σ j
theorem setPar_nil (σ : Store) (p : Option Nat) : setPar σ [] p = σ := by funext j; simp [setPar]
theorem setPar_in {σ : Store} {ks : List Nat} {p : Option Nat} {j : Nat} {d : ND} (hj : j ∈ ks) (h : σ j = some d) : setPar σ ks p j = some { d with par := p } := by simp [setPar, hj, h]
theorem setPar_out {σ : Store} {ks : List Nat} {p : Option Nat} {j : Nat} (hj : j ∉ ks) : setPar σ ks p j = σ j := by simp [setPar, hj]
theorem setPar_snoc {σ : Store} {ks : List Nat} {p : Option Nat} {k : Nat} {d : ND} (hk : k ∉ ks) (h : σ k = some d) : setPar σ (ks ++ [k]) p = upd (setPar σ ks p) k (some { d with par := p }) := by
  funext j
  by_cases hj : j = k
  · subst hj; rw [upd_at, setPar_in (by simp) h]
  · rw [upd_ne _ _ hj]; unfold setPar; simp [hj]
theorem updA_self (α : Nat → Arr) (i : Nat) : updA α i (α i) = α := by funext j; unfold updA; split <;> simp_all
section
variable {w w' : World} {B i : Nat} {H : Hd} {o : Ord} {σ : Store} {α : Nat → Arr} {d : ND}
theorem only_cell (w : World) (i j : Nat) (u : Value) : Only [i] w (w.setCell ⟨i, j, none⟩ u) := (Only.refl [i] w).setCell (p := ⟨i, j, none⟩) (.inl (by simp)) u
theorem St.setPar (s : St w B H o σ α) (h : σ i = some d) (p : Option Nat) : St (w.setCell ⟨i, 0, none⟩ (ptr p)) B H o (upd σ i (some { d with par := p })) α := by
  have n := s.nd i d h
  have on := only_cell w i 0 (ptr p)
  have hn : ∀ x, (α i).A1 = some x → x.block ∉ [i] := by
    intro x hx hm
    simp only [List.mem_singleton] at hm
    obtain ⟨cur, hc, _⟩ := own_blk n.own1 hx
    exact Blk.ne_ hc n.blk (by decide) hm
  have hn2 : ∀ x, (α i).A2 = some x → x.block ∉ [i] := by
    intro x hx hm
    simp only [List.mem_singleton] at hm
    obtain ⟨cur, hc, _⟩ := own_blk n.own2 hx
    exact Blk.ne_ hc n.blk (by decide) hm
  have := s.put h (w' := w.setCell ⟨i, 0, none⟩ (ptr p)) (on.mono (fun b _ hb => by simp only [List.mem_singleton] at hb; subst hb; exact mem_ids.2 (.inl rfl))) (d' := { d with par := p }) (a' := α i)
    ⟨by simpa using n.blk.set_ 0 (ptr p), own_only n.own1 on hn, own_only n.own2 on hn2, n.ge⟩ (Fresh.refl _ _) (fun e he => .inl he)
  rwa [updA_self] at this
set_option maxHeartbeats 1000000 in
set_option maxRecDepth 100000 in
theorem setParent_walk (s : St w B H o σ α) (h : σ i = some d) (hk : ∀ k ∈ d.ks, ∃ c, σ k = some c) (hnd : d.ks.Nodup) (hi : i ∉ d.ks) (hn : d.ks.length ≤ 100000) (p : Nat) :
    Calls Try.prog 82 #[.slice (α i).A2 d.ks.length (α i).c2, .pointer (some ⟨p, 0, none⟩)] w fun e w' => e = .returned (.tuple #[]) ∧ St w' B H o (setPar σ d.ks (some p)) α ∧ Below B w w' := by
  have HS := Lib.hid s
  have HH := Lib.hid h
  have HK := Lib.hid hk
  have HD := Lib.hid hnd
  clear s h hk hnd
  generalize hl : d.ks.length = n at *
  have HN := Lib.hid hl
  clear hl
  go_enter Try.func82, Try.ntmps82
  go_wp2_with fail
  go_loopw [8] (fun x wr => ∃ k : Nat, k ≤ n ∧ x = .int .i64 k ∧ St wr B H o (Bt.setPar σ (d.ks.take k) (some p)) α ∧ Below B w wr) (fun x _ => n - (intOf x).toNat)
  case atStart => exact ⟨0, Nat.zero_le _, rfl, by simpa [setPar_nil] using HS.out, Below.refl _ _⟩
  case round =>
    obtain ⟨k, hkn, rfl, hst, hw⟩ := hrel
    by_cases hlt : k < n
    · obtain ⟨c, hc⟩ : ∃ c, d.ks[k]? = some c := ⟨_, List.getElem?_eq_getElem (by have := HN.out; omega)⟩
      have hit : Bt.setPar σ (d.ks.take k) (some p) i = some d := by rw [setPar_out (fun hm => hi (List.mem_of_mem_take hm))]; exact HH.out
      obtain ⟨g, hA, hg, _⟩ := hst.kid hit hc
      obtain ⟨cd, hcd⟩ := HK.out c (List.mem_of_getElem? hc)
      have hcn : c ∉ d.ks.take k := by
        have hnd := HD.out
        intro hm
        obtain ⟨j, hj, e⟩ := List.mem_iff_getElem.1 hm
        simp only [List.length_take] at hj
        rw [List.getElem_take] at e
        obtain ⟨h1, h2⟩ := List.getElem?_eq_some_iff.1 hc
        have := (List.pairwise_iff_getElem.1 hnd) j k (by omega) h1 (by omega)
        exact this (e.trans h2.symm)
      have hct : Bt.setPar σ (d.ks.take k) (some p) c = some cd := by rw [setPar_out hcn]; exact hcd
      obtain ⟨hp0, _, _, hpf⟩ := hst.cells hct
      have hpf0 := hpf 0
      have e1 : d.ks.take (k + 1) = d.ks.take k ++ [c] := by rw [List.take_add_one, hc]; rfl
      have F := Lib.hid (show St (wr.setCell ⟨c, 0, none⟩ (ptr (some p))) B H o (Bt.setPar σ (d.ks.take (k + 1)) (some p)) α ∧ Below B w (wr.setCell ⟨c, 0, none⟩ (ptr (some p))) from ⟨by
        rw [e1, setPar_snoc hcn hcd]; exact hst.setPar hct (some p), hw.setCell (hst.nd c cd hct).ge _⟩)
      clear hst hw hit hcd hcn hct hc e1 hpf
      rw [hA]
      go_wp2_with fail
      go_roundw
      case rel => exact ⟨k + 1, by omega, by go_num, F.out.1, F.out.2⟩
      case measure => simp [intOf]; omega
    · obtain rfl : k = n := by omega
      have F := Lib.hid (show St wr B H o (Bt.setPar σ d.ks (some p)) α ∧ Below B w wr from ⟨by rw [List.take_of_length_le (by have := HN.out; omega)] at hst; exact hst, hw⟩)
      clear hst hw
      go_wp2_with fail
      go_end0
      exact ⟨rfl, F.out⟩
end
end Go.Proofs.Ytgakapigpiaoiaa.Bt

namespace Go.Proofs.Ytgakapigpiaoiaa.Bt
open Go.RowKit Go.Proofs.Ytgakapigpiaoiaa
theorem setIf_get (cs : Array Value) (i : Nat) (v : Value) (h : i < cs.size) : (cs.setIfInBounds i v)[i]? = some v := by simp [h]
theorem own_neB {w : World} {base : Nat} {e t : TypeId} {size n cap n' gb : Nat} {A : Option Addr} {xs : List Value} {cs : Array Value} (h : w.ownsRow base e size (.slice A n cap) n' xs) (hb : Blk w gb t cs) (ht : t ≠ e) : (Value.slice A n cap).ownBlock ≠ some gb := by
  intro he
  rcases h.2 with ⟨e1, _⟩ | ⟨g, c, cur, hv, _, hg, _⟩
  · rw [e1] at he; simp [Value.ownBlock] at he
  · rw [hv] at he
    simp only [Value.ownBlock, Option.some.injEq] at he
    subst he
    exact Blk.ne_ hb (show Blk w g e cur from hg) ht rfl
theorem ownBlock_slice {A : Option Addr} {n cap g : Nat} (h : (Value.slice A n cap).ownBlock = some g) : ∃ a, A = some a ∧ a.block = g := by
  cases A with
  | none => simp [Value.ownBlock] at h
  | some a => simp only [Value.ownBlock, Option.some.injEq] at h; exact ⟨a, rfl, h⟩
section
variable {w w1 w' : World} {B i : Nat} {H : Hd} {o : Ord} {σ : Store} {α : Nat → Arr} {d : ND}
theorem grown_only {g : Option Nat} {S : List Nat} (gr : w.grownBy w1 g) (hg : ∀ k, g = some k → k ∈ S) : Only S w w1 :=
  ⟨gr.os, gr.tape, gr.output, gr.size, fun b hb hn => gr.block b hb (fun e => hn (hg b e.symm))⟩
theorem St.newNode (s : St w B H o σ α) {A : Option Addr} {n c : Nat} {es : List En} (own : w1.ownsRow B 62 1 (.slice A n c) n (enRow es)) (gr : w.grownBy w1 none) (hA : ∀ x, A = some x → w.heap.size ≤ x.block) (hn : es.length = n) (he : ∀ e ∈ es, EnAt w B e) (p : Option Nat) (lv : Nat) :
    St (w1.alloc (.cells #[ptr p, .slice A n c, .slice none 0 0] 61)) B H o (upd σ w1.heap.size (some ⟨p, es, [], lv⟩)) (updA α w1.heap.size ⟨A, c, none, 0⟩) ∧ σ w1.heap.size = none := by
  have on : Only [] w (w1.alloc (.cells #[ptr p, .slice A n c, .slice none 0 0] 61)) := (grown_only gr (fun k h => by cases h)).alloc _
  refine s.add gr.size on (a' := ⟨A, c, none, 0⟩) ⟨?_, ?_, ⟨rfl, .inl ⟨rfl, rfl⟩⟩, ?_⟩ hA (fun x h => by cases h) (fun e h => ⟨(he e h).1.only on (by simp), (he e h).2⟩)
  · simp only [List.length_nil]; rw [hn]; exact Blk.new _ _ _
  · simp only; rw [hn]; exact own.alloc _
  · exact Nat.le_trans (Nat.le_trans s.hdB (Nat.le_of_lt s.hd.lt)) gr.size
theorem St.setEs (s : St w B H o σ α) (h : σ i = some d) {A : Option Addr} {n c : Nat} {es : List En} (own : w1.ownsRow B 62 1 (.slice A n c) n (enRow es)) {g : Option Nat} (gr : w.grownBy w1 g) (hg : ∀ k, g = some k → ∃ x, (α i).A1 = some x ∧ x.block = k) (hA : ∀ x, A = some x → (∃ y, (α i).A1 = some y ∧ y.block = x.block) ∨ w.heap.size ≤ x.block) (hn : es.length = n) (he : ∀ e ∈ es, e ∈ d.es ∨ EnAt w B e) :
    St (w1.setCell ⟨i, 1, none⟩ (.slice A n c)) B H o (upd σ i (some { d with es := es })) (updA α i { α i with A1 := A, c1 := c }) ∧ Below B w (w1.setCell ⟨i, 1, none⟩ (.slice A n c)) := by
  have ni := s.nd i d h
  have on1 : Only (ids i (α i)) w w1 := grown_only gr (fun k hk => mem_ids.2 (.inr (.inl (hg k hk))))
  have on : Only (ids i (α i)) w (w1.setCell ⟨i, 1, none⟩ (.slice A n c)) := on1.setCell (p := ⟨i, 1, none⟩) (.inl (mem_ids.2 (.inl rfl))) _
  have hi1 : w1.heap[i]? = w.heap[i]? := gr.block i ni.lt (fun e => by
    obtain ⟨x, hx, hb⟩ := hg i e.symm
    obtain ⟨cur, hc, _⟩ := own_blk ni.own1 hx
    exact Blk.ne_ hc ni.blk (by decide) hb)
  have hb1 : Blk w1 i 61 _ := ni.blk.same hi1
  have own2 : w1.ownsRow B 45 1 (.slice (α i).A2 d.ks.length (α i).c2) d.ks.length (ndRow d.ks) := own_only ni.own2 (S := g.toList) (grown_only gr (fun k hk => by subst hk; simp)) (fun x hx hm => by
    obtain ⟨y, hy, hb⟩ := hg x.block (by simpa using hm)
    obtain ⟨cur, hc, _⟩ := own_blk ni.own1 hy
    obtain ⟨cur2, hc2, _⟩ := own_blk ni.own2 hx
    exact Blk.ne_ hc2 hc (by decide) hb.symm)
  refine ⟨s.put h on (d' := { d with es := es }) (a' := { α i with A1 := A, c1 := c }) ⟨?_, ?_, ?_, ni.ge⟩ ⟨hA, fun x hx => .inl ⟨x, hx, rfl⟩⟩ (fun e hm => (he e hm).imp id (fun en => ⟨en.1.only on (ni.not_ids en.1 (by decide) (by decide) (by decide)), en.2⟩)), on.below (fun b hb => (ni.ids_ b hb).1) (Nat.le_trans s.hdB (Nat.le_of_lt s.hd.lt))⟩
  · simp only; rw [hn]; simpa using hb1.set_ 1 (.slice A n c)
  · simp only; rw [hn]
    exact own_only own (only_cell w1 i 1 _) (fun x hx hm => by
      simp only [List.mem_singleton] at hm
      obtain ⟨cur, hc, _⟩ := own_blk own hx
      exact Blk.ne_ hc hb1 (by decide) hm)
  · exact own_only own2 (only_cell w1 i 1 _) (fun x hx hm => by
      simp only [List.mem_singleton] at hm
      obtain ⟨cur, hc, _⟩ := own_blk own2 hx
      exact Blk.ne_ hc hb1 (by decide) hm)
theorem St.setKs (s : St w B H o σ α) (h : σ i = some d) {A : Option Addr} {n c : Nat} {ks : List Nat} (own : w1.ownsRow B 45 1 (.slice A n c) n (ndRow ks)) {g : Option Nat} (gr : w.grownBy w1 g) (hg : ∀ k, g = some k → ∃ x, (α i).A2 = some x ∧ x.block = k) (hA : ∀ x, A = some x → (∃ y, (α i).A2 = some y ∧ y.block = x.block) ∨ w.heap.size ≤ x.block) (hn : ks.length = n) :
    St (w1.setCell ⟨i, 2, none⟩ (.slice A n c)) B H o (upd σ i (some { d with ks := ks })) (updA α i { α i with A2 := A, c2 := c }) ∧ Below B w (w1.setCell ⟨i, 2, none⟩ (.slice A n c)) := by
  have ni := s.nd i d h
  have on1 : Only (ids i (α i)) w w1 := grown_only gr (fun k hk => mem_ids.2 (.inr (.inr (hg k hk))))
  have on : Only (ids i (α i)) w (w1.setCell ⟨i, 2, none⟩ (.slice A n c)) := on1.setCell (p := ⟨i, 2, none⟩) (.inl (mem_ids.2 (.inl rfl))) _
  have hi1 : w1.heap[i]? = w.heap[i]? := gr.block i ni.lt (fun e => by
    obtain ⟨x, hx, hb⟩ := hg i e.symm
    obtain ⟨cur, hc, _⟩ := own_blk ni.own2 hx
    exact Blk.ne_ hc ni.blk (by decide) hb)
  have hb1 : Blk w1 i 61 _ := ni.blk.same hi1
  have own1 : w1.ownsRow B 62 1 (.slice (α i).A1 d.es.length (α i).c1) d.es.length (enRow d.es) := own_only ni.own1 (S := g.toList) (grown_only gr (fun k hk => by subst hk; simp)) (fun x hx hm => by
    obtain ⟨y, hy, hb⟩ := hg x.block (by simpa using hm)
    obtain ⟨cur, hc, _⟩ := own_blk ni.own2 hy
    obtain ⟨cur2, hc2, _⟩ := own_blk ni.own1 hx
    exact Blk.ne_ hc2 hc (by decide) hb.symm)
  refine ⟨s.put h on (d' := { d with ks := ks }) (a' := { α i with A2 := A, c2 := c }) ⟨?_, ?_, ?_, ni.ge⟩ ⟨fun x hx => .inl ⟨x, hx, rfl⟩, hA⟩ (fun e hm => .inl hm), on.below (fun b hb => (ni.ids_ b hb).1) (Nat.le_trans s.hdB (Nat.le_of_lt s.hd.lt))⟩
  · simp only; rw [hn]; simpa using hb1.set_ 2 (.slice A n c)
  · exact own_only own1 (only_cell w1 i 2 _) (fun x hx hm => by
      simp only [List.mem_singleton] at hm
      obtain ⟨cur, hc, _⟩ := own_blk own1 hx
      exact Blk.ne_ hc hb1 (by decide) hm)
  · simp only; rw [hn]
    exact own_only own (only_cell w1 i 2 _) (fun x hx hm => by
      simp only [List.mem_singleton] at hm
      obtain ⟨cur, hc, _⟩ := own_blk own hx
      exact Blk.ne_ hc hb1 (by decide) hm)
theorem own_src {e : TypeId} {n c g : Nat} {xs ys : List Value} {A : Option Addr} (own : w.ownsRow B e 1 (.slice A n c) n xs) (hA : A = some ⟨g, 0, none⟩) (j m c' : Nat) (hy : ∀ q u, ys[q]? = some u → xs[j + q]? = some u) (hm : ys.length = m) : Src w 1 (some ⟨g, j, none⟩) m c' ys := by
  refine ⟨by rw [hm, Nat.mul_one], (fun h => by cases h), fun a ha q u hu => ?_⟩
  injection ha with ha
  subst ha
  have e1 : ((⟨g, j, none⟩ : Addr).add q) = ⟨g, j + q, none⟩ := by unfold Addr.add; split <;> simp_all
  obtain ⟨L, hL, _, _, _, _, ht⟩ := own_list own hA
  have h1 := hy q u hu
  rw [← ht, List.getElem?_take] at h1
  split at h1
  · rw [e1, Blk.cell (show Blk w g _ _ from hL)]
    simpa using h1
  · cases h1
theorem own_nil (w : World) (B : Nat) (e : TypeId) : w.ownsRow B e 1 (.slice none 0 0) 0 [] := ⟨rfl, .inl ⟨rfl, rfl⟩⟩
theorem enRow_take {es : List En} (k q : Nat) (u : Value) (h : (enRow (es.take k))[q]? = some u) : (enRow es)[0 + q]? = some u := by
  simp only [enRow, List.getElem?_map, List.getElem?_take] at h ⊢
  split at h
  · rw [Nat.zero_add]; exact h
  · cases h
theorem enRow_drop {es : List En} (k q : Nat) (u : Value) (h : (enRow (es.drop k))[q]? = some u) : (enRow es)[k + q]? = some u := by
  simp only [enRow, List.getElem?_map, List.getElem?_drop] at h ⊢
  exact h
theorem ndRow_take {ks : List Nat} (k q : Nat) (u : Value) (h : (ndRow (ks.take k))[q]? = some u) : (ndRow ks)[0 + q]? = some u := by
  simp only [ndRow, List.getElem?_map, List.getElem?_take] at h ⊢
  split at h
  · rw [Nat.zero_add]; exact h
  · cases h
theorem ndRow_drop {ks : List Nat} (k q : Nat) (u : Value) (h : (ndRow (ks.drop k))[q]? = some u) : (ndRow ks)[k + q]? = some u := by
  simp only [ndRow, List.getElem?_map, List.getElem?_drop] at h ⊢
  exact h
theorem own_fresh {e : TypeId} {n c : Nat} {A : Option Addr} {xs : List Value} {sz : Nat} (own : w1.ownsRow B e 1 (.slice A n c) n xs) (hn : 0 < n) (ob : (Value.slice A n c).ownBlock = none ∨ (Value.slice A n c).ownBlock = some sz) : A = some ⟨sz, 0, none⟩ := by
  rcases own.2 with ⟨_, h0⟩ | ⟨g, cap, cur, hv, _⟩
  · omega
  · injection hv with h1 _ _
    subst h1
    rcases ob with ob | ob
    · simp [Value.ownBlock] at ob
    · simp only [Value.ownBlock, Option.some.injEq] at ob
      rw [ob]
end
end Go.Proofs.Ytgakapigpiaoiaa.Bt
