/-
  The red-black tree: Keys and Values.
-/
import Derived.Test.YtmhkknobgcdkkaaBases
import Derived.Test.YtmhkknobgcdkkaaRbIt
import Derived.Test.YtmhkknobgcdkkaaRbMake
import Derived.Test.YtmhkknobgcdkkaaRows0
namespace Go.Proofs.Ytmhkknobgcdkkaa.Rb
open Go.RowKit Go.Proofs.Ytmhkknobgcdkkaa
@[go_sem] theorem rb_method_Next (n : Nat) (a : Addr) (w : World) : (method (n + 1) 78 (.pointer (some a)) "Next").run Try.prog w = .ok (92, .pointer (some a)) w := by kernel_rfl
@[go_sem] theorem rb_method_Key (n : Nat) (a : Addr) (w : World) : (method (n + 1) 78 (.pointer (some a)) "Key").run Try.prog w = .ok (93, .pointer (some a)) w := by kernel_rfl
@[go_sem] theorem rb_method_Value (n : Nat) (a : Addr) (w : World) : (method (n + 1) 78 (.pointer (some a)) "Value").run Try.prog w = .ok (100, .pointer (some a)) w := by kernel_rfl

set_option maxRecDepth 100000 in
theorem rbKeys_walk {o : Ord} {ob B tb : Nat} {w : World} {t : BT} (h : RbAt o ob B w tb t) (hl : t.count ≤ 100000) :
    Calls Try.prog 86 #[.pointer (some ⟨tb, 0, none⟩)] w fun e w' =>
      e = .returned (.slice (some ⟨w.heap.size, 0, none⟩) t.count t.count) ∧ Blk w' w.heap.size 20 (rowI (t.kvs.map Prod.fst)).toArray ∧ Below w.heap.size w w' := by
  obtain ⟨hh2, _, _⟩ := h.st.hc.header
  simp only [rb_os] at hh2
  have hmk := fun w => makeI_run w t.count hl
  have hkb : ∀ b ∈ ob :: tb :: t.ids, b < w.heap.size := h.lt
  have HK := Lib.hid hkb
  have H := Lib.hid h
  clear h hkb
  go_enter Try.func86, Try.ntmps86
  go_wp2_with fail
  refine (rbIterator_walk _ tb).mono ?_
  rintro e w1 ⟨rfl, rfl⟩
  have e0 := partI_zero (t.kvs.map Prod.fst)
  rw [List.length_map, BT.kvs_length] at e0
  rw [← e0]
  have hz : ((w.alloc (.cells (partI (t.kvs.map Prod.fst) 0).toArray 20)).alloc (.cells #[.pointer (some ⟨tb, 0, none⟩), .pointer none, .int .u8 0] 76)).heap.size = w.heap.size + 2 := by simp
  have at1 : RbAt o ob B ((w.alloc (.cells (partI (t.kvs.map Prod.fst) 0).toArray 20)).alloc (.cells #[.pointer (some ⟨tb, 0, none⟩), .pointer none, .int .u8 0] 76)) tb t := H.out.below (((Below.refl _ _).alloc (Nat.le_refl _) _).alloc (by simp) _)
  have b1 : Below w.heap.size w ((w.alloc (.cells (partI (t.kvs.map Prod.fst) 0).toArray 20)).alloc (.cells #[.pointer (some ⟨tb, 0, none⟩), .pointer none, .int .u8 0] 76)) := ((Below.refl _ _).alloc (Nat.le_refl _) _).alloc (by simp) _
  have k1 : Blk ((w.alloc (.cells (partI (t.kvs.map Prod.fst) 0).toArray 20)).alloc (.cells #[.pointer (some ⟨tb, 0, none⟩), .pointer none, .int .u8 0] 76)) w.heap.size 20 (partI (t.kvs.map Prod.fst) 0).toArray := Blk.alloc (Blk.new _ _ _) _
  have HZ := Lib.hid hz
  have AT1 := Lib.hid at1
  have B1 := Lib.hid b1
  have K1 := Lib.hid k1
  clear hz at1 b1 k1 e0 hmk
  generalize ((w.alloc (.cells (partI (t.kvs.map Prod.fst) 0).toArray 20)).alloc (.cells #[.pointer (some ⟨tb, 0, none⟩), .pointer none, .int .u8 0] 76)) = w1 at *
  have H2 := Lib.hid (show RbItAt o ob B (w1.alloc (.cells #[.pointer (some ⟨tb, 0, none⟩), .pointer none, .int .u8 0] 76)) tb w1.heap.size t 0 from ⟨AT1.out.below ((Below.refl _ _).alloc (Nat.le_refl _) _), Blk.new _ _ _, by omega, by have := H.out.lo.1; have := HK.out ob (by simp); have := HZ.out; omega⟩)
  have B2 := Lib.hid (B1.out.alloc (by have := HZ.out; omega) (.cells #[.pointer (some ⟨tb, 0, none⟩), .pointer none, .int .u8 0] 76))
  have K2 := Lib.hid (Blk.alloc K1.out (.cells #[.pointer (some ⟨tb, 0, none⟩), .pointer none, .int .u8 0] 76))
  clear AT1 B1 K1
  go_wp2_with fail
  go_loopw [5] (fun i wr => ∃ k : Nat, k ≤ t.count ∧ i = .int .i64 k ∧ RbItAt o ob B wr tb w1.heap.size t k ∧ Blk wr w.heap.size 20 (partI (t.kvs.map Prod.fst) k).toArray ∧ Below w.heap.size w wr) (fun i _ => t.count - (intOf i).toNat)
  case atStart => exact ⟨0, Nat.zero_le _, rfl, H2.out, K2.out, B2.out⟩
  case round =>
    clear hh2
    obtain ⟨k, hk, rfl, hi, hb, hw⟩ := hrel
    have c1 := rbItNext_walk hi
    by_cases hlt : k < t.count
    · rw [decide_eq_true hlt] at c1
      have C1 := Lib.hid c1
      have Hb := Lib.hid hb
      have Hw := Lib.hid hw
      clear c1 hi hb hw
      go_wp2_with fail
      refine C1.out.mono ?_
      rintro e w3 ⟨rfl, h3, on3⟩
      have b3 := Hb.out.only on3 (by simp only [List.mem_singleton]; have := HZ.out; omega)
      have hw3 := Hw.out.trans (on3.below (fun b hb => by simp only [List.mem_singleton] at hb; have := HZ.out; omega) Hw.out.size)
      rw [show min (k + 1) (t.count + 1) = k + 1 by omega] at h3
      obtain ⟨p, hp⟩ : ∃ p, t.kvs[k]? = some p := ⟨_, List.getElem?_eq_getElem (by rw [BT.kvs_length]; exact hlt)⟩
      obtain ⟨pk, pv⟩ := p
      have c2 := rbItKey_walk h3 hp
      have hf := b3.frozen k
      have hc := b3.cell k
      have hsz : (partI (t.kvs.map Prod.fst) k).toArray.size = t.count := by simp [partI_length, BT.kvs_length]
      have b4 := Blk.set_ b3 k (.iface 3 (.int .i64 (Prod.fst (pk, pv))))
      rw [partI_set (by rw [List.getElem?_map, hp]; rfl)] at b4
      simp only [] at b4
      have on4 : Only [w.heap.size] w3 (w3.setCell ⟨w.heap.size, k, none⟩ (.iface 3 (.int .i64 pk))) := (Only.refl _ _).setCell (.inl (by simp)) _
      have h4 := h3.only on4 (fun b hb hm => by
        simp only [List.mem_singleton] at hb
        subst hb
        simp only [List.mem_cons] at hm
        rcases hm with e | e | e | e
        · have := HK.out ob (by simp); omega
        · have := HK.out tb (by simp); omega
        · have := HZ.out; omega
        · have := HK.out _ (List.mem_cons_of_mem _ (List.mem_cons_of_mem _ e)); omega)
      have hw4 := hw3.trans (on4.below (fun b hb => by simp only [List.mem_singleton] at hb; omega) hw3.size)
      have F4 := Lib.hid (show RbItAt o ob B _ tb w1.heap.size t (k + 1) ∧ Blk _ _ _ _ ∧ Below w.heap.size w _ from ⟨h4, b4, hw4⟩)
      clear h4 hw4 on4
      have C2 := Lib.hid c2
      have H3 := Lib.hid h3
      have B4 := Lib.hid b4
      have W3 := Lib.hid hw3
      clear C1 c2 h3 b4 hw3 on3 Hb Hw
      clear hp
      go_wp2_with fail
      refine C2.out.mono ?_
      rintro e w4 ⟨rfl, rfl⟩
      go_wp2_with fail
      go_roundw
      case rel => exact ⟨k + 1, by omega, by go_num, F4.out⟩
      case measure => simp [intOf]; omega
    · have hkn : k = t.count := by omega
      rw [decide_eq_false hlt] at c1
      have C1 := Lib.hid c1
      have Hb := Lib.hid hb
      have Hw := Lib.hid hw
      clear c1 hi hb hw
      go_wp2_with fail
      refine C1.out.mono ?_
      rintro e w3 ⟨rfl, h3, on3⟩
      have b3 := Hb.out.only on3 (by simp only [List.mem_singleton]; have := HZ.out; omega)
      have hw3 := Hw.out.trans (on3.below (fun b hb => by simp only [List.mem_singleton] at hb; have := HZ.out; omega) Hw.out.size)
      have e1 : k = (t.kvs.map Prod.fst).length := by rw [List.length_map, BT.kvs_length]; exact hkn
      rw [e1, partI_all] at b3
      have B3 := Lib.hid b3
      have W3 := Lib.hid hw3
      clear C1 b3 hw3 on3 Hb Hw h3 e1
      go_wp2_with fail
      go_ret
      exact ⟨rfl, B3.out, W3.out⟩

set_option maxRecDepth 100000 in
theorem rbValues_walk {o : Ord} {ob B tb : Nat} {w : World} {t : BT} (h : RbAt o ob B w tb t) (hl : t.count ≤ 100000) :
    Calls Try.prog 91 #[.pointer (some ⟨tb, 0, none⟩)] w fun e w' =>
      e = .returned (.slice (some ⟨w.heap.size, 0, none⟩) t.count t.count) ∧ Blk w' w.heap.size 20 (rowI (t.kvs.map Prod.snd)).toArray ∧ Below w.heap.size w w' := by
  obtain ⟨hh2, _, _⟩ := h.st.hc.header
  simp only [rb_os] at hh2
  have hmk := fun w => makeI_run w t.count hl
  have hkb : ∀ b ∈ ob :: tb :: t.ids, b < w.heap.size := h.lt
  have HK := Lib.hid hkb
  have H := Lib.hid h
  clear h hkb
  go_enter Try.func91, Try.ntmps91
  go_wp2_with fail
  refine (rbIterator_walk _ tb).mono ?_
  rintro e w1 ⟨rfl, rfl⟩
  have e0 := partI_zero (t.kvs.map Prod.snd)
  rw [List.length_map, BT.kvs_length] at e0
  rw [← e0]
  have hz : ((w.alloc (.cells (partI (t.kvs.map Prod.snd) 0).toArray 20)).alloc (.cells #[.pointer (some ⟨tb, 0, none⟩), .pointer none, .int .u8 0] 76)).heap.size = w.heap.size + 2 := by simp
  have at1 : RbAt o ob B ((w.alloc (.cells (partI (t.kvs.map Prod.snd) 0).toArray 20)).alloc (.cells #[.pointer (some ⟨tb, 0, none⟩), .pointer none, .int .u8 0] 76)) tb t := H.out.below (((Below.refl _ _).alloc (Nat.le_refl _) _).alloc (by simp) _)
  have b1 : Below w.heap.size w ((w.alloc (.cells (partI (t.kvs.map Prod.snd) 0).toArray 20)).alloc (.cells #[.pointer (some ⟨tb, 0, none⟩), .pointer none, .int .u8 0] 76)) := ((Below.refl _ _).alloc (Nat.le_refl _) _).alloc (by simp) _
  have k1 : Blk ((w.alloc (.cells (partI (t.kvs.map Prod.snd) 0).toArray 20)).alloc (.cells #[.pointer (some ⟨tb, 0, none⟩), .pointer none, .int .u8 0] 76)) w.heap.size 20 (partI (t.kvs.map Prod.snd) 0).toArray := Blk.alloc (Blk.new _ _ _) _
  have HZ := Lib.hid hz
  have AT1 := Lib.hid at1
  have B1 := Lib.hid b1
  have K1 := Lib.hid k1
  clear hz at1 b1 k1 e0 hmk
  generalize ((w.alloc (.cells (partI (t.kvs.map Prod.snd) 0).toArray 20)).alloc (.cells #[.pointer (some ⟨tb, 0, none⟩), .pointer none, .int .u8 0] 76)) = w1 at *
  have H2 := Lib.hid (show RbItAt o ob B (w1.alloc (.cells #[.pointer (some ⟨tb, 0, none⟩), .pointer none, .int .u8 0] 76)) tb w1.heap.size t 0 from ⟨AT1.out.below ((Below.refl _ _).alloc (Nat.le_refl _) _), Blk.new _ _ _, by omega, by have := H.out.lo.1; have := HK.out ob (by simp); have := HZ.out; omega⟩)
  have B2 := Lib.hid (B1.out.alloc (by have := HZ.out; omega) (.cells #[.pointer (some ⟨tb, 0, none⟩), .pointer none, .int .u8 0] 76))
  have K2 := Lib.hid (Blk.alloc K1.out (.cells #[.pointer (some ⟨tb, 0, none⟩), .pointer none, .int .u8 0] 76))
  clear AT1 B1 K1
  go_wp2_with fail
  go_loopw [5] (fun i wr => ∃ k : Nat, k ≤ t.count ∧ i = .int .i64 k ∧ RbItAt o ob B wr tb w1.heap.size t k ∧ Blk wr w.heap.size 20 (partI (t.kvs.map Prod.snd) k).toArray ∧ Below w.heap.size w wr) (fun i _ => t.count - (intOf i).toNat)
  case atStart => exact ⟨0, Nat.zero_le _, rfl, H2.out, K2.out, B2.out⟩
  case round =>
    clear hh2
    obtain ⟨k, hk, rfl, hi, hb, hw⟩ := hrel
    have c1 := rbItNext_walk hi
    by_cases hlt : k < t.count
    · rw [decide_eq_true hlt] at c1
      have C1 := Lib.hid c1
      have Hb := Lib.hid hb
      have Hw := Lib.hid hw
      clear c1 hi hb hw
      go_wp2_with fail
      refine C1.out.mono ?_
      rintro e w3 ⟨rfl, h3, on3⟩
      have b3 := Hb.out.only on3 (by simp only [List.mem_singleton]; have := HZ.out; omega)
      have hw3 := Hw.out.trans (on3.below (fun b hb => by simp only [List.mem_singleton] at hb; have := HZ.out; omega) Hw.out.size)
      rw [show min (k + 1) (t.count + 1) = k + 1 by omega] at h3
      obtain ⟨p, hp⟩ : ∃ p, t.kvs[k]? = some p := ⟨_, List.getElem?_eq_getElem (by rw [BT.kvs_length]; exact hlt)⟩
      obtain ⟨pk, pv⟩ := p
      have c2 := rbItValue_walk h3 hp
      have hf := b3.frozen k
      have hc := b3.cell k
      have hsz : (partI (t.kvs.map Prod.snd) k).toArray.size = t.count := by simp [partI_length, BT.kvs_length]
      have b4 := Blk.set_ b3 k (.iface 3 (.int .i64 (Prod.snd (pk, pv))))
      rw [partI_set (by rw [List.getElem?_map, hp]; rfl)] at b4
      simp only [] at b4
      have on4 : Only [w.heap.size] w3 (w3.setCell ⟨w.heap.size, k, none⟩ (.iface 3 (.int .i64 pv))) := (Only.refl _ _).setCell (.inl (by simp)) _
      have h4 := h3.only on4 (fun b hb hm => by
        simp only [List.mem_singleton] at hb
        subst hb
        simp only [List.mem_cons] at hm
        rcases hm with e | e | e | e
        · have := HK.out ob (by simp); omega
        · have := HK.out tb (by simp); omega
        · have := HZ.out; omega
        · have := HK.out _ (List.mem_cons_of_mem _ (List.mem_cons_of_mem _ e)); omega)
      have hw4 := hw3.trans (on4.below (fun b hb => by simp only [List.mem_singleton] at hb; omega) hw3.size)
      have F4 := Lib.hid (show RbItAt o ob B _ tb w1.heap.size t (k + 1) ∧ Blk _ _ _ _ ∧ Below w.heap.size w _ from ⟨h4, b4, hw4⟩)
      clear h4 hw4 on4
      have C2 := Lib.hid c2
      have H3 := Lib.hid h3
      have B4 := Lib.hid b4
      have W3 := Lib.hid hw3
      clear C1 c2 h3 b4 hw3 on3 Hb Hw
      clear hp
      go_wp2_with fail
      refine C2.out.mono ?_
      rintro e w4 ⟨rfl, rfl⟩
      go_wp2_with fail
      go_roundw
      case rel => exact ⟨k + 1, by omega, by go_num, F4.out⟩
      case measure => simp [intOf]; omega
    · have hkn : k = t.count := by omega
      rw [decide_eq_false hlt] at c1
      have C1 := Lib.hid c1
      have Hb := Lib.hid hb
      have Hw := Lib.hid hw
      clear c1 hi hb hw
      go_wp2_with fail
      refine C1.out.mono ?_
      rintro e w3 ⟨rfl, h3, on3⟩
      have b3 := Hb.out.only on3 (by simp only [List.mem_singleton]; have := HZ.out; omega)
      have hw3 := Hw.out.trans (on3.below (fun b hb => by simp only [List.mem_singleton] at hb; have := HZ.out; omega) Hw.out.size)
      have e1 : k = (t.kvs.map Prod.snd).length := by rw [List.length_map, BT.kvs_length]; exact hkn
      rw [e1, partI_all] at b3
      have B3 := Lib.hid b3
      have W3 := Lib.hid hw3
      clear C1 b3 hw3 on3 Hb Hw h3 e1
      go_wp2_with fail
      go_ret
      exact ⟨rfl, B3.out, W3.out⟩

end Go.Proofs.Ytmhkknobgcdkkaa.Rb
