/-
  Single nodes: the node of a number, the nodes at a place.
-/
import Derived.Test.YtmgjpppplapgpaaFloorPure
import Derived.Test.YtmgjpppplapgpaaBases
import Derived.Test.YtmgjpppplapgpaaIter
namespace Go.Proofs.Ytmgjpppplapgpaa
open Go.RowKit

theorem nodeIs_at {L : Lay} {w : World} {H : Hd} {t : BT} (s : St L w H [] t) (p : Nat) : NodeIs w L t.ord[p]? t.kvs[p]? := by
  rcases Nat.lt_or_ge p t.count with h | h
  · obtain ⟨c, i, l, k, v, b, r, hs, h1, h2, _, _⟩ := s.at_place h
    rw [h1, h2]
    exact hs.nodeIs
  · rw [List.getElem?_eq_none (by rw [BT.ord_length]; exact h), List.getElem?_eq_none (by rw [BT.kvs_length]; exact h)]
    exact .inl ⟨rfl, rfl⟩

theorem seek_nodeIs {L : Lay} {w : World} {H : Hd} {o : Ord} {k : Int} {t : BT} (s : St L w H [] t) (h : Asc o t.kvs) : NodeIs w L (seekId o k t) (look o k t.kvs) := by
  rcases seek_look (o := o) (k := k) (c := []) h with ⟨c', i, l, k', v, b, r, e1, e2, _, _⟩ | ⟨e1, e2⟩
  · have e3 : seekId o k t = some i := by unfold seekId; rw [e1]; rfl
    rw [e2, e3]
    exact (seek_st s e1).nodeIs
  · have e3 : seekId o k t = none := by unfold seekId; rw [e1]; rfl
    rw [e2, e3]
    exact .inl ⟨rfl, rfl⟩

/-- The pair behind the one of a number, and the one ahead of it. -/
def nextP (o : Ord) (k : Int) (l : KV) : Option (Int × Int) := if hasK o k l then l[plc o k l + 1]? else none
def prevP (o : Ord) (k : Int) (l : KV) : Option (Int × Int) := if hasK o k l then (if plc o k l = 0 then none else l[plc o k l - 1]?) else none
/-- The node that is found stands at the number's place. -/
theorem seek_ord {o : Ord} {k : Int} {c : Ctx} {t : BT} (h : Asc o t.kvs) (hh : hasK o k t.kvs = true) : ((seek o k c t).bind fun x => x.2.root) = t.ord[plc o k t.kvs]? := by
  induction t generalizing c with
  | nil => simp [BT.kvs, hasK] at hh
  | node i l k' v' b r ihl ihr =>
    have hm := asc_mid.1 (show Asc o (l.kvs ++ (k', v') :: r.kvs) from h)
    have ek : (BT.node i l k' v' b r).kvs = l.kvs ++ (k', v') :: r.kvs := rfl
    have eo : (BT.node i l k' v' b r).ord = l.ord ++ i :: r.ord := rfl
    have hll : l.ord.length = l.kvs.length := by rw [BT.ord_length, BT.kvs_length]
    rw [ek] at hh ⊢
    rw [eo]
    rcases Int.lt_trichotomy (o.rk k) (o.rk k') with hlt | he | hgt
    · rw [seek_left hlt]
      have hp : plc o k (l.kvs ++ (k', v') :: r.kvs) = plc o k l.kvs := plc_before (by omega)
      have hle := plc_le o k l.kvs
      rcases Nat.lt_or_ge (plc o k l.kvs) l.kvs.length with h1 | h1
      · obtain ⟨p, hpp⟩ : ∃ p, l.kvs[plc o k l.kvs]? = some p := ⟨_, List.getElem?_eq_getElem h1⟩
        have h2 : hasK o k l.kvs = true := by
          rw [hasK_of hpp]
          rw [hasK_of (p := p) (by rw [hp, List.getElem?_append_left h1, hpp])] at hh
          exact hh
        rw [hp, List.getElem?_append_left (by omega)]
        exact ihl hm.1 h2
      · have h2 : (l.kvs ++ (k', v') :: r.kvs)[plc o k (l.kvs ++ (k', v') :: r.kvs)]? = some (k', v') := by rw [hp, show plc o k l.kvs = l.kvs.length by omega]; simp
        rw [hasK_of h2] at hh
        simp at hh
        omega
    · rw [seek_here he]
      have hp : plc o k (l.kvs ++ (k', v') :: r.kvs) = l.kvs.length := by rw [plc_ahead (fun p hp => by rw [he]; exact hm.2.2.1 p hp)]; simp [plc, he]
      rw [hp, ← hll]
      simp [BT.root]
    · rw [seek_right hgt]
      have hp : plc o k (l.kvs ++ (k', v') :: r.kvs) = l.kvs.length + (plc o k r.kvs + 1) := by rw [plc_ahead (fun p hp => by have := hm.2.2.1 p hp; omega)]; simp [plc, hgt]
      have hg : (l.kvs ++ (k', v') :: r.kvs)[plc o k (l.kvs ++ (k', v') :: r.kvs)]? = r.kvs[plc o k r.kvs]? := by rw [hp, List.getElem?_append_right (by omega)]; simp
      have h2 : hasK o k r.kvs = true := by
        unfold hasK at hh ⊢
        rw [hg] at hh
        exact hh
      rw [hp, ← hll, List.getElem?_append_right (by omega)]
      rw [ihr hm.2.1 h2]
      simp
theorem seekId_at {L : Lay} {w : World} {H : Hd} {o : Ord} {k : Int} {t : BT} {i : Nat} (_s : St L w H [] t) (h : Asc o t.kvs) (hh : hasK o k t.kvs = true) (hi : t.ord[plc o k t.kvs]? = some i) : seekId o k t = some i := by
  unfold seekId; rw [seek_ord h hh, hi]

end Go.Proofs.Ytmgjpppplapgpaa
