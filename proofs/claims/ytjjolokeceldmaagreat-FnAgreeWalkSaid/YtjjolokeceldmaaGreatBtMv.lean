import Derived.Test.YtjjolokeceldmaaGreatBtStates
import Derived.Test.YtjjolokeceldmaaGreatBases
namespace Go.Proofs.YtjjolokeceldmaaGreat.Bt
open Go.RowKit Go.Proofs.YtjjolokeceldmaaGreat
structure BTr where
 m : Int
 H : Hd
 σ : Store
 α : Nat → Arr
 kvs : KV
def BTr.count (t : BTr) : Nat := t.kvs.length
theorem BTr.kvs_length (t : BTr) : t.kvs.length = t.count := rfl
structure BtIt (o : Ord) (ob B : Nat) (w : World) (tb itb : Nat) (t : BTr) (p : Nat) : Prop where
 at_ : BtItAt t.m o B w t.H t.σ t.α t.kvs itb p
 tb_ : t.H.tb = tb
 ob_ : t.H.ob = ob
structure BtLt (o : Ord) (B : Nat) (itb : Nat) (t : BTr) (C : Nat) : Prop where
 ex : ∃ v : World, v.heap.size ≤ C ∧ St v B t.H o t.σ t.α
 it : itb < C
section
variable {o : Ord} {ob B tb itb p C : Nat} {w w' v : World} {t : BTr} {H : Hd} {σ : Store} {α : Nat → Arr}
theorem own_belowC {e : TypeId} {n c n' C : Nat} {A : Option Addr} {xs ys : List Value} (h : w.ownsRow B e 1 (.slice A n c) n' xs) (h0 : v.ownsRow B e 1 (.slice A n c) n' ys) (hv : v.heap.size ≤ C) (k : Below C w w') : w'.ownsRow B e 1 (.slice A n c) n' xs := by
 refine ⟨h.1, ?_⟩
 rcases h.2 with h1 | ⟨g, cap, cur, hs, hb, hg, h2⟩
 ·exact .inl h1
 ·injection hs with ha _ _
  obtain ⟨cur0, hc0, _⟩ := own_blk h0 ha
  have hlt : g < C := Nat.lt_of_lt_of_le (Blk.lt hc0) hv
  exact .inr ⟨g, cap, cur, by rw [ha]; simp_all, hb, (k.block g hlt).trans hg, h2⟩
theorem St.belowC (s : St w B H o σ α) (s0 : St v B H o σ α) (hv : v.heap.size ≤ C) (k : Below C w w') : St w' B H o σ α := by
 have blk : ∀ {g : Nat} {ty ty' : TypeId} {cs cs' : Array Value}, Blk w g ty cs → Blk v g ty' cs' → Blk w' g ty cs := fun hb h0 => hb.same (k.block _ (Nat.lt_of_lt_of_le h0.lt hv))
 exact ⟨blk s.hd s0.hd, s.hdB, blk s.ord s0.ord, fun j d hj => ⟨blk (s.nd j d hj).blk (s0.nd j d hj).blk, own_belowC (s.nd j d hj).own1 (s0.nd j d hj).own1 hv k, own_belowC (s.nd j d hj).own2 (s0.nd j d hj).own2 hv k, (s.nd j d hj).ge⟩,
  fun j d e hj he => ⟨blk (s.en j d e hj he).1 (s0.en j d e hj he).1, (s.en j d e hj he).2⟩, s.ne1, s.ne2⟩
theorem BtIt.belowC (h : BtIt o ob B w tb itb t p) (k : Below C w w') (hC : BtLt o B itb t C) : BtIt o ob B w' tb itb t p := by
 obtain ⟨v, hv, s0⟩ := hC.ex
 have a := h.at_.at_
 have a' : BtAt t.m o B w' t.H t.σ t.α t.kvs := ⟨a.st.belowC s0 hv k, a.rooted, a.size, a.asc, a.fine, a.hm, a.m3⟩
 refine ⟨⟨a', ?_, h.at_.lo⟩, h.tb_, h.ob_⟩
 have kb : ∀ {cs : Array Value}, Blk w itb 57 cs → Blk w' itb 57 cs := fun hb => hb.same (k.block _ hC.it)
 rcases h.at_.it with ⟨e, hb⟩ | ⟨e, hb⟩ | ⟨rt, i, e, L, R, hr, hp, sp, hb⟩
 ·exact .inl ⟨e, kb hb⟩
 ·exact .inr (.inl ⟨e, kb hb⟩)
 ·exact .inr (.inr ⟨rt, i, e, L, R, hr, hp, sp, kb hb⟩)
theorem BtIt.ltC (h : BtIt o ob B w tb itb t p) : BtLt o B itb t w.heap.size := by
 obtain ⟨n, e, q, hb⟩ := h.at_.blk
 exact ⟨⟨w, Nat.le_refl _, h.at_.at_.st⟩, hb.lt⟩
theorem BtIt.le (h : BtIt o ob B w tb itb t p) : p ≤ t.count + 1 := h.at_.le
theorem BtIt.lo (h : BtIt o ob B w tb itb t p) : B ≤ itb := h.at_.lo
theorem BtIt.drewN (h : BtIt o ob B w tb itb t p) (n : Nat) : BtIt o ob B (w.drewN n) tb itb t p := ⟨h.at_.drewN n, h.tb_, h.ob_⟩
theorem btiItNext_walk (h : BtIt o ob B w tb itb t p) :
 Calls Tryz.prog 113 #[.pointer (some ⟨itb, 0, none⟩)] w fun e w' => e = .returned (.bool (decide (p < t.count))) ∧ BtIt o ob B w' tb itb t (min (p + 1) (t.count + 1)) ∧ Only [itb] w w' :=
 (btItNext_walk h.at_).mono fun _ _ k => ⟨k.1, ⟨k.2.1, h.tb_, h.ob_⟩, k.2.2⟩
theorem btiItPrev_walk (h : BtIt o ob B w tb itb t p) :
 Calls Tryz.prog 150 #[.pointer (some ⟨itb, 0, none⟩)] w fun e w' => e = .returned (.bool (decide (1 < p))) ∧ BtIt o ob B w' tb itb t (p - 1) ∧ Only [itb] w w' :=
 (btItPrev_walk h.at_).mono fun _ _ k => ⟨k.1, ⟨k.2.1, h.tb_, h.ob_⟩, k.2.2⟩
theorem btiItBegin_walk (h : BtIt o ob B w tb itb t p) :
 Calls Tryz.prog 146 #[.pointer (some ⟨itb, 0, none⟩)] w fun e w' => e = .returned (.tuple #[]) ∧ BtIt o ob B w' tb itb t 0 ∧ Only [itb] w w' :=
 (btItBegin_walk h.at_).mono fun _ _ k => ⟨k.1, ⟨k.2.1, h.tb_, h.ob_⟩, k.2.2⟩
theorem btiItEnd_walk (h : BtIt o ob B w tb itb t p) :
 Calls Tryz.prog 121 #[.pointer (some ⟨itb, 0, none⟩)] w fun e w' => e = .returned (.tuple #[]) ∧ BtIt o ob B w' tb itb t (t.count + 1) ∧ Only [itb] w w' :=
 (btItEnd_walk h.at_).mono fun _ _ k => ⟨k.1, ⟨k.2.1, h.tb_, h.ob_⟩, k.2.2⟩
theorem btiItKey_walk {q : Nat} {k v : Int} (h : BtIt o ob B w tb itb t (q + 1)) (hq : t.kvs[q]? = some (k, v)) :
 Calls Tryz.prog 114 #[.pointer (some ⟨itb, 0, none⟩)] w fun e w' => e = .returned (.iface 3 (.int .i64 k)) ∧ w' = w := btItKey_walk h.at_ hq
theorem btiItValue_walk {q : Nat} {k v : Int} (h : BtIt o ob B w tb itb t (q + 1)) (hq : t.kvs[q]? = some (k, v)) :
 Calls Tryz.prog 118 #[.pointer (some ⟨itb, 0, none⟩)] w fun e w' => e = .returned (.iface 3 (.int .i64 v)) ∧ w' = w := btItValue_walk h.at_ hq
end
end Go.Proofs.YtjjolokeceldmaaGreat.Bt
