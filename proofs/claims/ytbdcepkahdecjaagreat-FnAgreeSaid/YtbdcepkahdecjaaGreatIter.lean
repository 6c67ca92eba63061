import Derived.Test.YtbdcepkahdecjaaGreatPures
import Derived.Test.YtbdcepkahdecjaaGreatMem
namespace Go.Proofs.YtbdcepkahdecjaaGreat
def nodeAt (ids : List Nat) (p : Nat) : Option Nat := if p = 0 then none else ids[p - 1]?
def posOf (n p : Nat) : Int := if p = 0 then 0 else if p ≤ n then 1 else 2
def itCells (tb : Nat) (ids : List Nat) (p : Nat) : Array Value := #[.pointer (some ⟨tb, 0, none⟩), ptr (nodeAt ids p), .int .u8 (posOf ids.length p)]
theorem itCells_zero (tb : Nat) (ids : List Nat) : itCells tb ids 0 = #[.pointer (some ⟨tb, 0, none⟩), .pointer none, .int .u8 0] := rfl
theorem itCells_end (tb : Nat) (ids : List Nat) : itCells tb ids (ids.length + 1) = #[.pointer (some ⟨tb, 0, none⟩), .pointer none, .int .u8 2] := by
  unfold itCells nodeAt posOf
  simp
theorem itCells_at (tb : Nat) (ids : List Nat) {p i : Nat} (h : ids[p]? = some i) : itCells tb ids (p + 1) = #[.pointer (some ⟨tb, 0, none⟩), .pointer (some ⟨i, 0, none⟩), .int .u8 1] := by
  have hp : p < ids.length := by
    rcases Nat.lt_or_ge p ids.length with h' | h'
    · exact h'
    · rw [List.getElem?_eq_none h'] at h; cases h
  unfold itCells nodeAt posOf
  rw [if_neg (by omega), if_neg (by omega), if_pos (by omega), Nat.add_sub_cancel, h]
  rfl
theorem IsT.blk {L : Lay} {w : World} {t : BT} {p : Option Nat} (h : IsT L w t p) : ∀ b ∈ t.ids, ∃ cs, Blk w b L.tn cs := by
  induction t generalizing p with
  | nil => intro b hb; simp [BT.ids] at hb
  | node i l k v c r ihl ihr =>
    obtain ⟨h1, h2, h3⟩ := h
    intro b hb
    simp only [BT.ids, List.mem_cons, List.mem_append] at hb
    rcases hb with rfl | hb | hb
    · exact ⟨_, h1⟩
    · exact ihl h2 b hb
    · exact ihr h3 b hb
theorem St.off {L : Lay} {w : World} {H : Hd} {t : BT} (s : St L w H [] t) {g : Nat} {ty : TypeId} {cs : Array Value} (h : Blk w g ty cs) (h1 : ty ≠ L.tt) (h2 : ty ≠ L.tn) : g ∉ H.tb :: t.ids := by
  intro hm
  rcases List.mem_cons.1 hm with rfl | hm
  · exact Blk.ne_ h s.hc h1 rfl
  · obtain ⟨cs', hb⟩ := s.ht.blk g hm
    exact Blk.ne_ h hb h2 rfl
theorem St.only1 {L : Lay} {w w' : World} {H : Hd} {t : BT} (s : St L w H [] t) {g : Nat} (h : g ∉ H.tb :: t.ids) (k : Only [g] w w') : St L w' H [] t :=
  s.only k fun b hb hm => by
    simp only [List.mem_singleton] at hm
    subst hm
    exact h (by simpa [allIds, Ctx.ids] using hb)
theorem St.unplug {L : Lay} {w : World} {H : Hd} {c : Ctx} {t u : BT} (s : St L w H [] u) (e : Ctx.plug c t = u) : St L w H c t := by
  induction c generalizing t with
  | nil => subst e; exact s
  | cons f c ih =>
    cases f with
    | lf i k v cc r => exact (ih e).downL
    | rf i l k v cc => exact (ih e).downR
theorem St.at_place {L : Lay} {w : World} {H : Hd} {t : BT} (s : St L w H [] t) {p : Nat} (hp : p < t.count) : ∃ c i l k v b r, St L w H c (.node i l k v b r) ∧ t.ord[p]? = some i ∧ t.kvs[p]? = some (k, v) ∧ nextId c r = t.ord[p + 1]? ∧ prevId c l = if p = 0 then none else t.ord[p - 1]? := by
  obtain ⟨c, i, l, k, v, b, r, e, hn⟩ := place_at hp []
  simp only [Ctx.plug] at e
  exact ⟨c, i, l, k, v, b, r, s.unplug e, Go.Proofs.YtbdcepkahdecjaaGreat.at_place e (by simpa [Ctx.ordL] using hn)⟩
end Go.Proofs.YtbdcepkahdecjaaGreat
