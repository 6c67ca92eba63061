/-
  Several texts as one (BtMem, BtBase, BtSearch): each says its own in its remarks.
-/
import Derived.Test.YtgakapigpiaoiaaBtPures
import Derived.Test.YtgakapigpiaoiaaRows0
import Derived.Deep.LoopGhost
import Derived.IntWalk
namespace Go.Proofs.Ytgakapigpiaoiaa.Bt
open Go.RowKit Go.Proofs.Ytgakapigpiaoiaa
structure Arr where
  A1 : Option Addr
  c1 : Nat
  A2 : Option Addr
  c2 : Nat
def enV (e : En) : Value := .pointer (some ⟨e.b, 0, none⟩)
def ndV (k : Nat) : Value := .pointer (some ⟨k, 0, none⟩)
def enRow (es : List En) : List Value := es.map enV
def ndRow (ks : List Nat) : List Value := ks.map ndV
theorem enRow_length (es : List En) : (enRow es).length = es.length := by simp [enRow]
theorem ndRow_length (ks : List Nat) : (ndRow ks).length = ks.length := by simp [ndRow]
theorem enRow_get {es : List En} {j : Nat} {e : En} (h : es[j]? = some e) : (enRow es)[j]? = some (.pointer (some ⟨e.b, 0, none⟩)) := by simp [enRow, h, enV]
theorem ndRow_get {ks : List Nat} {j k : Nat} (h : ks[j]? = some k) : (ndRow ks)[j]? = some (.pointer (some ⟨k, 0, none⟩)) := by simp [ndRow, h, ndV]
theorem enRow_one (es : List En) : ∀ u ∈ enRow es, u.oneCell' = true := by
  intro u hu
  simp only [enRow, List.mem_map] at hu
  obtain ⟨x, _, rfl⟩ := hu
  rfl
theorem ndRow_one (ks : List Nat) : ∀ u ∈ ndRow ks, u.oneCell' = true := by
  intro u hu
  simp only [ndRow, List.mem_map] at hu
  obtain ⟨x, _, rfl⟩ := hu
  rfl
theorem enRow_append (a b : List En) : enRow (a ++ b) = enRow a ++ enRow b := by simp [enRow]
theorem ndRow_append (a b : List Nat) : ndRow (a ++ b) = ndRow a ++ ndRow b := by simp [ndRow]
def EnAt (w : World) (B : Nat) (e : En) : Prop := Blk w e.b 64 #[.iface 3 (.int .i64 e.k), .iface 3 (.int .i64 e.v)] ∧ B ≤ e.b
structure NdRaw (w : World) (B i : Nat) (p : Option Nat) (a : Arr) (n1 n2 : Nat) (xs ys : List Value) : Prop where
  blk : Blk w i 61 #[ptr p, .slice a.A1 n1 a.c1, .slice a.A2 n2 a.c2]
  own1 : w.ownsRow B 62 1 (.slice a.A1 n1 a.c1) n1 xs
  own2 : w.ownsRow B 45 1 (.slice a.A2 n2 a.c2) n2 ys
  ge : B ≤ i
abbrev NdAt (w : World) (B i : Nat) (d : ND) (a : Arr) : Prop := NdRaw w B i d.par a d.es.length d.ks.length (enRow d.es) (ndRow d.ks)
def ids (i : Nat) (a : Arr) : List Nat := i :: ((match a.A1 with | some x => [x.block] | none => []) ++ (match a.A2 with | some x => [x.block] | none => []))
theorem mem_ids {i b : Nat} {a : Arr} : b ∈ ids i a ↔ b = i ∨ (∃ x, a.A1 = some x ∧ x.block = b) ∨ (∃ x, a.A2 = some x ∧ x.block = b) := by
  unfold ids
  cases h1 : a.A1 <;> cases h2 : a.A2 <;> simp [eq_comm]
structure Hd where
  tb : Nat
  ob : Nat
  root : Option Nat
  size : Int
  m : Int
structure St (w : World) (B : Nat) (H : Hd) (o : Ord) (σ : Store) (α : Nat → Arr) : Prop where
  hd : Blk w H.tb 49 #[ptr H.root, cmpv H.ob, .int .i64 H.size, .int .i64 H.m]
  hdB : B ≤ H.tb
  ord : OrdAt w H.ob o
  nd : ∀ i d, σ i = some d → NdAt w B i d (α i)
  en : ∀ i d e, σ i = some d → e ∈ d.es → EnAt w B e
  ne1 : ∀ i j d d', σ i = some d → σ j = some d' → i ≠ j → ∀ x y, (α i).A1 = some x → (α j).A1 = some y → x.block ≠ y.block
  ne2 : ∀ i j d d', σ i = some d → σ j = some d' → i ≠ j → ∀ x y, (α i).A2 = some x → (α j).A2 = some y → x.block ≠ y.block
def updA (α : Nat → Arr) (i : Nat) (a : Arr) : Nat → Arr := fun j => if j = i then a else α j
theorem updA_at (α : Nat → Arr) (i : Nat) (a : Arr) : updA α i a i = a := by simp [updA]
theorem updA_ne (α : Nat → Arr) {i j : Nat} (a : Arr) (h : j ≠ i) : updA α i a j = α j := by simp [updA, h]
theorem own_blk {w : World} {B : Nat} {e : TypeId} {n c n' : Nat} {A : Option Addr} {xs : List Value} {size : Nat} (h : w.ownsRow B e size (.slice A n c) n' xs) {x : Addr} (hx : A = some x) : ∃ cur, Blk w x.block e cur ∧ B ≤ x.block ∧ x = ⟨x.block, 0, none⟩ ∧ n' ≤ c ∧ cur.size = c * size ∧ cur.toList.take (n' * size) = xs := by
  subst hx
  rcases h.2 with ⟨h1, _⟩ | ⟨g, cap, cur, hv, hb, hg, hn, hc, hs, ht⟩
  · cases h1
  · injection hv with h1 h2 h3
    injection h1 with h1
    subst h1 h3
    exact ⟨cur, hg, hb, rfl, hn, hs, ht⟩
theorem own_only {w w' : World} {S : List Nat} {B : Nat} {e : TypeId} {n c n' size : Nat} {A : Option Addr} {xs : List Value} (h : w.ownsRow B e size (.slice A n c) n' xs) (on : Only S w w') (hn : ∀ x, A = some x → x.block ∉ S) : w'.ownsRow B e size (.slice A n c) n' xs := by
  refine ⟨h.1, ?_⟩
  rcases h.2 with h0 | ⟨g, cap, cur, hv, hb, hg, h2⟩
  · exact .inl h0
  · refine .inr ⟨g, cap, cur, hv, hb, ?_, h2⟩
    injection hv with h1 _ _
    have hlt : g < w.heap.size := Blk.lt (show Blk w g e cur from hg)
    rw [on.block g hlt (hn _ h1)]
    exact hg
section
variable {w w' : World} {B i : Nat} {H : Hd} {o : Ord} {σ : Store} {α : Nat → Arr} {d : ND} {S : List Nat} {a : Arr}
theorem NdRaw.lt {p : Option Nat} {n1 n2 : Nat} {xs ys : List Value} (h : NdRaw w B i p a n1 n2 xs ys) : i < w.heap.size := h.blk.lt
theorem NdRaw.only {p : Option Nat} {n1 n2 : Nat} {xs ys : List Value} (h : NdRaw w B i p a n1 n2 xs ys) (on : Only S w w') (hn : ∀ b ∈ ids i a, b ∉ S) : NdRaw w' B i p a n1 n2 xs ys :=
  ⟨h.blk.only on (hn i (by simp [ids])), own_only h.own1 on (fun x hx => hn _ (mem_ids.2 (.inr (.inl ⟨x, hx, rfl⟩)))), own_only h.own2 on (fun x hx => hn _ (mem_ids.2 (.inr (.inr ⟨x, hx, rfl⟩)))), h.ge⟩
theorem NdRaw.ids_ {p : Option Nat} {n1 n2 : Nat} {xs ys : List Value} (h : NdRaw w B i p a n1 n2 xs ys) : ∀ b ∈ ids i a, B ≤ b ∧ b < w.heap.size := by
  intro b hb
  rcases mem_ids.1 hb with rfl | ⟨x, hx, rfl⟩ | ⟨x, hx, rfl⟩
  · exact ⟨h.ge, h.lt⟩
  · obtain ⟨cur, h1, h2, _⟩ := own_blk h.own1 hx
    exact ⟨h2, h1.lt⟩
  · obtain ⟨cur, h1, h2, _⟩ := own_blk h.own2 hx
    exact ⟨h2, h1.lt⟩
theorem NdRaw.not_ids {p : Option Nat} {n1 n2 : Nat} {xs ys : List Value} (h : NdRaw w B i p a n1 n2 xs ys) {b : Nat} {t : TypeId} {cs : Array Value} (hb : Blk w b t cs) (h1 : t ≠ 61) (h2 : t ≠ 62) (h3 : t ≠ 45) : b ∉ ids i a := by
  intro hm
  rcases mem_ids.1 hm with rfl | ⟨x, hx, rfl⟩ | ⟨x, hx, rfl⟩
  · exact Blk.ne_ hb h.blk h1 rfl
  · obtain ⟨cur, hc, _⟩ := own_blk h.own1 hx
    exact Blk.ne_ hb hc h2 rfl
  · obtain ⟨cur, hc, _⟩ := own_blk h.own2 hx
    exact Blk.ne_ hb hc h3 rfl
theorem St.apart (s : St w B H o σ α) {j : Nat} {d' : ND} (hi : σ i = some d) (hj : σ j = some d') (hij : i ≠ j) : ∀ b ∈ ids j (α j), b ∉ ids i (α i) := by
  intro b hb hm
  have ni := s.nd i d hi
  have nj := s.nd j d' hj
  rcases mem_ids.1 hb with rfl | ⟨x, hx, rfl⟩ | ⟨x, hx, rfl⟩ <;> rcases mem_ids.1 hm with h | ⟨y, hy, h⟩ | ⟨y, hy, h⟩
  · exact hij h.symm
  · obtain ⟨cur, hc, _⟩ := own_blk ni.own1 hy
    exact Blk.ne_ nj.blk hc (by decide) h.symm
  · obtain ⟨cur, hc, _⟩ := own_blk ni.own2 hy
    exact Blk.ne_ nj.blk hc (by decide) h.symm
  · obtain ⟨cur, hc, _⟩ := own_blk nj.own1 hx
    exact Blk.ne_ hc ni.blk (by decide) h
  · exact s.ne1 i j d d' hi hj hij y x hy hx h
  · obtain ⟨cur, hc, _⟩ := own_blk nj.own1 hx
    obtain ⟨cur', hc', _⟩ := own_blk ni.own2 hy
    exact Blk.ne_ hc hc' (by decide) h.symm
  · obtain ⟨cur, hc, _⟩ := own_blk nj.own2 hx
    exact Blk.ne_ hc ni.blk (by decide) h
  · obtain ⟨cur, hc, _⟩ := own_blk nj.own2 hx
    obtain ⟨cur', hc', _⟩ := own_blk ni.own1 hy
    exact Blk.ne_ hc hc' (by decide) h.symm
  · exact s.ne2 i j d d' hi hj hij y x hy hx h
theorem St.same (s : St w B H o σ α) (on : Only [] w w') : St w' B H o σ α :=
  ⟨s.hd.only on (by simp), s.hdB, Blk.only s.ord on (by simp), fun i d h => (s.nd i d h).only on (by simp), fun i d e h he => ⟨(s.en i d e h he).1.only on (by simp), (s.en i d e h he).2⟩, s.ne1, s.ne2⟩
theorem St.drewN (s : St w B H o σ α) (n : Nat) : St (w.drewN n) B H o σ α := s.same ⟨rfl, rfl, rfl, Nat.le_refl _, fun _ _ _ => rfl⟩
theorem St.drew (s : St w B H o σ α) : St w.drew B H o σ α := s.same ⟨rfl, rfl, rfl, Nat.le_refl _, fun _ _ _ => rfl⟩
theorem St.alloc (s : St w B H o σ α) (x : Obj) : St (w.alloc x) B H o σ α := s.same ((Only.refl [] w).alloc x)
theorem St.below (s : St w B H o σ α) (b : Below w.heap.size w w') : St w' B H o σ α := s.same (Only.of_below b)
def Fresh (w : World) (a a' : Arr) : Prop := (∀ x, a'.A1 = some x → (∃ y, a.A1 = some y ∧ y.block = x.block) ∨ w.heap.size ≤ x.block) ∧ (∀ x, a'.A2 = some x → (∃ y, a.A2 = some y ∧ y.block = x.block) ∨ w.heap.size ≤ x.block)
theorem Fresh.refl (w : World) (a : Arr) : Fresh w a a := ⟨fun x h => .inl ⟨x, h, rfl⟩, fun x h => .inl ⟨x, h, rfl⟩⟩
theorem St.put (s : St w B H o σ α) (hi : σ i = some d) (on : Only (ids i (α i)) w w') {d' : ND} {a' : Arr} (n : NdAt w' B i d' a') (fr : Fresh w (α i) a') (he : ∀ e ∈ d'.es, e ∈ d.es ∨ EnAt w' B e) : St w' B H o (upd σ i (some d')) (updA α i a') := by
  have ni := s.nd i d hi
  have old : ∀ j d2, j ≠ i → σ j = some d2 → NdAt w' B j d2 (α j) := fun j d2 hj h => (s.nd j d2 h).only on (s.apart hi h (fun e => hj e.symm))
  have enOld : ∀ j d2 e, σ j = some d2 → e ∈ d2.es → EnAt w' B e := fun j d2 e h hm => ⟨(s.en j d2 e h hm).1.only on (ni.not_ids (s.en j d2 e h hm).1 (by decide) (by decide) (by decide)), (s.en j d2 e h hm).2⟩
  refine ⟨s.hd.only on (ni.not_ids s.hd (by decide) (by decide) (by decide)), s.hdB, Blk.only s.ord on (ni.not_ids s.ord (by decide) (by decide) (by decide)), ?_, ?_, ?_, ?_⟩
  · intro j d2 h
    by_cases hj : j = i
    · subst hj; rw [upd_at] at h; injection h with h; subst h; rw [updA_at]; exact n
    · rw [upd_ne _ _ hj] at h; rw [updA_ne _ _ hj]; exact old j d2 hj h
  · intro j d2 e h hm
    by_cases hj : j = i
    · subst hj; rw [upd_at] at h; injection h with h; subst h
      rcases he e hm with h1 | h1
      · exact enOld j d e hi h1
      · exact h1
    · rw [upd_ne _ _ hj] at h; exact enOld j d2 e h hm
  · intro j k d1 d2 h1 h2 hjk x y hx hy
    by_cases hj : j = i
    · have hk : k ≠ i := fun e => hjk (hj.trans e.symm)
      subst hj
      rw [updA_at] at hx
      rw [upd_ne _ _ hk] at h2
      rw [updA_ne _ _ hk] at hy
      rcases fr.1 x hx with ⟨z, hz, e⟩ | e
      · rw [← e]; exact s.ne1 j k d d2 hi h2 (fun e => hk e.symm) z y hz hy
      · obtain ⟨cur, hc, _⟩ := own_blk (s.nd k d2 h2).own1 hy
        have := hc.lt; omega
    · rw [updA_ne _ _ hj] at hx
      rw [upd_ne _ _ hj] at h1
      by_cases hk : k = i
      · subst hk
        rw [updA_at] at hy
        rcases fr.1 y hy with ⟨z, hz, e⟩ | e
        · rw [← e]; exact s.ne1 j k d1 d h1 hi hj x z hx hz
        · obtain ⟨cur, hc, _⟩ := own_blk (s.nd j d1 h1).own1 hx
          have := hc.lt; omega
      · rw [updA_ne _ _ hk] at hy
        rw [upd_ne _ _ hk] at h2
        exact s.ne1 j k d1 d2 h1 h2 hjk x y hx hy
  · intro j k d1 d2 h1 h2 hjk x y hx hy
    by_cases hj : j = i
    · have hk : k ≠ i := fun e => hjk (hj.trans e.symm)
      subst hj
      rw [updA_at] at hx
      rw [upd_ne _ _ hk] at h2
      rw [updA_ne _ _ hk] at hy
      rcases fr.2 x hx with ⟨z, hz, e⟩ | e
      · rw [← e]; exact s.ne2 j k d d2 hi h2 (fun e => hk e.symm) z y hz hy
      · obtain ⟨cur, hc, _⟩ := own_blk (s.nd k d2 h2).own2 hy
        have := hc.lt; omega
    · rw [updA_ne _ _ hj] at hx
      rw [upd_ne _ _ hj] at h1
      by_cases hk : k = i
      · subst hk
        rw [updA_at] at hy
        rcases fr.2 y hy with ⟨z, hz, e⟩ | e
        · rw [← e]; exact s.ne2 j k d1 d h1 hi hj x z hx hz
        · obtain ⟨cur, hc, _⟩ := own_blk (s.nd j d1 h1).own2 hx
          have := hc.lt; omega
      · rw [updA_ne _ _ hk] at hy
        rw [upd_ne _ _ hk] at h2
        exact s.ne2 j k d1 d2 h1 h2 hjk x y hx hy
theorem St.add (s : St w B H o σ α) (hi : w.heap.size ≤ i) (on : Only [] w w') {d' : ND} {a' : Arr} (n : NdAt w' B i d' a') (f1 : ∀ x, a'.A1 = some x → w.heap.size ≤ x.block) (f2 : ∀ x, a'.A2 = some x → w.heap.size ≤ x.block) (he : ∀ e ∈ d'.es, EnAt w' B e) : St w' B H o (upd σ i (some d')) (updA α i a') ∧ σ i = none := by
  have hno : σ i = none := by
    cases h : σ i with
    | none => rfl
    | some d => have := (s.nd i d h).lt; omega
  have s' := s.same on
  refine ⟨⟨s'.hd, s.hdB, s'.ord, ?_, ?_, ?_, ?_⟩, hno⟩
  · intro j d2 h
    by_cases hj : j = i
    · subst hj; rw [upd_at] at h; injection h with h; subst h; rw [updA_at]; exact n
    · rw [upd_ne _ _ hj] at h; rw [updA_ne _ _ hj]; exact s'.nd j d2 h
  · intro j d2 e h hm
    by_cases hj : j = i
    · subst hj; rw [upd_at] at h; injection h with h; subst h; exact he e hm
    · rw [upd_ne _ _ hj] at h; exact s'.en j d2 e h hm
  · intro j k d1 d2 h1 h2 hjk x y hx hy
    by_cases hj : j = i
    · have hk : k ≠ i := fun e => hjk (hj.trans e.symm)
      subst hj
      rw [updA_at] at hx
      rw [upd_ne _ _ hk] at h2
      rw [updA_ne _ _ hk] at hy
      have := f1 x hx
      obtain ⟨cur, hc, _⟩ := own_blk (s.nd k d2 h2).own1 hy
      have := hc.lt; omega
    · rw [updA_ne _ _ hj] at hx
      rw [upd_ne _ _ hj] at h1
      by_cases hk : k = i
      · subst hk
        rw [updA_at] at hy
        have := f1 y hy
        obtain ⟨cur, hc, _⟩ := own_blk (s.nd j d1 h1).own1 hx
        have := hc.lt; omega
      · rw [updA_ne _ _ hk] at hy
        rw [upd_ne _ _ hk] at h2
        exact s.ne1 j k d1 d2 h1 h2 hjk x y hx hy
  · intro j k d1 d2 h1 h2 hjk x y hx hy
    by_cases hj : j = i
    · have hk : k ≠ i := fun e => hjk (hj.trans e.symm)
      subst hj
      rw [updA_at] at hx
      rw [upd_ne _ _ hk] at h2
      rw [updA_ne _ _ hk] at hy
      have := f2 x hx
      obtain ⟨cur, hc, _⟩ := own_blk (s.nd k d2 h2).own2 hy
      have := hc.lt; omega
    · rw [updA_ne _ _ hj] at hx
      rw [upd_ne _ _ hj] at h1
      by_cases hk : k = i
      · subst hk
        rw [updA_at] at hy
        have := f2 y hy
        obtain ⟨cur, hc, _⟩ := own_blk (s.nd j d1 h1).own2 hx
        have := hc.lt; omega
      · rw [updA_ne _ _ hk] at hy
        rw [upd_ne _ _ hk] at h2
        exact s.ne2 j k d1 d2 h1 h2 hjk x y hx hy
theorem St.drop (s : St w B H o σ α) (i : Nat) : St w B H o (upd σ i none) α := by
  have sub : ∀ j d, upd σ i none j = some d → σ j = some d := by
    intro j d h
    by_cases hj : j = i
    · subst hj; rw [upd_at] at h; cases h
    · rwa [upd_ne _ _ hj] at h
  exact ⟨s.hd, s.hdB, s.ord, fun j d h => s.nd j d (sub j d h), fun j d e h hm => s.en j d e (sub j d h) hm, fun j k d d' h h' => s.ne1 j k d d' (sub j d h) (sub k d' h'), fun j k d d' h h' => s.ne2 j k d d' (sub j d h) (sub k d' h')⟩
theorem St.congr (s : St w B H o σ α) {σ' : Store} (h : ∀ j, σ' j = σ j) : St w B H o σ' α := by
  have : σ' = σ := funext h
  rw [this]; exact s
theorem St.head (s : St w B H o σ α) {H' : Hd} (on : Only [H.tb] w w') (ht : H'.tb = H.tb) (ho : H'.ob = H.ob) (hb : Blk w' H'.tb 49 #[ptr H'.root, cmpv H'.ob, .int .i64 H'.size, .int .i64 H'.m]) : St w' B H' o σ α := by
  have no : ∀ j d, σ j = some d → ∀ b ∈ ids j (α j), b ∉ [H.tb] := by
    intro j d h b hm hb
    simp only [List.mem_singleton] at hb
    subst hb
    exact (s.nd j d h).not_ids s.hd (by decide) (by decide) (by decide) hm
  refine ⟨hb, by rw [ht]; exact s.hdB, ?_, fun j d h => (s.nd j d h).only on (no j d h), fun j d e h hm => ⟨(s.en j d e h hm).1.only on ?_, (s.en j d e h hm).2⟩, s.ne1, s.ne2⟩
  · rw [ho]
    exact Blk.only s.ord on (fun hm => by simp only [List.mem_singleton] at hm; exact Blk.ne_ s.ord s.hd (by decide) hm)
  · intro hm'
    simp only [List.mem_singleton] at hm'
    exact Blk.ne_ (s.en j d e h hm).1 s.hd (by decide) hm'
end
end Go.Proofs.Ytgakapigpiaoiaa.Bt

namespace Go.Proofs.Ytgakapigpiaoiaa.Bt
open Go.RowKit Go.Proofs.Ytgakapigpiaoiaa
section
variable {w w' : World} {B i rt : Nat} {H : Hd} {o : Ord} {σ : Store} {α : Nat → Arr} {d : ND}
theorem St.cells (s : St w B H o σ α) (h : σ i = some d) : w.cell? ⟨i, 0, none⟩ = some (ptr d.par) ∧ w.cell? ⟨i, 1, none⟩ = some (.slice (α i).A1 d.es.length (α i).c1) ∧ w.cell? ⟨i, 2, none⟩ = some (.slice (α i).A2 d.ks.length (α i).c2) ∧ ∀ j, w.frozen? ⟨i, j, none⟩ = false :=
  ⟨(s.nd i d h).blk.cell 0, (s.nd i d h).blk.cell 1, (s.nd i d h).blk.cell 2, (s.nd i d h).blk.frozen⟩
theorem St.hcells (s : St w B H o σ α) : w.cell? ⟨H.tb, 0, none⟩ = some (ptr H.root) ∧ w.cell? ⟨H.tb, 1, none⟩ = some (cmpv H.ob) ∧ w.cell? ⟨H.tb, 2, none⟩ = some (.int .i64 H.size) ∧ w.cell? ⟨H.tb, 3, none⟩ = some (.int .i64 H.m) :=
  ⟨s.hd.cell 0, s.hd.cell 1, s.hd.cell 2, s.hd.cell 3⟩
theorem St.ent (s : St w B H o σ α) (h : σ i = some d) {j : Nat} {e : En} (he : d.es[j]? = some e) : ∃ g, (α i).A1 = some ⟨g, 0, none⟩ ∧ w.cell? ⟨g, j, none⟩ = some (.pointer (some ⟨e.b, 0, none⟩)) ∧ (∀ k, w.frozen? ⟨g, k, none⟩ = false) ∧ w.cell? ⟨e.b, 0, none⟩ = some (.iface 3 (.int .i64 e.k)) ∧ w.cell? ⟨e.b, 1, none⟩ = some (.iface 3 (.int .i64 e.v)) := by
  have hj := (List.getElem?_eq_some_iff.1 he).1
  have n := s.nd i d h
  have hm : e ∈ d.es := List.mem_of_getElem? he
  obtain ⟨eb, _⟩ := s.en i d e h hm
  cases hA : (α i).A1 with
  | none =>
    have := n.own1
    rw [hA] at this
    rcases this.2 with ⟨_, h0⟩ | ⟨g, cap, cur, hv, _⟩
    · omega
    · cases hv
  | some x =>
    obtain ⟨cur, hc, _, hx, _, _, ht⟩ := own_blk n.own1 hA
    refine ⟨x.block, by rw [← hx], ?_, hc.frozen, eb.cell 0, eb.cell 1⟩
    rw [hc.cell]
    have : (enRow d.es)[j]? = some (.pointer (some ⟨e.b, 0, none⟩)) := enRow_get he
    rw [← ht, List.getElem?_take_of_lt (by omega)] at this
    simpa using this
theorem St.kid (s : St w B H o σ α) (h : σ i = some d) {j k : Nat} (hk : d.ks[j]? = some k) : ∃ g, (α i).A2 = some ⟨g, 0, none⟩ ∧ w.cell? ⟨g, j, none⟩ = some (.pointer (some ⟨k, 0, none⟩)) ∧ (∀ k, w.frozen? ⟨g, k, none⟩ = false) := by
  have hj := (List.getElem?_eq_some_iff.1 hk).1
  have n := s.nd i d h
  cases hA : (α i).A2 with
  | none =>
    have := n.own2
    rw [hA] at this
    rcases this.2 with ⟨_, h0⟩ | ⟨g, cap, cur, hv, _⟩
    · omega
    · cases hv
  | some x =>
    obtain ⟨cur, hc, _, hx, _, _, ht⟩ := own_blk n.own2 hA
    refine ⟨x.block, by rw [← hx], ?_, hc.frozen⟩
    rw [hc.cell]
    have : (ndRow d.ks)[j]? = some (.pointer (some ⟨k, 0, none⟩)) := ndRow_get hk
    rw [← ht, List.getElem?_take_of_lt (by omega)] at this
    simpa using this
theorem isLeaf_walk (s : St w B H o σ α) (h : σ i = some d) (t : Value) : Calls Try.prog 64 #[t, .pointer (some ⟨i, 0, none⟩)] w fun e w' => e = .returned (.bool ((d.ks.length : Int) == 0)) ∧ w = w' := by
  obtain ⟨_, _, h2, _⟩ := s.cells h
  clear s
  go_enter Try.func64, Try.ntmps64
  go_wp2_with fail
  go_ret
  exact ⟨rfl, rfl⟩
theorem leaf_yes (S : Shp σ rt) (s : St w B H o σ α) (h : σ i = some d) (h0 : d.lv = 0) (t : Value) : Calls Try.prog 64 #[t, .pointer (some ⟨i, 0, none⟩)] w fun e w' => e = .returned (.bool true) ∧ w = w' := by
  have := isLeaf_walk s h t
  rw [S.leaf i d h h0] at this
  exact this
theorem leaf_no (S : Shp σ rt) (s : St w B H o σ α) (h : σ i = some d) (h0 : 0 < d.lv) (t : Value) : Calls Try.prog 64 #[t, .pointer (some ⟨i, 0, none⟩)] w fun e w' => e = .returned (.bool false) ∧ w = w' := by
  have := isLeaf_walk s h t
  rw [S.inner i d h h0, show (((d.es.length + 1 : Nat) : Int) == 0) = false by simp; omega] at this
  exact this
theorem maxChildren_walk (s : St w B H o σ α) : Calls Try.prog 85 #[.pointer (some ⟨H.tb, 0, none⟩)] w fun e w' => e = .returned (.int .i64 H.m) ∧ w = w' := by
  obtain ⟨_, _, _, h3⟩ := s.hcells
  clear s
  generalize H.m = m at *
  go_enter Try.func85, Try.ntmps85
  go_wp2_with fail
  go_ret
  exact ⟨rfl, rfl⟩
theorem maxEntries_walk (s : St w B H o σ α) (hm : 3 ≤ H.m ∧ H.m ≤ 64) : Calls Try.prog 83 #[.pointer (some ⟨H.tb, 0, none⟩)] w fun e w' => e = .returned (.int .i64 (H.m - 1)) ∧ w = w' := by
  have C := Lib.hid (maxChildren_walk s)
  clear s
  generalize H.m = m at *
  obtain ⟨hm1, hm2⟩ := hm
  go_enter Try.func83, Try.ntmps83
  go_wp2_with fail
  refine C.out.mono ?_
  rintro e w1 ⟨rfl, rfl⟩
  go_wp2_with fail
  go_ret
  exact ⟨rfl, rfl⟩
theorem minChildren_walk (s : St w B H o σ α) (hm : 3 ≤ H.m ∧ H.m ≤ 64) : Calls Try.prog 81 #[.pointer (some ⟨H.tb, 0, none⟩)] w fun e w' => e = .returned (.int .i64 ((H.m + 1) / 2)) ∧ w = w' := by
  obtain ⟨_, _, _, h3⟩ := s.hcells
  clear s
  generalize H.m = m at *
  obtain ⟨hm1, hm2⟩ := hm
  go_enter Try.func81, Try.ntmps81
  go_wp2_with fail
  go_ret
  exact ⟨rfl, rfl⟩
theorem minEntries_walk (s : St w B H o σ α) (hm : 3 ≤ H.m ∧ H.m ≤ 64) : Calls Try.prog 72 #[.pointer (some ⟨H.tb, 0, none⟩)] w fun e w' => e = .returned (.int .i64 ((H.m + 1) / 2 - 1)) ∧ w = w' := by
  have C := Lib.hid (minChildren_walk s hm)
  clear s
  generalize H.m = m at *
  obtain ⟨hm1, hm2⟩ := hm
  go_enter Try.func72, Try.ntmps72
  go_wp2_with fail
  refine C.out.mono ?_
  rintro e w1 ⟨rfl, rfl⟩
  go_wp2_with fail
  go_ret
  exact ⟨rfl, rfl⟩
theorem middle_walk (s : St w B H o σ α) (hm : 3 ≤ H.m ∧ H.m ≤ 64) : Calls Try.prog 84 #[.pointer (some ⟨H.tb, 0, none⟩)] w fun e w' => e = .returned (.int .i64 ((H.m - 1) / 2)) ∧ w = w' := by
  obtain ⟨_, _, _, h3⟩ := s.hcells
  clear s
  generalize H.m = m at *
  obtain ⟨hm1, hm2⟩ := hm
  go_enter Try.func84, Try.ntmps84
  go_wp2_with fail
  go_ret
  exact ⟨rfl, rfl⟩
theorem empty_walk (s : St w B H o σ α) : Calls Try.prog 47 #[.pointer (some ⟨H.tb, 0, none⟩)] w fun e w' => e = .returned (.bool (H.size == 0)) ∧ w = w' := by
  obtain ⟨_, _, h2, _⟩ := s.hcells
  clear s
  generalize H.size = m at *
  go_enter Try.func47, Try.ntmps47
  go_wp2_with fail
  go_ret
  exact ⟨rfl, rfl⟩
theorem size_walk (s : St w B H o σ α) : Calls Try.prog 51 #[.pointer (some ⟨H.tb, 0, none⟩)] w fun e w' => e = .returned (.int .i64 H.size) ∧ w = w' := by
  obtain ⟨_, _, h2, _⟩ := s.hcells
  clear s
  generalize H.size = m at *
  go_enter Try.func51, Try.ntmps51
  go_wp2_with fail
  go_ret
  exact ⟨rfl, rfl⟩
theorem shouldSplit_walk (s : St w B H o σ α) (hm : 3 ≤ H.m ∧ H.m ≤ 64) (h : σ i = some d) : Calls Try.prog 78 #[.pointer (some ⟨H.tb, 0, none⟩), .pointer (some ⟨i, 0, none⟩)] w fun e w' => e = .returned (.bool (decide (H.m - 1 < (d.es.length : Int)))) ∧ ∃ n, w' = w.drewN n := by
  have C := Lib.hid (fun n => maxEntries_walk (s.drewN n) hm)
  obtain ⟨_, h1, _, _⟩ := s.cells h
  clear s h
  generalize H.m = m at *
  obtain ⟨hm1, hm2⟩ := hm
  generalize hb : decide (m - 1 < (d.es.length : Int)) = b
  have HB := Lib.hid hb
  clear hb
  go_enter Try.func78, Try.ntmps78
  go_wp2_with fail
  go_quiet ((go_at_call 83; exact quiet_left (C.out _)))
  go_wp2_with fail
  go_ret
  exact ⟨by rw [← HB.out]; rfl, _, rfl⟩
end
end Go.Proofs.Ytgakapigpiaoiaa.Bt

namespace Go.Proofs.Ytgakapigpiaoiaa.Bt
open Go.RowKit Go.Proofs.Ytgakapigpiaoiaa
def hit (o : Ord) (k : Int) (es : List En) : Bool := match es[rank o (o.rk k) es]? with
  | none => false
  | some e => o.rk e.k == o.rk k
theorem hit_at {o : Ord} {k : Int} {es : List En} {e : En} (h : es[rank o (o.rk k) es]? = some e) (hk : o.rk e.k = o.rk k) : hit o k es = true := by
  unfold hit; rw [h]; simpa using hk
theorem hit_not {o : Ord} {k : Int} {es : List En} (h : ∀ e, es[rank o (o.rk k) es]? = some e → o.rk e.k ≠ o.rk k) : hit o k es = false := by
  unfold hit
  cases hc : es[rank o (o.rk k) es]? with
  | none => rfl
  | some e => simpa using h e hc
structure Low (o : Ord) (k : Int) (es : List En) (l : Int) : Prop where
  out : ∀ j e, (j : Nat) < l → es[j]? = some e → o.rk e.k < o.rk k
structure High (o : Ord) (k : Int) (es : List En) (h : Int) : Prop where
  out : ∀ (j : Nat) e, h < (j : Int) → es[j]? = some e → o.rk k < o.rk e.k
set_option maxHeartbeats 1000000 in
set_option maxRecDepth 100000 in
theorem search_walk {w : World} {B i : Nat} {H : Hd} {o : Ord} {σ : Store} {α : Nat → Arr} {d : ND} (s : St w B H o σ α) (ho : o.fine) (h : σ i = some d) (ha : AscE o d.es) (hn : d.es.length ≤ 100000) (k : Int) :
    Calls Try.prog 62 #[.pointer (some ⟨H.tb, 0, none⟩), .pointer (some ⟨i, 0, none⟩), .iface 3 (.int .i64 k)] w fun e w' => e = .returned (.tuple #[.int .i64 (rank o (o.rk k) d.es : Nat), .bool (hit o k d.es)]) ∧ ∃ n, w' = w.drewN n := by
  obtain ⟨_, hc1, _, _⟩ := s.cells h
  obtain ⟨_, hh1, _, _⟩ := s.hcells
  have HS := Lib.hid s
  have HE := Lib.hid (fun (j : Nat) (e : En) (he : d.es[j]? = some e) => s.ent h he)
  have HA := Lib.hid ha
  have HH := Lib.hid h
  clear s h ha
  generalize hl : d.es.length = n at *
  have HN := Lib.hid hl
  clear hl
  go_enter Try.func62, Try.ntmps62
  go_wp2_with fail
  go_quiet (fail)
  go_wp2_with fail
  go_loopw [8, 9] (fun lo hi wr => ∃ (l h : Int), lo = .int .i64 l ∧ hi = .int .i64 h ∧ 0 ≤ l ∧ l ≤ h + 1 ∧ h + 1 ≤ n ∧ (∃ m, wr = w.drewN m) ∧ Low o k d.es l ∧ High o k d.es h) (fun lo hi _ => (intOf hi + 1 - intOf lo).toNat)
  case atStart => exact ⟨0, (n : Int) - 1, rfl, rfl, by omega, by omega, by omega, ⟨_, rfl⟩, ⟨fun j e hj => by omega⟩, ⟨fun j e hj he => by have := (List.getElem?_eq_some_iff.1 he).1; have := HN.out; omega⟩⟩
  case round =>
    obtain ⟨l, h, rfl, rfl, hl0, hlh, hhn, hw, hlo, hhi⟩ := hrel
    have HW := Lib.hid hw
    by_cases hlt : l ≤ h
    · obtain ⟨M, hM⟩ : ∃ M : Nat, (h + l) / 2 = (M : Int) := ⟨((h + l) / 2).toNat, by omega⟩
      have hMl : l ≤ (M : Int) := by omega
      have hMh : (M : Int) ≤ h := by omega
      obtain ⟨e, he⟩ : ∃ e, d.es[M]? = some e := ⟨_, List.getElem?_eq_getElem (by have := HN.out; omega)⟩
      obtain ⟨g, hA1, hg, _, hek, _⟩ := HE.out M e he
      rw [hA1] at hc1
      have hc1' : wr.cell? ⟨i, 1, none⟩ = some (.slice (some ⟨g, 0, none⟩) n (α i).c1) := by obtain ⟨m, rfl⟩ := hw; exact hc1
      have hh1' : wr.cell? ⟨H.tb, 1, none⟩ = some (cmpv H.ob) := by obtain ⟨m, rfl⟩ := hw; exact hh1
      have hg' : wr.cell? ⟨g, M, none⟩ = some (.pointer (some ⟨e.b, 0, none⟩)) := by obtain ⟨m, rfl⟩ := hw; exact hg
      have hek' : wr.cell? ⟨e.b, 0, none⟩ = some (.iface 3 (.int .i64 e.k)) := by obtain ⟨m, rfl⟩ := hw; exact hek
      have HO := Lib.hid (show OrdAt wr H.ob o by obtain ⟨m, rfl⟩ := hw; exact HS.out.ord)
      have HM := Lib.hid hM
      have LO := Lib.hid hlo
      have HI := Lib.hid hhi
      have HEE := Lib.hid he
      have hi1 : h ≤ 100000 := by omega
      have hMn : (M : Int) < (n : Int) := by omega
      clear hc1 hh1 hg hek hA1 hM he hw hlo hhi
      rcases Int.lt_trichotomy (o.rk k) (o.rk e.k) with hc | hc | hc
      · have By := Lib.hid (fun (w1 : World) (h1 : OrdAt w1 H.ob o) => by1_lt o H.ob k e.k w1 ho h1 hc)
        have HC := Lib.hid hc
        clear hc
        go_wp2_with fail
        rw [HM.out]
        go_quiet ((go_at_call 27; exact Calls.quiet_of (By.out _ HO.out)))
        go_wp2_with fail
        go_roundw
        case rel =>
          refine ⟨l, (M : Int) - 1, rfl, rfl, hl0, by omega, by omega, ?_, LO.out, ⟨fun j e' hj he' => ?_⟩⟩
          · obtain ⟨m, rfl⟩ := HW.out
            exact ⟨_, World.drewN_drewN _ _ _⟩
          · by_cases hjM : j = M
            · subst hjM; rw [HEE.out] at he'; injection he' with he'; subst he'; exact HC.out
            · have := HA.out.get (i := M) (j := j) (by omega) HEE.out he'
              have := HC.out
              omega
        case measure => simp [intOf]; omega
      · have By := Lib.hid (fun (w1 : World) (h1 : OrdAt w1 H.ob o) => by1_eq o H.ob k e.k w1 ho h1 hc)
        have HC := Lib.hid hc
        clear hc
        go_wp2_with fail
        rw [HM.out]
        go_quiet ((go_at_call 27; exact Calls.quiet_of (By.out _ HO.out)))
        go_wp2_with fail
        go_ret2
        have hr : rank o (o.rk k) d.es = M := rank_at (by have := HN.out; omega) (fun j e' hj he' => by have := HA.out.get (i := j) (j := M) hj he' HEE.out; have := HC.out; omega) (fun e' he' => by rw [HEE.out] at he'; injection he' with he'; subst he'; have := HC.out; omega)
        refine ⟨?_, ?_⟩
        · rw [hit_at (by rw [hr]; exact HEE.out) HC.out.symm, hr]; rfl
        · obtain ⟨m, rfl⟩ := HW.out
          exact ⟨_, World.drewN_drewN _ _ _⟩
      · have By := Lib.hid (fun (w1 : World) (h1 : OrdAt w1 H.ob o) => by1_gt o H.ob k e.k w1 ho h1 hc)
        have HC := Lib.hid hc
        clear hc
        go_wp2_with fail
        rw [HM.out]
        go_quiet ((go_at_call 27; exact Calls.quiet_of (By.out _ HO.out)))
        go_wp2_with fail
        go_roundw
        case rel =>
          refine ⟨(M : Int) + 1, h, rfl, rfl, by omega, by omega, hhn, ?_, ⟨fun j e' hj he' => ?_⟩, HI.out⟩
          · obtain ⟨m, rfl⟩ := HW.out
            exact ⟨_, World.drewN_drewN _ _ _⟩
          · by_cases hjM : j = M
            · subst hjM; rw [HEE.out] at he'; injection he' with he'; subst he'; exact HC.out
            · have := HA.out.get (i := j) (j := M) (by omega) he' HEE.out
              have := HC.out
              omega
        case measure => simp [intOf]; omega
    · obtain ⟨L, rfl⟩ : ∃ L : Nat, l = (L : Int) := ⟨l.toNat, by omega⟩
      have hr : rank o (o.rk k) d.es = L := rank_at (by have := HN.out; omega) (fun j e' hj he' => hlo.out j e' (by omega) he') (fun e' he' => by have := hhi.out L e' (by omega) he'; omega)
      have hno : hit o k d.es = false := hit_not (fun e' he' => by rw [hr] at he'; have := hhi.out L e' (by omega) he'; omega)
      have F := Lib.hid (And.intro hr (And.intro hno hw))
      clear hr hno hw hlo hhi
      go_wp2_with fail
      go_ret2
      exact ⟨by rw [F.out.1, F.out.2.1]; rfl, F.out.2.2⟩
end Go.Proofs.Ytgakapigpiaoiaa.Bt
