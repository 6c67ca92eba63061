import Derived.Test.YtbdcepkahdecjaaGreatPures
namespace Go.Proofs.YtbdcepkahdecjaaGreat.Rb
open Go.Proofs.YtbdcepkahdecjaaGreat
def col : BT → Int
  | .nil => 1
  | .node _ _ _ _ c _ => c
def BH : BT → Nat → Prop
  | .nil, n => n = 0
  | .node _ l _ _ c r, n => (c = 1 ∧ ∃ m, n = m + 1 ∧ BH l m ∧ BH r m) ∨ (c = 0 ∧ BH l n ∧ BH r n ∧ col l = 1 ∧ col r = 1)
def pcol : Ctx → Int
  | [] => 0
  | .lf _ _ _ c _ :: _ => c
  | .rf _ _ _ _ c :: _ => c
def Hole : Ctx → Nat → Prop
  | [], _ => True
  | .lf _ _ _ c r :: x, n => (c = 1 ∧ BH r n ∧ Hole x (n + 1)) ∨ (c = 0 ∧ BH r n ∧ col r = 1 ∧ pcol x = 1 ∧ Hole x n)
  | .rf _ l _ _ c :: x, n => (c = 1 ∧ BH l n ∧ Hole x (n + 1)) ∨ (c = 0 ∧ BH l n ∧ col l = 1 ∧ pcol x = 1 ∧ Hole x n)
def ok (t : BT) : Prop := ∃ n, BH t n ∧ col t = 1
theorem col_cases {t : BT} {n : Nat} (h : BH t n) : col t = 0 ∨ col t = 1 := by
  cases t with
  | nil => exact .inr rfl
  | node i l k v c r => rcases h with ⟨h, _⟩ | ⟨h, _⟩ <;> simp [col, h]
theorem bh_black {i : Nat} {l r : BT} {k v : Int} {n : Nat} (hl : BH l n) (hr : BH r n) : BH (.node i l k v 1 r) (n + 1) := .inl ⟨rfl, n, rfl, hl, hr⟩
theorem bh_red {i : Nat} {l r : BT} {k v : Int} {n : Nat} (hl : BH l n) (hr : BH r n) (cl : col l = 1) (cr : col r = 1) : BH (.node i l k v 0 r) n := .inr ⟨rfl, hl, hr, cl, cr⟩
theorem bh_black_inv {i : Nat} {l r : BT} {k v : Int} {n : Nat} (h : BH (.node i l k v 1 r) n) : ∃ m, n = m + 1 ∧ BH l m ∧ BH r m := by
  rcases h with ⟨_, h⟩ | ⟨h, _⟩
  · exact h
  · omega
theorem bh_red_inv {i : Nat} {l r : BT} {k v : Int} {n : Nat} (h : BH (.node i l k v 0 r) n) : BH l n ∧ BH r n ∧ col l = 1 ∧ col r = 1 := by
  rcases h with ⟨h, _⟩ | ⟨_, h⟩
  · omega
  · exact h
theorem bh_zero {t : BT} (h : BH t 0) (hc : col t = 1) : t = .nil := by
  cases t with
  | nil => rfl
  | node i l k v c r =>
    simp only [col] at hc; subst hc
    obtain ⟨m, hm, _⟩ := bh_black_inv h
    omega
theorem hole_downL {i : Nat} {l r : BT} {k v c : Int} {x : Ctx} {n : Nat} (h : Hole x n) (hb : BH (.node i l k v c r) n) (hc : c = 1 ∨ pcol x = 1) : ∃ m, Hole (.lf i k v c r :: x) m ∧ BH l m ∧ (col l = 1 ∨ pcol (.lf i k v c r :: x) = 1) := by
  rcases hb with ⟨rfl, m, rfl, hl, hr⟩ | ⟨rfl, hl, hr, cl, cr⟩
  · exact ⟨m, .inl ⟨rfl, hr, h⟩, hl, .inr rfl⟩
  · exact ⟨n, .inr ⟨rfl, hr, cr, by omega, h⟩, hl, .inl cl⟩
theorem hole_downR {i : Nat} {l r : BT} {k v c : Int} {x : Ctx} {n : Nat} (h : Hole x n) (hb : BH (.node i l k v c r) n) (hc : c = 1 ∨ pcol x = 1) : ∃ m, Hole (.rf i l k v c :: x) m ∧ BH r m ∧ (col r = 1 ∨ pcol (.rf i l k v c :: x) = 1) := by
  rcases hb with ⟨rfl, m, rfl, hl, hr⟩ | ⟨rfl, hl, hr, cl, cr⟩
  · exact ⟨m, .inl ⟨rfl, hl, h⟩, hr, .inr rfl⟩
  · exact ⟨n, .inr ⟨rfl, hl, cl, by omega, h⟩, hr, .inl cr⟩
theorem hole_plug {x : Ctx} {t : BT} {n : Nat} (h : Hole x n) (hb : BH t n) (hc : col t = 1 ∨ pcol x = 1) : ok (Ctx.plug x t) := by
  induction x generalizing t n with
  | nil => exact ⟨n, hb, by rcases hc with h | h; exact h; simp [pcol] at h⟩
  | cons f x ih =>
    cases f with
    | lf i k v c r =>
      rcases h with ⟨rfl, hr, h⟩ | ⟨rfl, hr, cr, hp, h⟩
      · exact ih h (bh_black hb hr) (.inl rfl)
      · exact ih h (bh_red hb hr (by rcases hc with h | h; exact h; simp [pcol] at h) cr) (.inr hp)
    | rf i l k v c =>
      rcases h with ⟨rfl, hr, h⟩ | ⟨rfl, hr, cr, hp, h⟩
      · exact ih h (bh_black hr hb) (.inl rfl)
      · exact ih h (bh_red hr hb cr (by rcases hc with h | h; exact h; simp [pcol] at h)) (.inr hp)
def blk : BT → BT
  | .nil => .nil
  | .node i l k v _ r => .node i l k v 1 r
theorem blk_kvs (t : BT) : (blk t).kvs = t.kvs := by cases t <;> rfl
theorem blk_ids (t : BT) : (blk t).ids = t.ids := by cases t <;> rfl
theorem blk_col (t : BT) : col (blk t) = 1 := by cases t <;> rfl
theorem blk_red {t : BT} {n : Nat} (h : BH t n) (hc : col t = 0) : BH (blk t) (n + 1) := by
  cases t with
  | nil => simp [col] at hc
  | node i l k v c r =>
    simp only [col] at hc; subst hc
    obtain ⟨h1, h2, _, _⟩ := bh_red_inv h
    exact bh_black h1 h2
theorem blk_ok {t : BT} {n : Nat} (h : BH t n) : ok (blk t) := by
  cases t with
  | nil => exact ⟨n, h, rfl⟩
  | node i l k v c r =>
    rcases h with ⟨rfl, m, rfl, hl, hr⟩ | ⟨rfl, hl, hr, _, _⟩
    · exact ⟨_, bh_black hl hr, rfl⟩
    · exact ⟨_, bh_black hl hr, rfl⟩
def fix (i : Nat) (l : BT) (k v : Int) (r : BT) : Ctx → BT
  | [] => .node i l k v 1 r
  | [f] => f.plug (.node i l k v 0 r)
  | .lf p kp vp cp pr :: .lf g kg vg cg u :: x =>
    if cp = 1 then Ctx.plug (.lf p kp vp cp pr :: .lf g kg vg cg u :: x) (.node i l k v 0 r)
    else if col u = 0 then fix g (.node p (.node i l k v 0 r) kp vp 1 pr) kg vg (blk u) x
    else Ctx.plug x (.node p (.node i l k v 0 r) kp vp 1 (.node g pr kg vg 0 u))
  | .rf p pl kp vp cp :: .lf g kg vg cg u :: x =>
    if cp = 1 then Ctx.plug (.rf p pl kp vp cp :: .lf g kg vg cg u :: x) (.node i l k v 0 r)
    else if col u = 0 then fix g (.node p pl kp vp 1 (.node i l k v 0 r)) kg vg (blk u) x
    else Ctx.plug x (.node i (.node p pl kp vp 0 l) k v 1 (.node g r kg vg 0 u))
  | .rf p pl kp vp cp :: .rf g u kg vg cg :: x =>
    if cp = 1 then Ctx.plug (.rf p pl kp vp cp :: .rf g u kg vg cg :: x) (.node i l k v 0 r)
    else if col u = 0 then fix g (blk u) kg vg (.node p pl kp vp 1 (.node i l k v 0 r)) x
    else Ctx.plug x (.node p (.node g u kg vg 0 pl) kp vp 1 (.node i l k v 0 r))
  | .lf p kp vp cp pr :: .rf g u kg vg cg :: x =>
    if cp = 1 then Ctx.plug (.lf p kp vp cp pr :: .rf g u kg vg cg :: x) (.node i l k v 0 r)
    else if col u = 0 then fix g (blk u) kg vg (.node p (.node i l k v 0 r) kp vp 1 pr) x
    else Ctx.plug x (.node i (.node g u kg vg 0 l) k v 1 (.node p r kp vp 0 pr))
theorem fix_kvs (c : Ctx) (i : Nat) (l : BT) (k v : Int) (r : BT) : (fix i l k v r c).kvs = (Ctx.plug c (.node i l k v 0 r)).kvs := by
  fun_induction fix i l k v r c <;> simp_all [Ctx.kvs_plug, BT.kvs, Fr.plug, Ctx.plug, blk_kvs]
theorem mem_plug {b : Nat} (c : Ctx) (t : BT) : b ∈ (Ctx.plug c t).ids ↔ b ∈ c.ids ∨ b ∈ t.ids := by rw [(Ctx.ids_plug c t).mem_iff, List.mem_append]
theorem fix_mem (c : Ctx) (i : Nat) (l : BT) (k v : Int) (r : BT) (b : Nat) : b ∈ (fix i l k v r c).ids ↔ b ∈ (Ctx.plug c (.node i l k v 0 r)).ids := by
  fun_induction fix i l k v r c with
  | case1 => simp [Ctx.plug, BT.ids]
  | case2 => simp [Ctx.plug]
  | _ => simp_all only [mem_plug, BT.ids, Fr.plug, Ctx.plug, blk_ids, List.mem_append, List.mem_cons] <;> grind
theorem hole_lf_black {i : Nat} {k v : Int} {r : BT} {x : Ctx} {n : Nat} (h : Hole (.lf i k v 1 r :: x) n) : BH r n ∧ Hole x (n + 1) := by
  rcases h with ⟨_, h1, h2⟩ | ⟨h, _⟩
  · exact ⟨h1, h2⟩
  · omega
theorem hole_rf_black {i : Nat} {k v : Int} {l : BT} {x : Ctx} {n : Nat} (h : Hole (.rf i l k v 1 :: x) n) : BH l n ∧ Hole x (n + 1) := by
  rcases h with ⟨_, h1, h2⟩ | ⟨h, _⟩
  · exact ⟨h1, h2⟩
  · omega
theorem hole_lf_red {i : Nat} {k v c : Int} {r : BT} {x : Ctx} {n : Nat} (h : Hole (.lf i k v c r :: x) n) (hc : c ≠ 1) : c = 0 ∧ BH r n ∧ col r = 1 ∧ pcol x = 1 ∧ Hole x n := by
  rcases h with ⟨h, _⟩ | h
  · exact absurd h hc
  · exact h
theorem hole_rf_red {i : Nat} {k v c : Int} {l : BT} {x : Ctx} {n : Nat} (h : Hole (.rf i l k v c :: x) n) (hc : c ≠ 1) : c = 0 ∧ BH l n ∧ col l = 1 ∧ pcol x = 1 ∧ Hole x n := by
  rcases h with ⟨h, _⟩ | h
  · exact absurd h hc
  · exact h
theorem hole_one {f : Fr} {n : Nat} (h : Hole [f] n) : pcol [f] = 1 := by
  cases f with
  | lf i k v c r =>
    rcases h with ⟨rfl, _⟩ | ⟨_, _, _, h, _⟩
    · rfl
    · simp [pcol] at h
  | rf i l k v c =>
    rcases h with ⟨rfl, _⟩ | ⟨_, _, _, h, _⟩
    · rfl
    · simp [pcol] at h
theorem hole_two {f g : Fr} {x : Ctx} {n : Nat} (h : Hole (f :: g :: x) n) (hc : pcol (f :: g :: x) ≠ 1) : pcol (f :: g :: x) = 0 ∧ pcol (g :: x) = 1 := by
  cases f with
  | lf i k v c r => have := hole_lf_red h hc; exact ⟨this.1, this.2.2.2.1⟩
  | rf i l k v c => have := hole_rf_red h hc; exact ⟨this.1, this.2.2.2.1⟩
theorem fix_ok {c : Ctx} {i : Nat} {l : BT} {k v : Int} {r : BT} {n : Nat} (h : Hole c n) (hl : BH l n) (hr : BH r n) (cl : col l = 1) (cr : col r = 1) : ok (fix i l k v r c) := by
  fun_induction fix i l k v r c generalizing n with
  | case1 i l k v r => exact ⟨n + 1, bh_black hl hr, rfl⟩
  | case2 i l k v r f => exact hole_plug (x := [f]) h (bh_red hl hr cl cr) (.inr (hole_one h))
  | case3 i l k v r p kp vp pr g kg vg cg u x => exact hole_plug h (bh_red hl hr cl cr) (.inr rfl)
  | case4 i l k v r p kp vp cp pr g kg vg cg u x hcp hu ih =>
    obtain ⟨_, h1, h2, h3, h4⟩ := hole_lf_red h hcp
    simp only [pcol] at h3; subst h3
    obtain ⟨h5, h6⟩ := hole_lf_black h4
    exact ih h6 (bh_black (bh_red hl hr cl cr) h1) (blk_red h5 hu) rfl (blk_col _)
  | case5 i l k v r p kp vp cp pr g kg vg cg u x hcp hu =>
    obtain ⟨_, h1, h2, h3, h4⟩ := hole_lf_red h hcp
    simp only [pcol] at h3; subst h3
    obtain ⟨h5, h6⟩ := hole_lf_black h4
    exact hole_plug h6 (bh_black (bh_red hl hr cl cr) (bh_red h1 h5 h2 ((col_cases h5).resolve_left hu))) (.inl rfl)
  | case6 i l k v r p pl kp vp g kg vg cg u x => exact hole_plug h (bh_red hl hr cl cr) (.inr rfl)
  | case7 i l k v r p pl kp vp cp g kg vg cg u x hcp hu ih =>
    obtain ⟨_, h1, h2, h3, h4⟩ := hole_rf_red h hcp
    simp only [pcol] at h3; subst h3
    obtain ⟨h5, h6⟩ := hole_lf_black h4
    exact ih h6 (bh_black h1 (bh_red hl hr cl cr)) (blk_red h5 hu) rfl (blk_col _)
  | case8 i l k v r p pl kp vp cp g kg vg cg u x hcp hu =>
    obtain ⟨_, h1, h2, h3, h4⟩ := hole_rf_red h hcp
    simp only [pcol] at h3; subst h3
    obtain ⟨h5, h6⟩ := hole_lf_black h4
    exact hole_plug h6 (bh_black (bh_red h1 hl h2 cl) (bh_red hr h5 cr ((col_cases h5).resolve_left hu))) (.inl rfl)
  | case9 i l k v r p pl kp vp g u kg vg cg x => exact hole_plug h (bh_red hl hr cl cr) (.inr rfl)
  | case10 i l k v r p pl kp vp cp g u kg vg cg x hcp hu ih =>
    obtain ⟨_, h1, h2, h3, h4⟩ := hole_rf_red h hcp
    simp only [pcol] at h3; subst h3
    obtain ⟨h5, h6⟩ := hole_rf_black h4
    exact ih h6 (blk_red h5 hu) (bh_black h1 (bh_red hl hr cl cr)) (blk_col _) rfl
  | case11 i l k v r p pl kp vp cp g u kg vg cg x hcp hu =>
    obtain ⟨_, h1, h2, h3, h4⟩ := hole_rf_red h hcp
    simp only [pcol] at h3; subst h3
    obtain ⟨h5, h6⟩ := hole_rf_black h4
    exact hole_plug h6 (bh_black (bh_red h5 h1 ((col_cases h5).resolve_left hu) h2) (bh_red hl hr cl cr)) (.inl rfl)
  | case12 i l k v r p kp vp pr g u kg vg cg x => exact hole_plug h (bh_red hl hr cl cr) (.inr rfl)
  | case13 i l k v r p kp vp cp pr g u kg vg cg x hcp hu ih =>
    obtain ⟨_, h1, h2, h3, h4⟩ := hole_lf_red h hcp
    simp only [pcol] at h3; subst h3
    obtain ⟨h5, h6⟩ := hole_rf_black h4
    exact ih h6 (blk_red h5 hu) (bh_black (bh_red hl hr cl cr) h1) (blk_col _) rfl
  | case14 i l k v r p kp vp cp pr g u kg vg cg x hcp hu =>
    obtain ⟨_, h1, h2, h3, h4⟩ := hole_lf_red h hcp
    simp only [pcol] at h3; subst h3
    obtain ⟨h5, h6⟩ := hole_rf_black h4
    exact hole_plug h6 (bh_black (bh_red h5 hl ((col_cases h5).resolve_left hu) cl) (bh_red hr h1 cr h2)) (.inl rfl)
def delL (p : Nat) (kp vp cp : Int) (s : BT) (x : Ctx) : Ctx := match s with
  | .nil => .lf p kp vp cp .nil :: x
  | .node si sl ks vs _ sr =>
    if col sr = 0 then .lf p kp vp 1 sl :: .lf si ks vs cp (blk sr) :: x
    else match sl with
      | .nil => .lf p kp vp 1 (.node si .nil ks vs 0 sr) :: x
      | .node a al ka va ca ar => if ca = 0 then .lf p kp vp 1 al :: .lf a ka va cp (.node si ar ks vs 1 sr) :: x else .lf p kp vp 1 (.node si (.node a al ka va ca ar) ks vs 0 sr) :: x
def delR (p : Nat) (kp vp cp : Int) (s : BT) (x : Ctx) : Ctx := match s with
  | .nil => .rf p .nil kp vp cp :: x
  | .node si sl ks vs _ sr =>
    if col sl = 0 then .rf p sr kp vp 1 :: .rf si (blk sl) ks vs cp :: x
    else match sr with
      | .nil => .rf p (.node si sl ks vs 0 .nil) kp vp 1 :: x
      | .node a al ka va ca ar => if ca = 0 then .rf p ar kp vp 1 :: .rf a (.node si sl ks vs 1 al) ka va cp :: x else .rf p (.node si sl ks vs 0 (.node a al ka va ca ar)) kp vp 1 :: x
def nb : BT → Bool
  | .nil => false
  | .node _ l _ _ _ r => col l == 1 && col r == 1
theorem nb_of {i : Nat} {l r : BT} {k v c : Int} (hl : col l = 1) (hr : col r = 1) : nb (.node i l k v c r) = true := by simp [nb, hl, hr]
def delC : Ctx → Ctx
  | [] => []
  | .lf p kp vp cp s :: x => match s with
    | .nil => .lf p kp vp cp .nil :: x
    | .node si sl ks vs cs sr =>
      if cs = 0 then delL p kp vp 0 sl (.lf si ks vs 1 sr :: x)
      else if cp = 1 ∧ col sl = 1 ∧ col sr = 1 then .lf p kp vp 1 (.node si sl ks vs 0 sr) :: delC x
      else delL p kp vp cp (.node si sl ks vs cs sr) x
  | .rf p s kp vp cp :: x => match s with
    | .nil => .rf p .nil kp vp cp :: x
    | .node si sl ks vs cs sr =>
      if cs = 0 then delR p kp vp 0 sr (.rf si sl ks vs 1 :: x)
      else if cp = 1 ∧ col sl = 1 ∧ col sr = 1 then .rf p (.node si sl ks vs 0 sr) kp vp 1 :: delC x
      else delR p kp vp cp (.node si sl ks vs cs sr) x
theorem delL_kvs (p : Nat) (kp vp cp : Int) (s : BT) (x : Ctx) : Ctx.kvsL (delL p kp vp cp s x) = Ctx.kvsL x ∧ Ctx.kvsR (delL p kp vp cp s x) = (kp, vp) :: (s.kvs ++ Ctx.kvsR x) := by
  fun_cases delL p kp vp cp s x <;> simp_all [Ctx.kvsL, Ctx.kvsR, BT.kvs, blk_kvs]
theorem delR_kvs (p : Nat) (kp vp cp : Int) (s : BT) (x : Ctx) : Ctx.kvsL (delR p kp vp cp s x) = Ctx.kvsL x ++ (s.kvs ++ [(kp, vp)]) ∧ Ctx.kvsR (delR p kp vp cp s x) = Ctx.kvsR x := by
  fun_cases delR p kp vp cp s x <;> simp_all [Ctx.kvsL, Ctx.kvsR, BT.kvs, blk_kvs]
theorem delC_kvs (c : Ctx) : Ctx.kvsL (delC c) = Ctx.kvsL c ∧ Ctx.kvsR (delC c) = Ctx.kvsR c := by
  fun_induction delC c <;> simp_all [Ctx.kvsL, Ctx.kvsR, BT.kvs, delL_kvs, delR_kvs]
theorem delL_mem (p : Nat) (kp vp cp : Int) (s : BT) (x : Ctx) (b : Nat) : b ∈ (delL p kp vp cp s x).ids ↔ b = p ∨ b ∈ s.ids ∨ b ∈ x.ids := by
  fun_cases delL p kp vp cp s x <;> simp_all only [Ctx.ids, Fr.ids, BT.ids, blk_ids, List.mem_append, List.mem_cons, List.not_mem_nil] <;> grind
theorem delR_mem (p : Nat) (kp vp cp : Int) (s : BT) (x : Ctx) (b : Nat) : b ∈ (delR p kp vp cp s x).ids ↔ b = p ∨ b ∈ s.ids ∨ b ∈ x.ids := by
  fun_cases delR p kp vp cp s x <;> simp_all only [Ctx.ids, Fr.ids, BT.ids, blk_ids, List.mem_append, List.mem_cons, List.not_mem_nil] <;> grind
theorem delC_mem (c : Ctx) (b : Nat) : b ∈ (delC c).ids ↔ b ∈ c.ids := by
  fun_induction delC c <;> simp_all only [Ctx.ids, Fr.ids, BT.ids, delL_mem, delR_mem, List.mem_append, List.mem_cons, List.not_mem_nil] <;> grind
def Mended (c : Ctx) (n : Nat) : Prop := Hole c n ∧ (c = [] ∨ pcol c = 1)
theorem delL_ok {p : Nat} {kp vp cp : Int} {s : BT} {x : Ctx} {m : Nat} (h : Hole (.lf p kp vp cp s :: x) (m + 1)) (hs : col s = 1) (hc : cp = 0 ∨ nb s = false) : Mended (delL p kp vp cp s x) m := by
  have hb : BH s (m + 1) := by rcases h with ⟨_, h, _⟩ | ⟨_, h, _⟩ <;> exact h
  have hx : (cp = 1 ∧ Hole x (m + 2)) ∨ (cp = 0 ∧ pcol x = 1 ∧ Hole x (m + 1)) := by
    rcases h with ⟨h1, _, h2⟩ | ⟨h1, _, _, h2, h3⟩
    · exact .inl ⟨h1, h2⟩
    · exact .inr ⟨h1, h2, h3⟩
  cases s with
  | nil => simp [BH] at hb
  | node si sl ks vs cs sr =>
    simp only [col] at hs; subst hs
    obtain ⟨m', hm, hl, hr⟩ := bh_black_inv hb
    have : m' = m := by omega
    subst this
    have up : ∀ {i : Nat} {k v : Int} {r : BT}, BH r (m' + 1) → col r = 1 → Hole (.lf i k v cp r :: x) (m' + 1) := fun hq hcq => by
      rcases hx with ⟨rfl, h2⟩ | ⟨rfl, h2, h3⟩
      · exact .inl ⟨rfl, hq, h2⟩
      · exact .inr ⟨rfl, hq, hcq, h2, h3⟩
    simp only [delL]
    split
    · rename_i hsr
      exact ⟨.inl ⟨rfl, hl, up (blk_red hr hsr) (blk_col _)⟩, .inr rfl⟩
    · rename_i hsr
      have hsr1 := (col_cases hr).resolve_left hsr
      cases sl with
      | nil =>
        have : cp = 0 := by
          rcases hc with h | h
          · exact h
          · rw [show nb (.node si .nil ks vs 1 sr) = true from nb_of rfl hsr1] at h; cases h
        subst this
        rcases hx with ⟨h0, _⟩ | ⟨_, h2, h3⟩
        · omega
        · exact ⟨.inl ⟨rfl, bh_red hl hr rfl hsr1, h3⟩, .inr rfl⟩
      | node a al ka va ca ar =>
        simp only
        split
        · rename_i hca
          subst hca
          obtain ⟨h1, h2, _, _⟩ := bh_red_inv hl
          exact ⟨.inl ⟨rfl, h1, up (bh_black h2 hr) rfl⟩, .inr rfl⟩
        · rename_i hca
          have hca1 : ca = 1 := (col_cases hl).resolve_left hca
          have : cp = 0 := by
            rcases hc with h | h
            · exact h
            · rw [show nb (.node si (.node a al ka va ca ar) ks vs 1 sr) = true from nb_of hca1 hsr1] at h; cases h
          subst this
          rcases hx with ⟨h0, _⟩ | ⟨_, h2, h3⟩
          · omega
          · exact ⟨.inl ⟨rfl, bh_red hl hr hca1 hsr1, h3⟩, .inr rfl⟩
theorem delR_ok {p : Nat} {kp vp cp : Int} {s : BT} {x : Ctx} {m : Nat} (h : Hole (.rf p s kp vp cp :: x) (m + 1)) (hs : col s = 1) (hc : cp = 0 ∨ nb s = false) : Mended (delR p kp vp cp s x) m := by
  have hb : BH s (m + 1) := by rcases h with ⟨_, h, _⟩ | ⟨_, h, _⟩ <;> exact h
  have hx : (cp = 1 ∧ Hole x (m + 2)) ∨ (cp = 0 ∧ pcol x = 1 ∧ Hole x (m + 1)) := by
    rcases h with ⟨h1, _, h2⟩ | ⟨h1, _, _, h2, h3⟩
    · exact .inl ⟨h1, h2⟩
    · exact .inr ⟨h1, h2, h3⟩
  cases s with
  | nil => simp [BH] at hb
  | node si sl ks vs cs sr =>
    simp only [col] at hs; subst hs
    obtain ⟨m', hm, hl, hr⟩ := bh_black_inv hb
    have : m' = m := by omega
    subst this
    have up : ∀ {i : Nat} {k v : Int} {l : BT}, BH l (m' + 1) → col l = 1 → Hole (.rf i l k v cp :: x) (m' + 1) := fun hq hcq => by
      rcases hx with ⟨rfl, h2⟩ | ⟨rfl, h2, h3⟩
      · exact .inl ⟨rfl, hq, h2⟩
      · exact .inr ⟨rfl, hq, hcq, h2, h3⟩
    simp only [delR]
    split
    · rename_i hsl
      exact ⟨.inl ⟨rfl, hr, up (blk_red hl hsl) (blk_col _)⟩, .inr rfl⟩
    · rename_i hsl
      have hsl1 := (col_cases hl).resolve_left hsl
      cases sr with
      | nil =>
        have : cp = 0 := by
          rcases hc with h | h
          · exact h
          · rw [show nb (.node si sl ks vs 1 .nil) = true from nb_of hsl1 rfl] at h; cases h
        subst this
        rcases hx with ⟨h0, _⟩ | ⟨_, h2, h3⟩
        · omega
        · exact ⟨.inl ⟨rfl, bh_red hl hr hsl1 rfl, h3⟩, .inr rfl⟩
      | node a al ka va ca ar =>
        simp only
        split
        · rename_i hca
          subst hca
          obtain ⟨h1, h2, _, _⟩ := bh_red_inv hr
          exact ⟨.inl ⟨rfl, h2, up (bh_black hl h1) rfl⟩, .inr rfl⟩
        · rename_i hca
          have hca1 : ca = 1 := (col_cases hr).resolve_left hca
          have : cp = 0 := by
            rcases hc with h | h
            · exact h
            · rw [show nb (.node si sl ks vs 1 (.node a al ka va ca ar)) = true from nb_of hsl1 hca1] at h; cases h
          subst this
          rcases hx with ⟨h0, _⟩ | ⟨_, h2, h3⟩
          · omega
          · exact ⟨.inl ⟨rfl, bh_red hl hr hsl1 hca1, h3⟩, .inr rfl⟩
theorem delC_ok {c : Ctx} {m : Nat} (h : Hole c (m + 1)) : Mended (delC c) m := by
  fun_induction delC c generalizing m with
  | case1 => exact ⟨trivial, .inl rfl⟩
  | case2 p kp vp cp x => rcases h with ⟨_, h, _⟩ | ⟨_, h, _⟩ <;> simp [BH] at h
  | case3 p kp vp cp x si sl ks vs sr =>
    rcases h with ⟨rfl, h1, h2⟩ | ⟨_, _, h1, _⟩
    · obtain ⟨h3, h4, h5, h6⟩ := bh_red_inv h1
      exact delL_ok (.inr ⟨rfl, h3, h5, rfl, .inl ⟨rfl, h4, h2⟩⟩) h5 (.inl rfl)
    · simp [col] at h1
  | case4 p kp vp cp x si sl ks vs cs sr hcs hc ih =>
    obtain ⟨rfl, hl, hr⟩ := hc
    obtain ⟨h1, h2⟩ := hole_lf_black h
    have : cs = 1 := (col_cases h1).resolve_left hcs
    subst this
    obtain ⟨m', hm, h3, h4⟩ := bh_black_inv h1
    have : m' = m := by omega
    subst this
    exact ⟨.inl ⟨rfl, bh_red h3 h4 hl hr, (ih h2).1⟩, .inr rfl⟩
  | case5 p kp vp cp x si sl ks vs cs sr hcs hc =>
    have hb : BH (.node si sl ks vs cs sr) (m + 1) := by rcases h with ⟨_, h, _⟩ | ⟨_, h, _⟩ <;> exact h
    have hcp : cp = 1 ∨ cp = 0 := by rcases h with ⟨h, _⟩ | ⟨h, _⟩; exact .inl h; exact .inr h
    refine delL_ok h ((col_cases hb).resolve_left hcs) ?_
    rcases hcp with h1 | h1
    · refine .inr ?_
      simp only [nb, Bool.and_eq_false_iff, beq_eq_false_iff_ne]
      by_cases h2 : col sl = 1
      · exact .inr fun h3 => hc ⟨h1, h2, h3⟩
      · exact .inl h2
    · exact .inl h1
  | case6 p kp vp cp x => rcases h with ⟨_, h, _⟩ | ⟨_, h, _⟩ <;> simp [BH] at h
  | case7 p kp vp cp x si sl ks vs sr =>
    rcases h with ⟨rfl, h1, h2⟩ | ⟨_, _, h1, _⟩
    · obtain ⟨h3, h4, h5, h6⟩ := bh_red_inv h1
      exact delR_ok (.inr ⟨rfl, h4, h6, rfl, .inl ⟨rfl, h3, h2⟩⟩) h6 (.inl rfl)
    · simp [col] at h1
  | case8 p kp vp cp x si sl ks vs cs sr hcs hc ih =>
    obtain ⟨rfl, hl, hr⟩ := hc
    obtain ⟨h1, h2⟩ := hole_rf_black h
    have : cs = 1 := (col_cases h1).resolve_left hcs
    subst this
    obtain ⟨m', hm, h3, h4⟩ := bh_black_inv h1
    have : m' = m := by omega
    subst this
    exact ⟨.inl ⟨rfl, bh_red h3 h4 hl hr, (ih h2).1⟩, .inr rfl⟩
  | case9 p kp vp cp x si sl ks vs cs sr hcs hc =>
    have hb : BH (.node si sl ks vs cs sr) (m + 1) := by rcases h with ⟨_, h, _⟩ | ⟨_, h, _⟩ <;> exact h
    have hcp : cp = 1 ∨ cp = 0 := by rcases h with ⟨h, _⟩ | ⟨h, _⟩; exact .inl h; exact .inr h
    refine delR_ok h ((col_cases hb).resolve_left hcs) ?_
    rcases hcp with h1 | h1
    · refine .inr ?_
      simp only [nb, Bool.and_eq_false_iff, beq_eq_false_iff_ne]
      by_cases h2 : col sl = 1
      · exact .inr fun h3 => hc ⟨h1, h2, h3⟩
      · exact .inl h2
    · exact .inl h1
def find (o : Ord) (k : Int) : Ctx → BT → Ctx × BT
  | c, .nil => (c, .nil)
  | c, .node i l k' v b r => if o.rk k = o.rk k' then (c, .node i l k' v b r) else if o.rk k < o.rk k' then find o k (.lf i k' v b r :: c) l else find o k (.rf i l k' v b :: c) r
theorem find_here {o : Ord} {k : Int} {c : Ctx} {i : Nat} {l r : BT} {k' v b : Int} (h : o.rk k = o.rk k') : find o k c (.node i l k' v b r) = (c, .node i l k' v b r) := by rw [find, if_pos h]
theorem find_left {o : Ord} {k : Int} {c : Ctx} {i : Nat} {l r : BT} {k' v b : Int} (h : o.rk k < o.rk k') : find o k c (.node i l k' v b r) = find o k (.lf i k' v b r :: c) l := by rw [find, if_neg (by omega), if_pos h]
theorem find_right {o : Ord} {k : Int} {c : Ctx} {i : Nat} {l r : BT} {k' v b : Int} (h : o.rk k' < o.rk k) : find o k c (.node i l k' v b r) = find o k (.rf i l k' v b :: c) r := by rw [find, if_neg (by omega), if_neg (by omega)]
theorem find_plug (o : Ord) (k : Int) (c : Ctx) (t : BT) : Ctx.plug (find o k c t).1 (find o k c t).2 = Ctx.plug c t := by
  fun_induction find o k c t <;> simp_all [Ctx.plug, Fr.plug]
theorem find_hole {o : Ord} {k : Int} {c : Ctx} {t : BT} {n : Nat} (h : Hole c n) (hb : BH t n) (hc : col t = 1 ∨ pcol c = 1) : ∃ m, Hole (find o k c t).1 m ∧ BH (find o k c t).2 m ∧ (col (find o k c t).2 = 1 ∨ pcol (find o k c t).1 = 1) := by
  induction t generalizing c n with
  | nil => exact ⟨n, h, hb, hc⟩
  | node i l k' v b r ihl ihr =>
    rcases Int.lt_trichotomy (o.rk k) (o.rk k') with hlt | he | hgt
    · rw [find_left hlt]
      obtain ⟨m, h1, h2, h3⟩ := hole_downL h hb hc
      exact ihl h1 h2 h3
    · rw [find_here he]; exact ⟨n, h, hb, hc⟩
    · rw [find_right hgt]
      obtain ⟨m, h1, h2, h3⟩ := hole_downR h hb hc
      exact ihr h1 h2 h3
theorem find_kvs {o : Ord} {k : Int} {c : Ctx} {t : BT} (ha : Ahead o (Ctx.kvsL c) k) (hb : Behind o (Ctx.kvsR c) k) (h : Asc o t.kvs) :
    Ahead o (Ctx.kvsL (find o k c t).1) k ∧ Behind o (Ctx.kvsR (find o k c t).1) k ∧ ((find o k c t).2 = .nil ∨ ∃ i l k' v b r, (find o k c t).2 = .node i l k' v b r ∧ o.rk k = o.rk k' ∧ Asc o (BT.node i l k' v b r).kvs) := by
  induction t generalizing c with
  | nil => exact ⟨ha, hb, .inl rfl⟩
  | node i l k' v b r ihl ihr =>
    have hm := asc_mid.1 h
    rcases Int.lt_trichotomy (o.rk k) (o.rk k') with hlt | he | hgt
    · rw [find_left hlt]
      refine ihl ha ?_ hm.1
      intro p hp
      simp only [Ctx.kvsR, List.mem_cons, List.mem_append] at hp
      rcases hp with rfl | hp | hp
      · exact hlt
      · have := hm.2.2.2 p hp; omega
      · exact hb p hp
    · rw [find_here he]; exact ⟨ha, hb, .inr ⟨i, l, k', v, b, r, rfl, he, h⟩⟩
    · rw [find_right hgt]
      refine ihr ?_ hb hm.2.1
      intro p hp
      simp only [Ctx.kvsL, List.mem_append, List.mem_singleton] at hp
      rcases hp with hp | hp | rfl
      · exact ha p hp
      · have := hm.2.2.1 p hp; omega
      · exact hgt
theorem ins_first {o : Ord} {l : KV} {k v : Int} (h : Behind o l k) : ins o k v l = (k, v) :: l := by
  cases l with
  | nil => rfl
  | cons x l =>
    obtain ⟨a, y⟩ := x
    have := h (a, y) (by simp)
    simp only at this
    rw [ins, if_pos this]
theorem del_none {o : Ord} {l : KV} {k : Int} (h : Behind o l k) : del o k l = l := by
  cases l with
  | nil => rfl
  | cons x l =>
    obtain ⟨a, y⟩ := x
    have := h (a, y) (by simp)
    simp only at this
    rw [del, if_pos this]
theorem look_none {o : Ord} {l : KV} {k : Int} (h : Behind o l k) : look o k l = none := by
  cases l with
  | nil => rfl
  | cons x l =>
    obtain ⟨a, y⟩ := x
    have := h (a, y) (by simp)
    simp only at this
    rw [look, if_pos this]
def putAt (n : Nat) (k v : Int) (x : Ctx × BT) : BT := match x.2 with
  | .nil => fix n .nil k v .nil x.1
  | .node i l _ _ b r => Ctx.plug x.1 (.node i l k v b r)
def put (o : Ord) (n : Nat) (k v : Int) (t : BT) : BT := putAt n k v (find o k [] t)
def has (o : Ord) (k : Int) (t : BT) : Bool := match (find o k [] t).2 with
  | .nil => false
  | .node .. => true
theorem has_look {o : Ord} {k : Int} {t : BT} (h : Asc o t.kvs) : has o k t = (look o k t.kvs).isSome := by
  have hf := find_kvs (o := o) (k := k) (c := []) (t := t) (fun p hp => by simp [Ctx.kvsL] at hp) (fun p hp => by simp [Ctx.kvsR] at hp) h
  have hp := find_plug o k [] t
  have e : t.kvs = (Ctx.plug (find o k [] t).1 (find o k [] t).2).kvs := by rw [hp]; rfl
  rw [e, Ctx.kvs_plug]
  unfold has
  obtain ⟨h1, h2, h3⟩ := hf
  rcases h3 with h3 | ⟨i, l, k', v, b, r, h3, h4, h5⟩
  · rw [h3, look_ahead h1]
    simp only [BT.kvs, List.nil_append]
    rw [look_none h2]; rfl
  · rw [h3, look_ahead h1]
    simp only [BT.kvs, List.append_assoc, List.cons_append]
    rw [look_here (asc_mid.1 h5).2.2.1 h4]; rfl
theorem put_kvs {o : Ord} {n : Nat} {k v : Int} {t : BT} (h : Asc o t.kvs) : (put o n k v t).kvs = ins o k v t.kvs := by
  have hf := find_kvs (o := o) (k := k) (c := []) (t := t) (fun p hp => by simp [Ctx.kvsL] at hp) (fun p hp => by simp [Ctx.kvsR] at hp) h
  have hp := find_plug o k [] t
  have e : t.kvs = (Ctx.plug (find o k [] t).1 (find o k [] t).2).kvs := by rw [hp]; rfl
  rw [e, Ctx.kvs_plug]
  unfold put putAt
  obtain ⟨h1, h2, h3⟩ := hf
  rcases h3 with h3 | ⟨i, l, k', v', b, r, h3, h4, h5⟩
  · rw [h3]
    simp only
    rw [fix_kvs, Ctx.kvs_plug, ins_ahead h1]
    simp only [BT.kvs, List.nil_append]
    rw [ins_first h2]; rfl
  · rw [h3]
    simp only
    rw [Ctx.kvs_plug, ins_ahead h1]
    simp only [BT.kvs, List.append_assoc, List.cons_append]
    rw [ins_here (asc_mid.1 h5).2.2.1 h4]
theorem put_ok {o : Ord} {n : Nat} {k v : Int} {t : BT} (h : ok t) : ok (put o n k v t) := by
  obtain ⟨m, hb, hc⟩ := h
  obtain ⟨m', h1, h2, h3⟩ := find_hole (o := o) (k := k) (c := []) (t := t) (n := m) trivial hb (.inl hc)
  unfold put putAt
  generalize find o k [] t = x at *
  obtain ⟨c, s⟩ := x
  cases s with
  | nil => exact fix_ok h1 h2 h2 rfl rfl
  | node i l k' v' b r => exact hole_plug (n := m') h1 h2 h3
theorem put_mem {o : Ord} {n : Nat} {k v : Int} {t : BT} {b : Nat} (h : b ∈ (put o n k v t).ids) : b = n ∨ b ∈ t.ids := by
  have hp := find_plug o k [] t
  have e : t = Ctx.plug (find o k [] t).1 (find o k [] t).2 := by rw [hp]; rfl
  rw [e, mem_plug]
  unfold put putAt at h
  generalize find o k [] t = x at *
  obtain ⟨c, s⟩ := x
  cases s with
  | nil =>
    simp only [fix_mem, mem_plug, BT.ids, List.mem_cons, List.not_mem_nil, List.nil_append, or_false] at h
    rcases h with h | h
    · exact .inr (.inl h)
    · exact .inl h
  | node i l k' v' b' r =>
    simp only [mem_plug] at h
    exact .inr h
def maxp : Ctx → BT → Ctx × BT
  | c, .nil => (c, .nil)
  | c, .node i l k v b r => match r with
    | .nil => (c, .node i l k v b .nil)
    | .node i' l' k' v' b' r' => maxp (.rf i l k v b :: c) (.node i' l' k' v' b' r')
theorem maxp_step {c : Ctx} {i : Nat} {l r : BT} {k v b : Int} (h : r ≠ .nil) : maxp c (.node i l k v b r) = maxp (.rf i l k v b :: c) r := by
  cases r with
  | nil => exact absurd rfl h
  | node => rw [maxp]
theorem maxp_end {c : Ctx} {i : Nat} {l : BT} {k v b : Int} : maxp c (.node i l k v b .nil) = (c, .node i l k v b .nil) := by rw [maxp]
theorem maxp_spec {t : BT} : ∀ (c : Ctx), t ≠ .nil → ∃ j jl jk jv jb, (∀ c, (maxp c t).2 = .node j jl jk jv jb .nil) ∧ Ctx.kvsR (maxp c t).1 = Ctx.kvsR c ∧ Ctx.kvsL (maxp c t).1 ++ (jl.kvs ++ [(jk, jv)]) = Ctx.kvsL c ++ t.kvs ∧ Ctx.plug (maxp c t).1 (.node j jl jk jv jb .nil) = Ctx.plug c t := by
  induction t with
  | nil => intro c h; exact absurd rfl h
  | node i l k v b r ihl ihr =>
    intro c _
    by_cases h : r = .nil
    · subst h
      refine ⟨i, l, k, v, b, fun c => by rw [maxp_end], ?_, ?_, ?_⟩ <;> rw [maxp_end]
      simp [BT.kvs]
    · obtain ⟨j, jl, jk, jv, jb, h1, h2, h3, h4⟩ := ihr (.rf i l k v b :: c) h
      refine ⟨j, jl, jk, jv, jb, fun c => by rw [maxp_step h]; exact h1 _, ?_, ?_, ?_⟩ <;> rw [maxp_step h]
      · rw [h2]; rfl
      · rw [h3]; simp [Ctx.kvsL, BT.kvs]
      · rw [h4]; rfl
theorem maxp_hole {t : BT} {c : Ctx} {n : Nat} (ht : t ≠ .nil) (h : Hole c n) (hb : BH t n) (hc : col t = 1 ∨ pcol c = 1) : ∃ m, Hole (maxp c t).1 m ∧ BH (maxp c t).2 m ∧ (col (maxp c t).2 = 1 ∨ pcol (maxp c t).1 = 1) := by
  induction t generalizing c n with
  | nil => exact absurd rfl ht
  | node i l k v b r ihl ihr =>
    by_cases hr : r = .nil
    · subst hr; rw [maxp_end]; exact ⟨n, h, hb, hc⟩
    · rw [maxp_step hr]
      obtain ⟨m, h1, h2, h3⟩ := hole_downR h hb hc
      exact ihr hr h1 h2 h3
def kid (l r : BT) : BT := match r with
  | .nil => l
  | .node .. => r
theorem kid_kvs {l r : BT} (h : l = .nil ∨ r = .nil) : (kid l r).kvs = l.kvs ++ r.kvs := by
  cases r with
  | nil => simp [kid, BT.kvs]
  | node => rcases h with rfl | h; simp [kid, BT.kvs]; cases h
theorem kid_mem {l r : BT} {b : Nat} (h : b ∈ (kid l r).ids) : b ∈ l.ids ∨ b ∈ r.ids := by
  cases r with
  | nil => exact .inl h
  | node => exact .inr h
def fin (c : Ctx) (t : BT) : BT := match c with
  | [] => blk t
  | f :: x => Ctx.plug (f :: x) t
theorem fin_kvs (c : Ctx) (t : BT) : (fin c t).kvs = (Ctx.plug c t).kvs := by cases c <;> simp [fin, blk_kvs, Ctx.plug]
theorem fin_ids (c : Ctx) (t : BT) : (fin c t).ids = (Ctx.plug c t).ids := by cases c <;> simp [fin, blk_ids, Ctx.plug]
def cutC (c : Ctx) (b : Int) : Ctx := if b = 1 then delC c else c
def cut (c : Ctx) : BT → BT
  | .nil => Ctx.plug c .nil
  | .node _ l _ _ b r => fin (cutC c b) (kid l r)
theorem cut_kvs {c : Ctx} {i : Nat} {l r : BT} {k v b : Int} (h : l = .nil ∨ r = .nil) : (cut c (.node i l k v b r)).kvs = Ctx.kvsL c ++ ((l.kvs ++ r.kvs) ++ Ctx.kvsR c) := by
  rw [cut, fin_kvs, Ctx.kvs_plug, kid_kvs h]
  unfold cutC
  split
  · rw [(delC_kvs c).1, (delC_kvs c).2]
  · rfl
theorem cut_mem {c : Ctx} {i : Nat} {l r : BT} {k v b : Int} {x : Nat} (h : x ∈ (cut c (.node i l k v b r)).ids) : x ∈ c.ids ∨ x ∈ l.ids ∨ x ∈ r.ids := by
  rw [cut, fin_ids, mem_plug] at h
  rcases h with h | h
  · refine .inl ?_
    unfold cutC at h
    split at h
    · exact (delC_mem c x).1 h
    · exact h
  · exact .inr (kid_mem h)
theorem cut_ok {c : Ctx} {i : Nat} {l r : BT} {k v b : Int} {n : Nat} (h : l = .nil ∨ r = .nil) (hh : Hole c n) (hb : BH (.node i l k v b r) n) (hc : b = 1 ∨ pcol c = 1) : ok (cut c (.node i l k v b r)) := by
  rw [cut]
  unfold cutC
  rcases hb with ⟨rfl, m, rfl, hl, hr⟩ | ⟨rfl, hl, hr, cl, cr⟩
  · rw [if_pos rfl]
    have hm : m = 0 := by rcases h with rfl | rfl <;> assumption
    subst hm
    have hk : BH (kid l r) 0 := by
      cases r with
      | nil => exact hl
      | node => exact hr
    obtain ⟨h1, h2⟩ := delC_ok hh
    generalize delC c = c' at *
    cases c' with
    | nil => exact blk_ok hk
    | cons f x => exact hole_plug h1 hk (.inr (h2.resolve_left (by simp)))
  · rw [if_neg (by omega)]
    have hm : n = 0 := by rcases h with rfl | rfl <;> assumption
    subst hm
    have e1 := bh_zero hl cl
    have e2 := bh_zero hr cr
    subst e1 e2
    cases c with
    | nil => simp [pcol] at hc
    | cons f x => exact hole_plug hh hl (.inl rfl)
def remNode (c : Ctx) : BT → BT
  | .nil => Ctx.plug c .nil
  | .node i l k v b r => match l, r with
    | .nil, r => cut c (.node i .nil k v b r)
    | l, .nil => cut c (.node i l k v b .nil)
    | l, r => match (maxp [] l).2 with
      | .nil => .nil
      | .node _ _ jk jv _ _ => cut (maxp (.lf i jk jv b r :: c) l).1 (maxp (.lf i jk jv b r :: c) l).2
theorem remNode_one {c : Ctx} {i : Nat} {l r : BT} {k v b : Int} (h : l = .nil ∨ r = .nil) : remNode c (.node i l k v b r) = cut c (.node i l k v b r) := by
  rcases h with rfl | rfl
  · rfl
  · cases l <;> rfl
theorem remNode_two {c : Ctx} {i : Nat} {l r : BT} {k v b : Int} {j : Nat} {jl : BT} {jk jv jb : Int} (hl : l ≠ .nil) (hr : r ≠ .nil) (h : ∀ c, (maxp c l).2 = .node j jl jk jv jb .nil) : remNode c (.node i l k v b r) = cut (maxp (.lf i jk jv b r :: c) l).1 (.node j jl jk jv jb .nil) := by
  cases l with
  | nil => exact absurd rfl hl
  | node i2 l2 k2 v2 b2 r2 =>
    cases r with
    | nil => exact absurd rfl hr
    | node i3 l3 k3 v3 b3 r3 =>
      simp only [remNode]
      rw [h []]
      simp only
      rw [h]
def remove (o : Ord) (k : Int) (t : BT) : BT := remNode (find o k [] t).1 (find o k [] t).2
theorem remNode_kvs {c : Ctx} {i : Nat} {l r : BT} {k v b : Int} : (remNode c (.node i l k v b r)).kvs = Ctx.kvsL c ++ ((l.kvs ++ r.kvs) ++ Ctx.kvsR c) := by
  by_cases h : l = .nil ∨ r = .nil
  · rw [remNode_one h, cut_kvs h]
  · simp only [not_or] at h
    obtain ⟨j, jl, jk, jv, jb, h1, _, _, _⟩ := maxp_spec (t := l) [] h.1
    rw [remNode_two h.1 h.2 h1]
    obtain ⟨j', jl', jk', jv', jb', h1', h2, h3, _⟩ := maxp_spec (t := l) (.lf i jk jv b r :: c) h.1
    have e := (h1 []).symm.trans (h1' [])
    simp only [BT.node.injEq] at e
    obtain ⟨rfl, rfl, rfl, rfl, rfl, _⟩ := e
    rw [cut_kvs (.inr rfl), h2]
    simp only [Ctx.kvsR, Ctx.kvsL, BT.kvs, List.append_nil] at h3 ⊢
    have : ∀ (a b x y : KV), a ++ (b ++ (jk, jv) :: x) = (a ++ (b ++ [(jk, jv)])) ++ x := fun a b x y => by simp
    rw [this _ _ _ [], h3]
    simp
theorem remNode_ok {c : Ctx} {i : Nat} {l r : BT} {k v b : Int} {n : Nat} (h : Hole c n) (hb : BH (.node i l k v b r) n) (hc : b = 1 ∨ pcol c = 1) : ok (remNode c (.node i l k v b r)) := by
  by_cases hlr : l = .nil ∨ r = .nil
  · rw [remNode_one hlr]; exact cut_ok hlr h hb hc
  · simp only [not_or] at hlr
    obtain ⟨j, jl, jk, jv, jb, h1, _, _, _⟩ := maxp_spec (t := l) [] hlr.1
    rw [remNode_two hlr.1 hlr.2 h1]
    have hb' : BH (.node i l jk jv b r) n := hb
    obtain ⟨m, h2, h3, h4⟩ := hole_downL h hb' hc
    obtain ⟨m', h5, h6, h7⟩ := maxp_hole hlr.1 h2 h3 h4
    rw [h1] at h6 h7
    exact cut_ok (.inr rfl) h5 h6 h7
theorem remNode_mem {c : Ctx} {i : Nat} {l r : BT} {k v b : Int} {x : Nat} (h : x ∈ (remNode c (.node i l k v b r)).ids) : x ∈ c.ids ∨ x = i ∨ x ∈ l.ids ∨ x ∈ r.ids := by
  by_cases hlr : l = .nil ∨ r = .nil
  · rw [remNode_one hlr] at h
    rcases cut_mem h with h | h | h <;> simp [h]
  · simp only [not_or] at hlr
    obtain ⟨j, jl, jk, jv, jb, h1, _, _, _⟩ := maxp_spec (t := l) [] hlr.1
    rw [remNode_two hlr.1 hlr.2 h1] at h
    obtain ⟨j', jl', jk', jv', jb', h1', _, _, h4⟩ := maxp_spec (t := l) (.lf i jk jv b r :: c) hlr.1
    have e := (h1 []).symm.trans (h1' [])
    simp only [BT.node.injEq] at e
    obtain ⟨rfl, rfl, rfl, rfl, rfl, _⟩ := e
    have hm : x ∈ (Ctx.plug (maxp (.lf i jk jv b r :: c) l).1 (.node j jl jk jv jb .nil)).ids := by
      rw [mem_plug]
      rcases cut_mem h with h | h | h
      · exact .inl h
      · exact .inr (by simp [BT.ids, h])
      · simp [BT.ids] at h
    rw [h4, mem_plug] at hm
    simp only [Ctx.ids, Fr.ids, List.mem_append, List.mem_cons] at hm
    grind
theorem remove_kvs {o : Ord} {k : Int} {t : BT} (h : Asc o t.kvs) : (remove o k t).kvs = del o k t.kvs := by
  have hf := find_kvs (o := o) (k := k) (c := []) (t := t) (fun p hp => by simp [Ctx.kvsL] at hp) (fun p hp => by simp [Ctx.kvsR] at hp) h
  have hp := find_plug o k [] t
  have e : t.kvs = (Ctx.plug (find o k [] t).1 (find o k [] t).2).kvs := by rw [hp]; rfl
  rw [e, Ctx.kvs_plug]
  unfold remove
  obtain ⟨h1, h2, h3⟩ := hf
  rcases h3 with h3 | ⟨i, l, k', v', b, r, h3, h4, h5⟩
  · rw [h3, remNode, Ctx.kvs_plug, del_ahead h1]
    simp only [BT.kvs, List.nil_append]
    rw [del_none h2]
  · rw [h3, remNode_kvs, del_ahead h1]
    simp only [BT.kvs, List.append_assoc, List.cons_append]
    rw [del_here (asc_mid.1 h5).2.2.1 h4]
theorem remove_ok {o : Ord} {k : Int} {t : BT} (h : ok t) : ok (remove o k t) := by
  obtain ⟨m, hb, hc⟩ := h
  obtain ⟨m', h1, h2, h3⟩ := find_hole (o := o) (k := k) (c := []) (t := t) (n := m) trivial hb (.inl hc)
  unfold remove
  generalize find o k [] t = x at *
  obtain ⟨c, s⟩ := x
  cases s with
  | nil => exact hole_plug (n := m') h1 h2 h3
  | node i l k' v' b r => exact remNode_ok h1 h2 h3
theorem remove_mem {o : Ord} {k : Int} {t : BT} {b : Nat} (h : b ∈ (remove o k t).ids) : b ∈ t.ids := by
  have hp := find_plug o k [] t
  have e : t = Ctx.plug (find o k [] t).1 (find o k [] t).2 := by rw [hp]; rfl
  rw [e, mem_plug]
  unfold remove at h
  generalize find o k [] t = x at *
  obtain ⟨c, s⟩ := x
  cases s with
  | nil =>
    simp only [remNode, mem_plug] at h
    exact h
  | node i l k' v' b' r =>
    rcases remNode_mem h with h | h | h | h <;> simp [BT.ids, h]
end Go.Proofs.YtbdcepkahdecjaaGreat.Rb
