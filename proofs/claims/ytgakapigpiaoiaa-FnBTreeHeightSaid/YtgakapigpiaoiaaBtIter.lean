import Derived.Test.YtgakapigpiaoiaaBtWays
import Derived.Test.YtgakapigpiaoiaaBtTops
import Derived.Test.YtgakapigpiaoiaaScopeOnce
namespace Go.Proofs.Ytgakapigpiaoiaa.Bt
open Go.RowKit Go.Proofs.Ytgakapigpiaoiaa
abbrev itC (tb : Nat) (n e : Option Nat) (p : Int) : Array Value := #[.pointer (some ⟨tb, 0, none⟩), ptr n, ptr e, .int .u8 p]
section
variable {m : Int} {o : Ord} {B tb x itb i rt : Nat} {w w' : World} {H : Hd} {σ : Store} {α : Nat → Arr} {l : KV} {d : ND} {L R : KV} {e : En}
theorem it_size : (Try.prog.info? 94).map (·.size) = some 4 := by kernel_rfl
theorem itSetN {n en : Option Nat} {p : Int} (h : Blk w itb 94 (itC tb n en p)) (q : Option Nat) : Blk (w.setCell ⟨itb, 1, none⟩ (ptr q)) itb 94 (itC tb q en p) := Blk.set_ h 1 _
theorem itSetE {n en : Option Nat} {p : Int} (h : Blk w itb 94 (itC tb n en p)) (q : Option Nat) : Blk (w.setCell ⟨itb, 2, none⟩ (ptr q)) itb 94 (itC tb n q p) := Blk.set_ h 2 _
theorem itPos {n en : Option Nat} {p : Int} (h : Blk w itb 94 (itC tb n en p)) (q : Int) : Blk (w.setCell ⟨itb, 3, none⟩ (.int .u8 q)) itb 94 (itC tb n en q) := Blk.set_ h 3 _
theorem St.it {cs : Array Value} (s : St w B H o σ α) (h : Blk w itb 94 cs) (k : Only [itb] w w') : St w' B H o σ α := by
  have row : ∀ {e : TypeId} {n c n' : Nat} {A : Option Addr} {xs : List Value}, w.ownsRow B e 1 (.slice A n c) n' xs → e ≠ 94 → w'.ownsRow B e 1 (.slice A n c) n' xs := fun own hne => own_only own k (fun y hy hm => by
    simp only [List.mem_singleton] at hm
    obtain ⟨cur, hc, _⟩ := own_blk own hy
    exact Blk.ne_ hc h hne hm)
  have blk : ∀ {g : Nat} {t : TypeId} {cs' : Array Value}, Blk w g t cs' → t ≠ 94 → Blk w' g t cs' := fun hb hne => hb.only k (fun hm => by
    simp only [List.mem_singleton] at hm
    exact Blk.ne_ hb h hne hm)
  exact ⟨blk s.hd (by decide), s.hdB, blk s.ord (by decide), fun j d hj => ⟨blk (s.nd j d hj).blk (by decide), row (s.nd j d hj).own1 (by decide), row (s.nd j d hj).own2 (by decide), (s.nd j d hj).ge⟩,
    fun j d e hj he => ⟨blk (s.en j d e hj he).1 (by decide), (s.en j d e hj he).2⟩, s.ne1, s.ne2⟩
theorem BtAt.it {cs : Array Value} (h : BtAt m o B w H σ α l) (hb : Blk w itb 94 cs) (k : Only [itb] w w') : BtAt m o B w' H σ α l := ⟨h.st.it hb k, h.rooted, h.size, h.asc, h.fine, h.hm, h.m3⟩
theorem search_q (s : St w B H o σ α) (ho : o.fine) (h : σ i = some d) (ha : AscE o d.es) (hn : d.es.length ≤ 100000) (k : Int) {r : Nat} (hr : rank o (o.rk k) d.es = r) {b : Bool} (hh : hit o k d.es = b) :
    Calls Try.prog 62 #[.pointer (some ⟨H.tb, 0, none⟩), .pointer (some ⟨i, 0, none⟩), .iface 3 (.int .i64 k)] w fun e w' => e = .returned (.tuple #[.int .i64 (r : Nat), .bool b]) ∧ ∃ n, w' = w.drewN n := by
  have := search_walk s ho h ha hn k
  rw [hr, hh] at this
  exact this
def HitL (w : World) (itb tb : Nat) (σ : Store) (rt : Nat) (LE : KV) (e : Ending) (w' : World) : Prop := e = .returned (.bool true) ∧ ∃ i f R', Spot σ rt i f LE R' ∧ Blk w' itb 94 (itC tb (some i) (some f.b) 1) ∧ Only [itb] w w'
def HitR (w : World) (itb tb : Nat) (σ : Store) (rt : Nat) (RE : KV) (e : Ending) (w' : World) : Prop := e = .returned (.bool true) ∧ ∃ i f L', Spot σ rt i f L' RE ∧ Blk w' itb 94 (itC tb (some i) (some f.b) 1) ∧ Only [itb] w w'
def Out (w : World) (itb tb : Nat) (pos : Int) (e : Ending) (w' : World) : Prop := e = .returned (.bool false) ∧ Blk w' itb 94 (itC tb none none pos) ∧ Only [itb] w w'
theorem itEnd_walk {n en : Option Nat} {p : Int} (hb : Blk w itb 94 (itC tb n en p)) :
    Calls Try.prog 63 #[.pointer (some ⟨itb, 0, none⟩)] w fun e w' => e = .returned (.tuple #[]) ∧ Blk w' itb 94 (itC tb none none 2) ∧ Only [itb] w w' := by
  have hc1 : w.cell? ⟨itb, 1, none⟩ = some (ptr n) := hb.cell 1
  have hc2 : w.cell? ⟨itb, 2, none⟩ = some (ptr en) := hb.cell 2
  have hc3 : w.cell? ⟨itb, 3, none⟩ = some (.int .u8 p) := hb.cell 3
  have hf := hb.frozen
  generalize hY : ptr n = y at hc1
  generalize hZ : ptr en = z at hc2
  have Fin := Lib.hid (show Blk (((w.setCell ⟨itb, 1, none⟩ (.pointer none)).setCell ⟨itb, 3, none⟩ (.int .u8 2)).setCell ⟨itb, 2, none⟩ (.pointer none)) itb 94 (itC tb none none 2) ∧ Only [itb] w (((w.setCell ⟨itb, 1, none⟩ (.pointer none)).setCell ⟨itb, 3, none⟩ (.int .u8 2)).setCell ⟨itb, 2, none⟩ (.pointer none)) from
    ⟨itSetE (itPos (itSetN hb none) 2) none, (((Only.refl _ _).setCell (.inl (by simp)) _).setCell (.inl (by simp)) _).setCell (.inl (by simp)) _⟩)
  clear hb hY hZ
  go_enter Try.func63, Try.ntmps63
  go_wp2_with fail
  go_end0
  exact ⟨rfl, Fin.out⟩
theorem itKey_walk (s : EnAt w B e) (hb : Blk w itb 94 (itC tb (some i) (some e.b) 1)) :
    Calls Try.prog 56 #[.pointer (some ⟨itb, 0, none⟩)] w fun r w' => r = .returned (.iface 3 (.int .i64 e.k)) ∧ w' = w := by
  have hc2 : w.cell? ⟨itb, 2, none⟩ = some (.pointer (some ⟨e.b, 0, none⟩)) := hb.cell 2
  have he : w.cell? ⟨e.b, 0, none⟩ = some (.iface 3 (.int .i64 e.k)) := s.1.cell 0
  clear s hb
  go_enter Try.func56, Try.ntmps56
  go_wp2_with fail
  go_ret
  exact ⟨rfl, rfl⟩
theorem itValue_walk (s : EnAt w B e) (hb : Blk w itb 94 (itC tb (some i) (some e.b) 1)) :
    Calls Try.prog 60 #[.pointer (some ⟨itb, 0, none⟩)] w fun r w' => r = .returned (.iface 3 (.int .i64 e.v)) ∧ w' = w := by
  have hc2 : w.cell? ⟨itb, 2, none⟩ = some (.pointer (some ⟨e.b, 0, none⟩)) := hb.cell 2
  have he : w.cell? ⟨e.b, 1, none⟩ = some (.iface 3 (.int .i64 e.v)) := s.1.cell 1
  clear s hb
  go_enter Try.func60, Try.ntmps60
  go_wp2_with fail
  go_ret
  exact ⟨rfl, rfl⟩
set_option maxRecDepth 100000 in
theorem left_none (h : BtAt m o B w H σ α []) (x : Value) : Calls Try.prog 70 #[.pointer (some ⟨H.tb, 0, none⟩), x] w fun e w' => e = .returned (.pointer none) ∧ w = w' := by
  have ce := empty_walk h.st
  rw [show (H.size == 0) = true from by rw [h.size]; rfl] at ce
  have CE := Lib.hid ce
  clear h ce
  go_enter Try.func70, Try.ntmps70
  go_wp2_with fail
  refine CE.out.mono ?_
  rintro e w1 ⟨rfl, rfl⟩
  go_wp2_with fail
  go_ret
  exact ⟨rfl, rfl⟩
set_option maxRecDepth 100000 in
theorem btLeft_none (h : BtAt m o B w H σ α []) : Calls Try.prog 61 #[.pointer (some ⟨H.tb, 0, none⟩)] w fun e w' => e = .returned (.pointer none) ∧ w = w' := by
  have C := Lib.hid (left_none h (.pointer none))
  have g0 := h.st.hcells.1
  rw [h.none] at g0
  simp only [ptr, Option.map_none] at g0
  clear h
  go_enter Try.func61, Try.ntmps61
  go_wp2_with fail
  refine C.out.mono ?_
  rintro e w1 ⟨rfl, rfl⟩
  go_wp2_with fail
  go_ret
  exact ⟨rfl, rfl⟩
set_option maxRecDepth 100000 in
theorem btLeft_some (h : BtAt m o B w H σ α l) (hr : H.root = some rt) (S : Shp σ rt) (hz : H.size ≠ 0) : Calls Try.prog 61 #[.pointer (some ⟨H.tb, 0, none⟩)] w fun e w' => ∃ j, e = .returned (.pointer (some ⟨j, 0, none⟩)) ∧ LFar σ rt j ∧ Only [] w w' := by
  obtain ⟨r, hrt, _⟩ := S.root
  have C := Lib.hid (left_walk h.st S hz hrt)
  have g0 := h.st.hcells.1
  rw [hr] at g0
  simp only [ptr, Option.map_some] at g0
  clear h hrt hr S hz
  go_enter Try.func61, Try.ntmps61
  go_wp2_with fail
  refine C.out.mono ?_
  rintro e w1 ⟨j, rfl, hj, rfl⟩
  have HJ := Lib.hid hj
  clear hj
  go_wp2_with fail
  go_ret
  exact ⟨j, rfl, HJ.out, Only.refl _ _⟩
set_option maxRecDepth 100000 in
theorem itNext_none (h : BtAt m o B w H σ α []) (hb : Blk w itb 94 (itC H.tb none none 0)) :
    Calls Try.prog 55 #[.pointer (some ⟨itb, 0, none⟩)] w (Out w itb H.tb 2) := by
  have C := Lib.hid (btLeft_none h)
  have CE := Lib.hid (itEnd_walk hb)
  have hc0 : w.cell? ⟨itb, 0, none⟩ = some (.pointer (some ⟨H.tb, 0, none⟩)) := hb.cell 0
  have hc1 : w.cell? ⟨itb, 1, none⟩ = some (.pointer none) := hb.cell 1
  have hc2 : w.cell? ⟨itb, 2, none⟩ = some (.pointer none) := hb.cell 2
  have hc3 : w.cell? ⟨itb, 3, none⟩ = some (.int .u8 0) := hb.cell 3
  have hf := hb.frozen
  clear hb h
  go_enter Try.func55, Try.ntmps55
  go_wp2_with fail
  refine wp_scope_once 0 rfl ?_
  go_wp2_with fail
  refine C.out.mono ?_
  rintro e w' ⟨rfl, rfl⟩
  clear C
  go_wp2_with fail
  try go_step3
  refine And.intro rfl ?_
  show Code.wp _ _ _ _ _
  go_wp2_with fail
  try go_step3
  go_wp2_with fail
  refine CE.out.mono ?_
  rintro e w' ⟨rfl, F⟩
  have F := Lib.hid F
  clear CE
  go_wp2_with fail
  try rw [Exit.noGoto_ret]
  go_ret
  exact ⟨rfl, F.out⟩
set_option maxRecDepth 100000 in
theorem itNext_over (hb : Blk w itb 94 (itC H.tb none none 2)) :
    Calls Try.prog 55 #[.pointer (some ⟨itb, 0, none⟩)] w (Out w itb H.tb 2) := by
  have CE := Lib.hid (itEnd_walk hb)
  have hc0 : w.cell? ⟨itb, 0, none⟩ = some (.pointer (some ⟨H.tb, 0, none⟩)) := hb.cell 0
  have hc1 : w.cell? ⟨itb, 1, none⟩ = some (.pointer none) := hb.cell 1
  have hc2 : w.cell? ⟨itb, 2, none⟩ = some (.pointer none) := hb.cell 2
  have hc3 : w.cell? ⟨itb, 3, none⟩ = some (.int .u8 2) := hb.cell 3
  have hf := hb.frozen
  clear hb
  go_enter Try.func55, Try.ntmps55
  go_wp2_with fail
  refine wp_scope_once 0 rfl ?_
  go_wp2_with fail
  try go_step3
  refine And.intro rfl ?_
  show Code.wp _ _ _ _ _
  go_wp2_with fail
  try go_step3
  go_wp2_with fail
  refine CE.out.mono ?_
  rintro e w' ⟨rfl, F⟩
  have F := Lib.hid F
  clear CE
  go_wp2_with fail
  try rw [Exit.noGoto_ret]
  go_ret
  exact ⟨rfl, F.out⟩
set_option maxHeartbeats 2000000 in
set_option maxRecDepth 100000 in
theorem itNext_start (h : BtAt m o B w H σ α l) (hr : H.root = some rt) (S : Shp σ rt) (hz : H.size ≠ 0) (hfit : Fit σ H.m rt) (hb : Blk w itb 94 (itC H.tb none none 0)) :
    Calls Try.prog 55 #[.pointer (some ⟨itb, 0, none⟩)] w (HitL w itb H.tb σ rt []) := by
  have C := Lib.hid (btLeft_some h hr S hz)
  have hc0 : w.cell? ⟨itb, 0, none⟩ = some (.pointer (some ⟨H.tb, 0, none⟩)) := hb.cell 0
  have hc1 : w.cell? ⟨itb, 1, none⟩ = some (.pointer none) := hb.cell 1
  have hc2 : w.cell? ⟨itb, 2, none⟩ = some (.pointer none) := hb.cell 2
  have hc3 : w.cell? ⟨itb, 3, none⟩ = some (.int .u8 0) := hb.cell 3
  have hf := hb.frozen
  have HH := Lib.hid h
  have SS := Lib.hid S
  have HF := Lib.hid hfit
  have HB := Lib.hid hb
  clear hb h S hz hfit hr
  go_enter Try.func55, Try.ntmps55
  go_wp2_with fail
  refine wp_scope_once 1 rfl ?_
  go_wp2_with fail
  refine C.out.mono ?_
  rintro e w' ⟨j, rfl, hj, on⟩
  clear C hc0 hc1 hc2 hc3 hf
  have h := HH.out
  have S := SS.out
  have hfit := HF.out
  have hm6 := h.m3
  have hb : Blk w' itb 94 _ := HB.out.only on (by simp)
  have hc0 : w'.cell? ⟨itb, 0, none⟩ = some (.pointer (some ⟨H.tb, 0, none⟩)) := hb.cell 0
  have hc1 : w'.cell? ⟨itb, 1, none⟩ = some (.pointer none) := hb.cell 1
  have hc2 : w'.cell? ⟨itb, 2, none⟩ = some (.pointer none) := hb.cell 2
  have hc3 : w'.cell? ⟨itb, 3, none⟩ = some (.int .u8 0) := hb.cell 3
  have hf := hb.frozen
  have s1 := h.st.same on
  obtain ⟨dl, hl⟩ : ∃ dl, σ j = some dl := by obtain ⟨r, hr, _⟩ := S.root; obtain ⟨dl, _, hl, _⟩ := hj.ctxt S _ _ (Ctxt.root S); exact ⟨dl, hl⟩
  obtain ⟨f, hla⟩ : ∃ f, dl.es[0]? = some f := ⟨_, List.getElem?_eq_getElem (hfit j dl hl).2.2⟩
  obtain ⟨X', sp⟩ := first_spot S hj hl hla
  have o1 : Only [itb] w' (w'.setCell ⟨itb, 1, none⟩ (.pointer (some ⟨j, 0, none⟩))) := (Only.refl _ _).setCell (.inl (by simp)) _
  have b1 := itSetN hb (some j)
  have s2 := s1.it hb o1
  simp only [ptr, Option.map_some] at b1
  have nc0 : (w'.setCell ⟨itb, 1, none⟩ (.pointer (some ⟨j, 0, none⟩))).cell? ⟨itb, 0, none⟩ = some (.pointer (some ⟨H.tb, 0, none⟩)) := b1.cell 0
  have nc1 : (w'.setCell ⟨itb, 1, none⟩ (.pointer (some ⟨j, 0, none⟩))).cell? ⟨itb, 1, none⟩ = some (.pointer (some ⟨j, 0, none⟩)) := b1.cell 1
  have nc2 : (w'.setCell ⟨itb, 1, none⟩ (.pointer (some ⟨j, 0, none⟩))).cell? ⟨itb, 2, none⟩ = some (.pointer none) := b1.cell 2
  have nc3 : (w'.setCell ⟨itb, 1, none⟩ (.pointer (some ⟨j, 0, none⟩))).cell? ⟨itb, 3, none⟩ = some (.int .u8 0) := b1.cell 3
  have nf := b1.frozen
  obtain ⟨g, hg, hgc, _⟩ := s2.ent hl hla
  have hl1 := (s2.cells hl).2.1
  rw [hg] at hl1
  have hlen := (hfit j dl hl).2.2
  have hlen6 : dl.es.length ≤ 64 := by have h1 := (hfit j dl hl).1; have h2 := hm6; omega
  have ib0 : (0 : Int) < (dl.es.length : Int) := by omega
  have ib1 : 0 < dl.es.length := by omega
  have ib2 : ¬ dl.es.length = 0 := by omega
  have ib3 : (1 : Int) ≤ (dl.es.length : Int) := by omega
  have ib4 : (0 : Int) ≤ (dl.es.length : Int) - 1 := by omega
  have ib5 : (dl.es.length : Int) - 1 < (dl.es.length : Int) := by omega
  have ib6 : ((dl.es.length : Int) - 1).toNat = dl.es.length - 1 := by omega
  have ib7 : IntKind.i64.wrap ((dl.es.length : Int) - 1) = (dl.es.length : Int) - 1 := IntWalk.i64_in _ (by omega)
  have hon2 : Only [itb] w w' := on.mono (by simp)
  have FIN := Lib.hid (show HitL w itb H.tb σ rt [] (.returned (.bool true)) (((w'.setCell ⟨itb, 1, none⟩ (.pointer (some ⟨j, 0, none⟩))).setCell ⟨itb, 2, none⟩ (.pointer (some ⟨f.b, 0, none⟩))).setCell ⟨itb, 3, none⟩ (.int .u8 1)) from ⟨rfl, j, f, _, sp, itPos (itSetE b1 (some f.b)) 1, ((hon2.trans o1).setCell (.inl (by simp)) _).setCell (.inl (by simp)) _⟩)
  clear hb h S hfit s1 s2 b1 o1 hg hla sp hj hl hlen on hon2 hm6
  generalize dl.es.length = nl at *
  go_wp2_with fail
  try go_step3
  refine And.intro rfl ?_
  show Code.wp _ _ _ _ _
  go_wp2_with fail
  try go_step3
  go_wp2_with fail
  try rw [Exit.noGoto_ret]
  go_ret
  exact FIN.out
set_option maxHeartbeats 4000000 in
set_option maxRecDepth 100000 in
theorem itNext_down (h : BtAt m o B w H σ α l) (S : Shp σ rt) (ha : Asc o (nk σ rt)) (hfit : Fit σ H.m rt) {n c : Nat} {L0 R0 : KV} (hi : σ i = some d) (he : d.es[n]? = some e) (hc : d.ks[n + 1]? = some c) (cx : Ctxt σ rt i L0 R0) (hb : Blk w itb 94 (itC H.tb (some i) (some e.b) 1)) :
    Calls Try.prog 55 #[.pointer (some ⟨itb, 0, none⟩)] w (HitL w itb H.tb σ rt (L0 ++ rowKvs (nk σ) (d.ks.take (n + 1)) (d.es.take n) ++ [e.kv])) := by
  have hn6 : d.es.length ≤ 64 := by have h1 := (hfit i d hi).1; have h2 := h.m3; omega
  have CS := Lib.hid (fun (wx : World) (sx : St wx B H o σ α) => search_q sx h.fine hi (S.ascE hi ha) (by omega) e.k (rank_own (S.ascE hi ha) he) rfl)
  have hn := (List.getElem?_eq_some_iff.1 he).1
  have hkn := (List.getElem?_eq_some_iff.1 hc).1
  have hkl : d.ks.length ≤ 65 := by
    obtain ⟨_, _, _, hl⟩ := S.kid i d c hi (List.mem_of_getElem? hc)
    have := S.inner i d hi (by omega); omega
  obtain ⟨dc, hdc, _, _⟩ := S.kid i d c hi (List.mem_of_getElem? hc)
  have SP := Lib.hid (fun (j : Nat) (dl : ND) (f : En) (hj : LFar σ c j) (hl : σ j = some dl) => fun (hla : dl.es[0]? = some f) => next_down S hi he cx hc hj hl hla)
  have hek := (h.st.en i d e hi (List.mem_of_getElem? he)).1.cell 0
  have hc0 : w.cell? ⟨itb, 0, none⟩ = some (.pointer (some ⟨H.tb, 0, none⟩)) := hb.cell 0
  have hc1 : w.cell? ⟨itb, 1, none⟩ = some (.pointer (some ⟨i, 0, none⟩)) := hb.cell 1
  have hc2 : w.cell? ⟨itb, 2, none⟩ = some (.pointer (some ⟨e.b, 0, none⟩)) := hb.cell 2
  have hc3 : w.cell? ⟨itb, 3, none⟩ = some (.int .u8 1) := hb.cell 3
  have hf := hb.frozen
  have HH := Lib.hid h
  have SS := Lib.hid S
  have HF := Lib.hid hfit
  have HB := Lib.hid hb
  have HI := Lib.hid hi
  have HC := Lib.hid hc
  have HDC := Lib.hid hdc
  generalize hit o e.k d.es = hv at *
  generalize hLE : (L0 ++ rowKvs (nk σ) (d.ks.take (n + 1)) (d.es.take n) ++ [e.kv]) = LE at *
  have in0 : (0 : Int) ≤ (n : Int) := by omega
  have in1 : (0 : Int) ≤ (n : Int) + 1 := by omega
  have in2 : ((n : Int) + 1).toNat = n + 1 := by omega
  have in3 : IntKind.i64.wrap ((n : Int) + 1) = (n : Int) + 1 := IntWalk.i64_in _ (by omega)
  have in4 : ((n + 1 : Nat) : Int) < (d.ks.length : Int) := by omega
  have in5 : decide ((n : Int) + 1 < (d.ks.length : Int)) = true := decide_eq_true (by omega)
  have in6 : (n : Int) + 1 < (d.ks.length : Int) := by omega
  generalize hnk : d.ks.length = nk0 at *
  have HNK := Lib.hid hnk
  clear hb h S hfit hi he hc hdc hkn cx ha hn hLE hnk
  go_enter Try.func55, Try.ntmps55
  go_wp2_with fail
  refine wp_scope_once 1 rfl ?_
  go_wp2_with fail
  go_quiet ((go_at_call 62; exact Calls.quiet_of (CS.out _ (HH.out.st.drewN _))))
  have s1 := HH.out.st.drewN nq
  have hb1 : Blk (w.drewN nq) itb 94 _ := HB.out
  have HO1 := Lib.hid (show Only [itb] w (w.drewN nq) from ⟨rfl, rfl, rfl, Nat.le_refl _, fun _ _ _ => rfl⟩)
  clear CS hc0 hc1 hc2 hc3 hf hek
  generalize w.drewN nq = w1 at *
  have hc0 : w1.cell? ⟨itb, 0, none⟩ = some (.pointer (some ⟨H.tb, 0, none⟩)) := hb1.cell 0
  have hc1 : w1.cell? ⟨itb, 1, none⟩ = some (.pointer (some ⟨i, 0, none⟩)) := hb1.cell 1
  have hc2 : w1.cell? ⟨itb, 2, none⟩ = some (.pointer (some ⟨e.b, 0, none⟩)) := hb1.cell 2
  have hc3 : w1.cell? ⟨itb, 3, none⟩ = some (.int .u8 1) := hb1.cell 3
  have hf := hb1.frozen
  have hi2 := (s1.cells HI.out).2.2.1
  obtain ⟨gk, hgk, hgkc, _⟩ := s1.kid HI.out HC.out
  rw [hgk, HNK.out] at hi2
  have HB1 := Lib.hid hb1
  have HS1 := Lib.hid s1
  clear s1 hb1 hgk
  go_wp2_with fail
  go_loopg [] (dc.lv + 1) (fun g wr => ∃ (j : Nat) (dl : ND), Blk wr itb 94 (itC H.tb (some j) (some e.b) 1) ∧ Only [itb] w wr ∧ St wr B H o σ α ∧ σ j = some dl ∧ dl.lv < g ∧ ∀ y, LFar σ j y → LFar σ c y)
  case atStart =>
    have o1 : Only [itb] w1 (w1.setCell ⟨itb, 1, none⟩ (.pointer (some ⟨c, 0, none⟩))) := (Only.refl _ _).setCell (.inl (by simp)) _
    exact ⟨c, dc, itSetN HB1.out (some c), HO1.out.trans o1, HS1.out.it HB1.out o1, HDC.out, by omega, fun _ hj => hj⟩
  case round =>
    clear hc0 hc1 hc2 hc3 hf hi2 hgkc in4 in5 in6
    obtain ⟨j, dl, hb, on, s, hl, hg, hfar⟩ := hrel
    have hc0 : wr.cell? ⟨itb, 0, none⟩ = some (.pointer (some ⟨H.tb, 0, none⟩)) := hb.cell 0
    have hc1 : wr.cell? ⟨itb, 1, none⟩ = some (.pointer (some ⟨j, 0, none⟩)) := hb.cell 1
    have hc2 : wr.cell? ⟨itb, 2, none⟩ = some (.pointer (some ⟨e.b, 0, none⟩)) := hb.cell 2
    have hc3 : wr.cell? ⟨itb, 3, none⟩ = some (.int .u8 1) := hb.cell 3
    have hf := hb.frozen
    have hfit := HF.out
    have hm6 := HH.out.m3
    obtain ⟨f, hla⟩ : ∃ f, dl.es[0]? = some f := ⟨_, List.getElem?_eq_getElem (hfit j dl hl).2.2⟩
    have hlen := (hfit j dl hl).2.2
    have hlen6 : dl.es.length ≤ 64 := by have h1 := (hfit j dl hl).1; have h2 := hm6; omega
    have ib0 : (0 : Int) < (dl.es.length : Int) := by omega
    have ib1 : 0 < dl.es.length := by omega
    have ib2 : ¬ dl.es.length = 0 := by omega
    have ib3 : (1 : Int) ≤ (dl.es.length : Int) := by omega
    have ib4 : (0 : Int) ≤ (dl.es.length : Int) - 1 := by omega
    have ib5 : (dl.es.length : Int) - 1 < (dl.es.length : Int) := by omega
    have ib6 : ((dl.es.length : Int) - 1).toNat = dl.es.length - 1 := by omega
    have ib7 : IntKind.i64.wrap ((dl.es.length : Int) - 1) = (dl.es.length : Int) - 1 := IntWalk.i64_in _ (by omega)
    have hl2 := (s.cells hl).2.2.1
    rcases Nat.eq_zero_or_pos dl.lv with h0 | h0
    · have hk := SS.out.leaf j dl hl h0
      obtain ⟨X', sp⟩ := SP.out j dl f (hfar j (.leaf hl hk)) hl hla
      obtain ⟨gx, hgx, hgc, _⟩ := s.ent hl hla
      have hl1 := (s.cells hl).2.1
      rw [hgx] at hl1
      rw [hk] at hl2
      simp only [List.length_nil] at hl2
      have FIN := Lib.hid (show HitL w itb H.tb σ rt LE (.returned (.bool true)) ((wr.setCell ⟨itb, 2, none⟩ (.pointer (some ⟨f.b, 0, none⟩))).setCell ⟨itb, 3, none⟩ (.int .u8 1)) from ⟨rfl, j, f, _, sp, itPos (itSetE hb (some f.b)) 1, (on.setCell (.inl (by simp)) _).setCell (.inl (by simp)) _⟩)
      clear hb on s hl hg hfar hfit hm6 hla hlen h0 hk sp hgx
      generalize dl.es.length = nl at *
      go_wp2_with fail
      try go_step3
      refine And.intro rfl ?_
      show Code.wp _ _ _ _ _
      go_wp2_with fail
      try go_step3
      go_wp2_with fail
      try rw [Exit.noGoto_ret]
      go_ret
      exact FIN.out
    · have hkl := SS.out.inner j dl hl h0
      obtain ⟨k, ks, hk⟩ : ∃ k ks, dl.ks = k :: ks := by
        cases hh : dl.ks with
        | nil => rw [hh] at hkl; simp at hkl
        | cons k ks => exact ⟨k, ks, rfl⟩
      have hk0 : dl.ks[0]? = some k := by rw [hk]; rfl
      obtain ⟨dk, hdk, _, hdl⟩ := SS.out.kid j dl k hl (by rw [hk]; simp)
      obtain ⟨gx, hgx, hgc, _⟩ := s.kid hl hk0
      rw [hgx] at hl2
      have jb0 : (0 : Int) < (dl.ks.length : Int) := by omega
      have jb1 : 0 < dl.ks.length := by omega
      have jb2 : ¬ dl.ks.length = 0 := by omega
      have jb3 : (1 : Int) ≤ (dl.ks.length : Int) := by omega
      have jb4 : (0 : Int) ≤ (dl.ks.length : Int) - 1 := by omega
      have jb5 : (dl.ks.length : Int) - 1 < (dl.ks.length : Int) := by omega
      have jb6 : ((dl.ks.length : Int) - 1).toNat = dl.ks.length - 1 := by omega
      have jb7 : IntKind.i64.wrap ((dl.ks.length : Int) - 1) = (dl.ks.length : Int) - 1 := IntWalk.i64_in _ (by omega)
      have o1 : Only [itb] wr (wr.setCell ⟨itb, 1, none⟩ (.pointer (some ⟨k, 0, none⟩))) := (Only.refl _ _).setCell (.inl (by simp)) _
      have F := Lib.hid (show ∃ (j : Nat) (dk : ND), Blk (wr.setCell ⟨itb, 1, none⟩ (.pointer (some ⟨k, 0, none⟩))) itb 94 (itC H.tb (some j) (some e.b) 1) ∧ Only [itb] w (wr.setCell ⟨itb, 1, none⟩ (.pointer (some ⟨k, 0, none⟩))) ∧ St (wr.setCell ⟨itb, 1, none⟩ (.pointer (some ⟨k, 0, none⟩))) B H o σ α ∧ σ j = some dk ∧ dk.lv < dl.lv ∧ ∀ y, LFar σ j y → LFar σ c y from
        ⟨k, dk, itSetN hb (some k), on.trans o1, s.it hb o1, hdk, by omega, fun y hy => hfar y (.step hl hk hy)⟩)
      have HG := Lib.hid hg
      clear hb on s hl hg hfar hfit hm6 hla hlen h0 hk hk0 hdk hdl hgx hkl o1
      generalize dl.es.length = nl at *
      generalize dl.ks.length = nlk at *
      go_wp2_with fail
      go_roundg dl.lv
      case measure => exact HG.out
      case rel => exact F.out
set_option maxHeartbeats 4000000 in
set_option maxRecDepth 100000 in
theorem itNext_leaf (h : BtAt m o B w H σ α l) (S : Shp σ rt) (ha : Asc o (nk σ rt)) (hfit : Fit σ H.m rt) {n : Nat} {f : En} {L0 R0 : KV} (hi : σ i = some d) (hk : d.ks = []) (he : d.es[n]? = some e) (hfn : d.es[n + 1]? = some f) (cx : Ctxt σ rt i L0 R0) (hb : Blk w itb 94 (itC H.tb (some i) (some e.b) 1)) :
    Calls Try.prog 55 #[.pointer (some ⟨itb, 0, none⟩)] w (HitL w itb H.tb σ rt (L0 ++ rowKvs (nk σ) (d.ks.take (n + 1)) (d.es.take n) ++ [e.kv])) := by
  have SP := Lib.hid (next_leaf hi hk he hfn cx)
  have hfl := (List.getElem?_eq_some_iff.1 hfn).1
  have hn6 : d.es.length ≤ 64 := by have h1 := (hfit i d hi).1; have h2 := h.m3; omega
  have hn := (List.getElem?_eq_some_iff.1 he).1
  have CS := Lib.hid (fun (wx : World) (sx : St wx B H o σ α) => search_q sx h.fine hi (S.ascE hi ha) (by omega) e.k (rank_own (S.ascE hi ha) he) rfl)
  have hek := (h.st.en i d e hi (List.mem_of_getElem? he)).1.cell 0
  have hc0 : w.cell? ⟨itb, 0, none⟩ = some (.pointer (some ⟨H.tb, 0, none⟩)) := hb.cell 0
  have hc1 : w.cell? ⟨itb, 1, none⟩ = some (.pointer (some ⟨i, 0, none⟩)) := hb.cell 1
  have hc2 : w.cell? ⟨itb, 2, none⟩ = some (.pointer (some ⟨e.b, 0, none⟩)) := hb.cell 2
  have hc3 : w.cell? ⟨itb, 3, none⟩ = some (.int .u8 1) := hb.cell 3
  have hf := hb.frozen
  have HH := Lib.hid h
  have SS := Lib.hid S
  have HF := Lib.hid hfit
  have HB := Lib.hid hb
  have HI := Lib.hid hi
  have HHE := Lib.hid he
  have HA := Lib.hid ha
  have HK := Lib.hid hk
  generalize hit o e.k d.es = hv at *
  have in0 : (0 : Int) ≤ (n : Int) := by omega
  have in1 : (0 : Int) ≤ (n : Int) + 1 := by omega
  have in2 : ((n : Int) + 1).toNat = n + 1 := by omega
  have in3 : IntKind.i64.wrap ((n : Int) + 1) = (n : Int) + 1 := IntWalk.i64_in _ (by omega)
  have in4 : decide ((n : Int) + 1 < 0) = false := decide_eq_false (by omega)
  have in5 : decide ((n : Int) < 0) = false := decide_eq_false (by omega)
  have in6 : decide (((n + 1 : Nat) : Int) < 0) = false := decide_eq_false (by omega)
  have in7 : ((n + 1 : Nat) : Int) - 1 = (n : Int) := by omega
  have in8 : IntKind.i64.wrap (n : Int) = (n : Int) := IntWalk.i64_in _ (by omega)
  have in9 : decide ((0 : Int) ≤ (n : Int)) = true := decide_eq_true (by omega)
  generalize hLE : (L0 ++ rowKvs (nk σ) (d.ks.take (n + 1)) (d.es.take n) ++ [e.kv]) = LE at *
  have HFN := Lib.hid hfn
  have ix : decide ((n : Int) + 1 < (d.es.length : Int)) = true := decide_eq_true (by omega)
  have ix2 : (n : Int) + 1 < (d.es.length : Int) := by omega
  generalize hnd : d.es.length = nd at *
  have HND := Lib.hid hnd
  clear hb h S hfit hi he hk hfn cx ha hn hLE hnd hfl
  go_enter Try.func55, Try.ntmps55
  go_wp2_with fail
  refine wp_scope_once 1 rfl ?_
  go_wp2_with fail
  go_quiet ((go_at_call 62; exact Calls.quiet_of (CS.out _ (HH.out.st.drewN _))))
  have s1 := HH.out.st.drewN nq
  have hb1 : Blk (w.drewN nq) itb 94 _ := HB.out
  have HO1 := Lib.hid (show Only [itb] w (w.drewN nq) from ⟨rfl, rfl, rfl, Nat.le_refl _, fun _ _ _ => rfl⟩)
  clear CS hc0 hc1 hc2 hc3 hf hek
  generalize w.drewN nq = w1 at *
  have hc0 : w1.cell? ⟨itb, 0, none⟩ = some (.pointer (some ⟨H.tb, 0, none⟩)) := hb1.cell 0
  have hc1 : w1.cell? ⟨itb, 1, none⟩ = some (.pointer (some ⟨i, 0, none⟩)) := hb1.cell 1
  have hc2 : w1.cell? ⟨itb, 2, none⟩ = some (.pointer (some ⟨e.b, 0, none⟩)) := hb1.cell 2
  have hc3 : w1.cell? ⟨itb, 3, none⟩ = some (.int .u8 1) := hb1.cell 3
  have hf := hb1.frozen
  have hi2 := (s1.cells HI.out).2.2.1
  rw [HK.out] at hi2
  simp only [List.length_nil] at hi2
  obtain ⟨gx, hgx, hgc, _⟩ := s1.ent HI.out HFN.out
  have hi1 := (s1.cells HI.out).2.1
  rw [hgx, HND.out] at hi1
  obtain ⟨X', sp⟩ := SP.out
  have FIN := Lib.hid (show HitL w itb H.tb σ rt LE (.returned (.bool true)) ((w1.setCell ⟨itb, 2, none⟩ (.pointer (some ⟨f.b, 0, none⟩))).setCell ⟨itb, 3, none⟩ (.int .u8 1)) from ⟨rfl, i, f, _, sp, itPos (itSetE hb1 (some f.b)) 1, (HO1.out.setCell (.inl (by simp)) _).setCell (.inl (by simp)) _⟩)
  clear s1 hb1 hgx sp
  go_wp2_with fail
  try go_step3
  refine And.intro rfl ?_
  show Code.wp _ _ _ _ _
  go_wp2_with fail
  try go_step3
  go_wp2_with fail
  try rw [Exit.noGoto_ret]
  go_ret
  exact FIN.out
set_option maxHeartbeats 4000000 in
set_option maxRecDepth 100000 in
theorem itNext_up (h : BtAt m o B w H σ α l) (S : Shp σ rt) (ha : Asc o (nk σ rt)) (hfit : Fit σ H.m rt) {n : Nat} {L0 R0 : KV} (hi : σ i = some d) (hk : d.ks = []) (he : d.es[n]? = some e) (cx : Ctxt σ rt i L0 R0) (hb : Blk w itb 94 (itC H.tb (some i) (some e.b) 1)) (hn1 : n + 1 = d.es.length) {Z : KV} (hnk : nk σ rt = (L0 ++ rowKvs (nk σ) (d.ks.take (n + 1)) (d.es.take n) ++ [e.kv]) ++ Z) (hz : Z ≠ []) :
    Calls Try.prog 55 #[.pointer (some ⟨itb, 0, none⟩)] w (HitL w itb H.tb σ rt (L0 ++ rowKvs (nk σ) (d.ks.take (n + 1)) (d.es.take n) ++ [e.kv])) := by
  have hn6 : d.es.length ≤ 64 := by have h1 := (hfit i d hi).1; have h2 := h.m3; omega
  have hn := (List.getElem?_eq_some_iff.1 he).1
  have CS := Lib.hid (fun (wx : World) (sx : St wx B H o σ α) => search_q sx h.fine hi (S.ascE hi ha) (by omega) e.k (rank_own (S.ascE hi ha) he) rfl)
  have hek := (h.st.en i d e hi (List.mem_of_getElem? he)).1.cell 0
  have hc0 : w.cell? ⟨itb, 0, none⟩ = some (.pointer (some ⟨H.tb, 0, none⟩)) := hb.cell 0
  have hc1 : w.cell? ⟨itb, 1, none⟩ = some (.pointer (some ⟨i, 0, none⟩)) := hb.cell 1
  have hc2 : w.cell? ⟨itb, 2, none⟩ = some (.pointer (some ⟨e.b, 0, none⟩)) := hb.cell 2
  have hc3 : w.cell? ⟨itb, 3, none⟩ = some (.int .u8 1) := hb.cell 3
  have hf := hb.frozen
  have HH := Lib.hid h
  have SS := Lib.hid S
  have HF := Lib.hid hfit
  have HB := Lib.hid hb
  have HI := Lib.hid hi
  have HHE := Lib.hid he
  have HA := Lib.hid ha
  have HK := Lib.hid hk
  generalize hit o e.k d.es = hv at *
  have in0 : (0 : Int) ≤ (n : Int) := by omega
  have in1 : (0 : Int) ≤ (n : Int) + 1 := by omega
  have in2 : ((n : Int) + 1).toNat = n + 1 := by omega
  have in3 : IntKind.i64.wrap ((n : Int) + 1) = (n : Int) + 1 := IntWalk.i64_in _ (by omega)
  have in4 : decide ((n : Int) + 1 < 0) = false := decide_eq_false (by omega)
  have in5 : decide ((n : Int) < 0) = false := decide_eq_false (by omega)
  have in6 : decide (((n + 1 : Nat) : Int) < 0) = false := decide_eq_false (by omega)
  have in7 : ((n + 1 : Nat) : Int) - 1 = (n : Int) := by omega
  have in8 : IntKind.i64.wrap (n : Int) = (n : Int) := IntWalk.i64_in _ (by omega)
  have in9 : decide ((0 : Int) ≤ (n : Int)) = true := decide_eq_true (by omega)
  have T0 := Lib.hid (ends_leaf S ha hi hk he hn1 cx)
  have M0 := Lib.hid (mem_nk S hi (List.mem_of_getElem? he))
  generalize hLE : (L0 ++ rowKvs (nk σ) (d.ks.take (n + 1)) (d.es.take n) ++ [e.kv]) = LE at *
  have NK := Lib.hid hnk
  have HZ := Lib.hid hz
  obtain ⟨r, hrt, _⟩ := S.root
  have HRT := Lib.hid hrt
  have ix : decide ((n : Int) + 1 < (d.es.length : Int)) = false := decide_eq_false (by omega)
  generalize hnd : d.es.length = nd at *
  have HND := Lib.hid hnd
  clear hb h S hfit hi he hk cx ha hn hLE hnd hnk hrt hz hn1
  go_enter Try.func55, Try.ntmps55
  go_wp2_with fail
  refine wp_scope_once 1 rfl ?_
  go_wp2_with fail
  go_quiet ((go_at_call 62; exact Calls.quiet_of (CS.out _ (HH.out.st.drewN _))))
  have s1 := HH.out.st.drewN nq
  have hb1 : Blk (w.drewN nq) itb 94 _ := HB.out
  have HO1 := Lib.hid (show Only [itb] w (w.drewN nq) from ⟨rfl, rfl, rfl, Nat.le_refl _, fun _ _ _ => rfl⟩)
  clear CS hc0 hc1 hc2 hc3 hf hek
  generalize w.drewN nq = w1 at *
  have hc0 : w1.cell? ⟨itb, 0, none⟩ = some (.pointer (some ⟨H.tb, 0, none⟩)) := hb1.cell 0
  have hc1 : w1.cell? ⟨itb, 1, none⟩ = some (.pointer (some ⟨i, 0, none⟩)) := hb1.cell 1
  have hc2 : w1.cell? ⟨itb, 2, none⟩ = some (.pointer (some ⟨e.b, 0, none⟩)) := hb1.cell 2
  have hc3 : w1.cell? ⟨itb, 3, none⟩ = some (.int .u8 1) := hb1.cell 3
  have hf := hb1.frozen
  have hi2 := (s1.cells HI.out).2.2.1
  have hi1 := (s1.cells HI.out).2.1
  rw [HND.out] at hi1
  rw [HK.out] at hi2
  simp only [List.length_nil] at hi2
  have HB1 := Lib.hid hb1
  have HS1 := Lib.hid s1
  clear s1 hb1
  go_wp2_with fail
  go_loopg [] (r.lv + 1) (fun g wr => ∃ (j : Nat) (dj : ND), Blk wr itb 94 (itC H.tb (some j) (some e.b) 1) ∧ Only [itb] w wr ∧ St wr B H o σ α ∧ σ j = some dj ∧ r.lv < dj.lv + g ∧ e.kv ∈ nk σ j ∧ EndsAt σ rt j LE)
  case atStart => exact ⟨i, d, HB1.out, HO1.out, HS1.out, HI.out, by omega, M0.out, T0.out⟩
  case round =>
    clear hc0 hc1 hc2 hc3 hf hi2 hi1
    obtain ⟨j, dj, hb, on, s, hj, hg, hmem, ht⟩ := hrel
    have hc0 : wr.cell? ⟨itb, 0, none⟩ = some (.pointer (some ⟨H.tb, 0, none⟩)) := hb.cell 0
    have hc1 : wr.cell? ⟨itb, 1, none⟩ = some (.pointer (some ⟨j, 0, none⟩)) := hb.cell 1
    have hc2 : wr.cell? ⟨itb, 2, none⟩ = some (.pointer (some ⟨e.b, 0, none⟩)) := hb.cell 2
    have hc3 : wr.cell? ⟨itb, 3, none⟩ = some (.int .u8 1) := hb.cell 3
    have hf := hb.frozen
    have hp0 := (s.cells hj).1
    cases hp : dj.par with
    | none =>
      have hjr := SS.out.top j dj hj hp
      exfalso
      rw [hjr] at ht
      exact HZ.out (ht.top SS.out NK.out)
    | some p =>
      obtain ⟨q, hq, _⟩ := SS.out.up j dj p hj hp
      obtain ⟨kL, kR, hks, hrk, hle, hqlv⟩ := up_rank SS.out HA.out hj hp hq hmem
      have hlv := (SS.out.kidLv hj hp hq).1
      have hbd := SS.out.bd j dj r hj HRT.out
      have hqn6 : q.es.length ≤ 64 := by have h1 := (HF.out p q hq).1; have h2 := HH.out.m3; omega
      have hqk := SS.out.inner p q hq hqlv
      rw [hks] at hqk
      simp only [List.length_append, List.length_cons] at hqk
      have o1 : Only [itb] wr (wr.setCell ⟨itb, 1, none⟩ (.pointer (some ⟨p, 0, none⟩))) := (Only.refl _ _).setCell (.inl (by simp)) _
      have b1 := itSetN hb (some p)
      have s2 := s.it hb o1
      have CS := Lib.hid (fun (wx : World) (sx : St wx B H o σ α) => search_q sx HH.out.fine hq (SS.out.ascE hq HA.out) (by omega) e.k hrk rfl)
      have hek := (s2.en i d e HI.out (List.mem_of_getElem? HHE.out)).1.cell 0
      rw [hp] at hp0
      simp only [ptr, Option.map_some] at hp0 b1 s2
      have nc0 : (wr.setCell ⟨itb, 1, none⟩ (.pointer (some ⟨p, 0, none⟩))).cell? ⟨itb, 0, none⟩ = some (.pointer (some ⟨H.tb, 0, none⟩)) := b1.cell 0
      have nc1 : (wr.setCell ⟨itb, 1, none⟩ (.pointer (some ⟨p, 0, none⟩))).cell? ⟨itb, 1, none⟩ = some (.pointer (some ⟨p, 0, none⟩)) := b1.cell 1
      have nc2 : (wr.setCell ⟨itb, 1, none⟩ (.pointer (some ⟨p, 0, none⟩))).cell? ⟨itb, 2, none⟩ = some (.pointer (some ⟨e.b, 0, none⟩)) := b1.cell 2
      have nc3 : (wr.setCell ⟨itb, 1, none⟩ (.pointer (some ⟨p, 0, none⟩))).cell? ⟨itb, 3, none⟩ = some (.int .u8 1) := b1.cell 3
      have nf := b1.frozen
      have HB2 := Lib.hid b1
      have HO2 := Lib.hid (on.trans o1)
      have HS2 := Lib.hid s2
      have HQ := Lib.hid hq
      have HT := Lib.hid ht
      have HMEM := Lib.hid hmem
      have HJ := Lib.hid hj
      have HKS := Lib.hid hks
      have HRD := Lib.hid (And.intro hg (And.intro hlv hbd))
      have HPJ := Lib.hid hp
      clear hb on s hj hg hmem ht hp o1 b1 s2 hq hks hrk hqlv hlv hbd
      generalize hit o e.k q.es = hv2 at *
      go_wp2_with fail
      clear hc0 hc1 hc2 hc3 hf hp0
      generalize wr.setCell ⟨itb, 1, none⟩ (.pointer (some ⟨p, 0, none⟩)) = W1 at *
      go_quiet ((go_at_call 62; exact Calls.quiet_of (CS.out _ (HS2.out.drewN _))))
      have s3 := HS2.out.drewN nq
      have hb3 : Blk (W1.drewN nq) itb 94 _ := HB2.out
      have HO3 := Lib.hid (HO2.out.trans (show Only [itb] W1 (W1.drewN nq) from ⟨rfl, rfl, rfl, Nat.le_refl _, fun _ _ _ => rfl⟩))
      clear CS nc0 nc1 nc2 nc3 nf hek HS2 HB2 HO2
      generalize W1.drewN nq = W2 at *
      have hc0 : W2.cell? ⟨itb, 0, none⟩ = some (.pointer (some ⟨H.tb, 0, none⟩)) := hb3.cell 0
      have hc1 : W2.cell? ⟨itb, 1, none⟩ = some (.pointer (some ⟨p, 0, none⟩)) := hb3.cell 1
      have hc2 : W2.cell? ⟨itb, 2, none⟩ = some (.pointer (some ⟨e.b, 0, none⟩)) := hb3.cell 2
      have hc3 : W2.cell? ⟨itb, 3, none⟩ = some (.int .u8 1) := hb3.cell 3
      have hf := hb3.frozen
      have hq1 := (s3.cells HQ.out).2.1
      generalize hnq : q.es.length = nq2 at *
      have HNQ := Lib.hid hnq
      by_cases hlt : kL.length < nq2
      rotate_left
      · have hk0 : kR = [] := List.length_eq_zero_iff.1 (by omega)
        have hkx : q.ks = kL ++ [j] := by rw [HKS.out, hk0]
        have jx8 : decide ((kL.length : Int) < (nq2 : Int)) = false := decide_eq_false (by omega)
        have jx7 : (nq2 : Int) ≤ (kL.length : Int) := by omega
        have jx6 : ¬ (kL.length : Int) < (nq2 : Int) := by omega
        have F := Lib.hid (show ∃ (j2 : Nat) (d2 : ND), Blk W2 itb 94 (itC H.tb (some j2) (some e.b) 1) ∧ Only [itb] w W2 ∧ St W2 B H o σ α ∧ σ j2 = some d2 ∧ r.lv < d2.lv + (r.lv - dj.lv) ∧ e.kv ∈ nk σ j2 ∧ EndsAt σ rt j2 LE from
          ⟨p, q, hb3, HO3.out, s3, HQ.out, by have h1 := HRD.out; omega, mem_up SS.out HQ.out HKS.out HMEM.out, HT.out.up SS.out HQ.out hkx (by rw [HNQ.out]; omega)⟩)
        clear hb3 s3 hkx hk0 hnq
        generalize kL.length = nL at *
        clear hle hqk
        go_wp2_with fail
        go_roundg (r.lv - dj.lv)
        case measure => have h1 := HRD.out; omega
        case rel => exact F.out
      · obtain ⟨f, hff⟩ : ∃ f, q.es[kL.length]? = some f := ⟨_, List.getElem?_eq_getElem (by omega)⟩
        obtain ⟨X', sp⟩ := HT.out.hit SS.out HQ.out HKS.out hff
        obtain ⟨gx, hgx, hgc, _⟩ := s3.ent HQ.out hff
        rw [hgx] at hq1
        have FIN := Lib.hid (show HitL w itb H.tb σ rt LE (.returned (.bool true)) ((W2.setCell ⟨itb, 2, none⟩ (.pointer (some ⟨f.b, 0, none⟩))).setCell ⟨itb, 3, none⟩ (.int .u8 1)) from ⟨rfl, p, f, _, sp, itPos (itSetE hb3 (some f.b)) 1, (HO3.out.setCell (.inl (by simp)) _).setCell (.inl (by simp)) _⟩)
        have jy2 : decide ((kL.length : Int) < (nq2 : Int)) = true := decide_eq_true (by omega)
        have jy3 : (kL.length : Int) < (nq2 : Int) := by omega
        have jy4 : (0 : Int) ≤ (kL.length : Int) := by omega
        clear hb3 s3 hgx sp hff hnq hlt hqk hle
        generalize kL.length = nL at *
        go_wp2_with fail
        try go_step3
        refine And.intro rfl ?_
        show Code.wp _ _ _ _ _
        go_wp2_with fail
        try go_step3
        go_wp2_with fail
        try rw [Exit.noGoto_ret]
        go_ret
        exact FIN.out
set_option maxHeartbeats 4000000 in
set_option maxRecDepth 100000 in
theorem itNext_out (h : BtAt m o B w H σ α l) (S : Shp σ rt) (ha : Asc o (nk σ rt)) (hfit : Fit σ H.m rt) {n : Nat} {L0 R0 : KV} (hi : σ i = some d) (hk : d.ks = []) (he : d.es[n]? = some e) (cx : Ctxt σ rt i L0 R0) (hb : Blk w itb 94 (itC H.tb (some i) (some e.b) 1)) (hn1 : n + 1 = d.es.length) (hnk : nk σ rt = (L0 ++ rowKvs (nk σ) (d.ks.take (n + 1)) (d.es.take n) ++ [e.kv]) ++ []) :
    Calls Try.prog 55 #[.pointer (some ⟨itb, 0, none⟩)] w (Out w itb H.tb 2) := by
  have hn6 : d.es.length ≤ 64 := by have h1 := (hfit i d hi).1; have h2 := h.m3; omega
  have hn := (List.getElem?_eq_some_iff.1 he).1
  have CS := Lib.hid (fun (wx : World) (sx : St wx B H o σ α) => search_q sx h.fine hi (S.ascE hi ha) (by omega) e.k (rank_own (S.ascE hi ha) he) rfl)
  have hek := (h.st.en i d e hi (List.mem_of_getElem? he)).1.cell 0
  have hc0 : w.cell? ⟨itb, 0, none⟩ = some (.pointer (some ⟨H.tb, 0, none⟩)) := hb.cell 0
  have hc1 : w.cell? ⟨itb, 1, none⟩ = some (.pointer (some ⟨i, 0, none⟩)) := hb.cell 1
  have hc2 : w.cell? ⟨itb, 2, none⟩ = some (.pointer (some ⟨e.b, 0, none⟩)) := hb.cell 2
  have hc3 : w.cell? ⟨itb, 3, none⟩ = some (.int .u8 1) := hb.cell 3
  have hf := hb.frozen
  have HH := Lib.hid h
  have SS := Lib.hid S
  have HF := Lib.hid hfit
  have HB := Lib.hid hb
  have HI := Lib.hid hi
  have HHE := Lib.hid he
  have HA := Lib.hid ha
  have HK := Lib.hid hk
  generalize hit o e.k d.es = hv at *
  have in0 : (0 : Int) ≤ (n : Int) := by omega
  have in1 : (0 : Int) ≤ (n : Int) + 1 := by omega
  have in2 : ((n : Int) + 1).toNat = n + 1 := by omega
  have in3 : IntKind.i64.wrap ((n : Int) + 1) = (n : Int) + 1 := IntWalk.i64_in _ (by omega)
  have in4 : decide ((n : Int) + 1 < 0) = false := decide_eq_false (by omega)
  have in5 : decide ((n : Int) < 0) = false := decide_eq_false (by omega)
  have in6 : decide (((n + 1 : Nat) : Int) < 0) = false := decide_eq_false (by omega)
  have in7 : ((n + 1 : Nat) : Int) - 1 = (n : Int) := by omega
  have in8 : IntKind.i64.wrap (n : Int) = (n : Int) := IntWalk.i64_in _ (by omega)
  have in9 : decide ((0 : Int) ≤ (n : Int)) = true := decide_eq_true (by omega)
  have T0 := Lib.hid (ends_leaf S ha hi hk he hn1 cx)
  have M0 := Lib.hid (mem_nk S hi (List.mem_of_getElem? he))
  generalize hLE : (L0 ++ rowKvs (nk σ) (d.ks.take (n + 1)) (d.es.take n) ++ [e.kv]) = LE at *
  have NK := Lib.hid hnk
  obtain ⟨r, hrt, _⟩ := S.root
  have HRT := Lib.hid hrt
  have ix : decide ((n : Int) + 1 < (d.es.length : Int)) = false := decide_eq_false (by omega)
  generalize hnd : d.es.length = nd at *
  have HND := Lib.hid hnd
  clear hb h S hfit hi he hk cx ha hn hLE hnd hnk hrt hn1
  go_enter Try.func55, Try.ntmps55
  go_wp2_with fail
  refine wp_scope_once 0 rfl ?_
  go_wp2_with fail
  go_quiet ((go_at_call 62; exact Calls.quiet_of (CS.out _ (HH.out.st.drewN _))))
  have s1 := HH.out.st.drewN nq
  have hb1 : Blk (w.drewN nq) itb 94 _ := HB.out
  have HO1 := Lib.hid (show Only [itb] w (w.drewN nq) from ⟨rfl, rfl, rfl, Nat.le_refl _, fun _ _ _ => rfl⟩)
  clear CS hc0 hc1 hc2 hc3 hf hek
  generalize w.drewN nq = w1 at *
  have hc0 : w1.cell? ⟨itb, 0, none⟩ = some (.pointer (some ⟨H.tb, 0, none⟩)) := hb1.cell 0
  have hc1 : w1.cell? ⟨itb, 1, none⟩ = some (.pointer (some ⟨i, 0, none⟩)) := hb1.cell 1
  have hc2 : w1.cell? ⟨itb, 2, none⟩ = some (.pointer (some ⟨e.b, 0, none⟩)) := hb1.cell 2
  have hc3 : w1.cell? ⟨itb, 3, none⟩ = some (.int .u8 1) := hb1.cell 3
  have hf := hb1.frozen
  have hi2 := (s1.cells HI.out).2.2.1
  have hi1 := (s1.cells HI.out).2.1
  rw [HND.out] at hi1
  rw [HK.out] at hi2
  simp only [List.length_nil] at hi2
  have HB1 := Lib.hid hb1
  have HS1 := Lib.hid s1
  clear s1 hb1
  go_wp2_with fail
  go_loopg [] (r.lv + 1) (fun g wr => ∃ (j : Nat) (dj : ND), Blk wr itb 94 (itC H.tb (some j) (some e.b) 1) ∧ Only [itb] w wr ∧ St wr B H o σ α ∧ σ j = some dj ∧ r.lv < dj.lv + g ∧ e.kv ∈ nk σ j ∧ EndsAt σ rt j LE)
  case atStart => exact ⟨i, d, HB1.out, HO1.out, HS1.out, HI.out, by omega, M0.out, T0.out⟩
  case round =>
    clear hc0 hc1 hc2 hc3 hf hi2 hi1
    obtain ⟨j, dj, hb, on, s, hj, hg, hmem, ht⟩ := hrel
    have hc0 : wr.cell? ⟨itb, 0, none⟩ = some (.pointer (some ⟨H.tb, 0, none⟩)) := hb.cell 0
    have hc1 : wr.cell? ⟨itb, 1, none⟩ = some (.pointer (some ⟨j, 0, none⟩)) := hb.cell 1
    have hc2 : wr.cell? ⟨itb, 2, none⟩ = some (.pointer (some ⟨e.b, 0, none⟩)) := hb.cell 2
    have hc3 : wr.cell? ⟨itb, 3, none⟩ = some (.int .u8 1) := hb.cell 3
    have hf := hb.frozen
    have hp0 := (s.cells hj).1
    cases hp : dj.par with
    | none =>
      have hjr := SS.out.top j dj hj hp
      have CE := Lib.hid (itEnd_walk hb)
      have HO := Lib.hid on
      rw [hp] at hp0
      simp only [ptr, Option.map_none] at hp0
      clear hb on s hj hg hmem ht hp hjr
      go_wp2_with fail
      try go_step3
      go_wp2_with fail
      refine CE.out.mono ?_
      rintro e1 w2 ⟨rfl, hb2, on2⟩
      have F := Lib.hid (show Blk w2 itb 94 (itC H.tb none none 2) ∧ Only [itb] w w2 from ⟨hb2, HO.out.trans on2⟩)
      clear CE hb2 on2
      go_wp2_with fail
      try rw [Exit.noGoto_ret]
      go_ret
      exact ⟨rfl, F.out⟩
    | some p =>
      obtain ⟨q, hq, _⟩ := SS.out.up j dj p hj hp
      obtain ⟨kL, kR, hks, hrk, hle, hqlv⟩ := up_rank SS.out HA.out hj hp hq hmem
      have hlv := (SS.out.kidLv hj hp hq).1
      have hbd := SS.out.bd j dj r hj HRT.out
      have hqn6 : q.es.length ≤ 64 := by have h1 := (HF.out p q hq).1; have h2 := HH.out.m3; omega
      have hqk := SS.out.inner p q hq hqlv
      rw [hks] at hqk
      simp only [List.length_append, List.length_cons] at hqk
      have o1 : Only [itb] wr (wr.setCell ⟨itb, 1, none⟩ (.pointer (some ⟨p, 0, none⟩))) := (Only.refl _ _).setCell (.inl (by simp)) _
      have b1 := itSetN hb (some p)
      have s2 := s.it hb o1
      have CS := Lib.hid (fun (wx : World) (sx : St wx B H o σ α) => search_q sx HH.out.fine hq (SS.out.ascE hq HA.out) (by omega) e.k hrk rfl)
      have hek := (s2.en i d e HI.out (List.mem_of_getElem? HHE.out)).1.cell 0
      rw [hp] at hp0
      simp only [ptr, Option.map_some] at hp0 b1 s2
      have nc0 : (wr.setCell ⟨itb, 1, none⟩ (.pointer (some ⟨p, 0, none⟩))).cell? ⟨itb, 0, none⟩ = some (.pointer (some ⟨H.tb, 0, none⟩)) := b1.cell 0
      have nc1 : (wr.setCell ⟨itb, 1, none⟩ (.pointer (some ⟨p, 0, none⟩))).cell? ⟨itb, 1, none⟩ = some (.pointer (some ⟨p, 0, none⟩)) := b1.cell 1
      have nc2 : (wr.setCell ⟨itb, 1, none⟩ (.pointer (some ⟨p, 0, none⟩))).cell? ⟨itb, 2, none⟩ = some (.pointer (some ⟨e.b, 0, none⟩)) := b1.cell 2
      have nc3 : (wr.setCell ⟨itb, 1, none⟩ (.pointer (some ⟨p, 0, none⟩))).cell? ⟨itb, 3, none⟩ = some (.int .u8 1) := b1.cell 3
      have nf := b1.frozen
      have HB2 := Lib.hid b1
      have HO2 := Lib.hid (on.trans o1)
      have HS2 := Lib.hid s2
      have HQ := Lib.hid hq
      have HT := Lib.hid ht
      have HMEM := Lib.hid hmem
      have HJ := Lib.hid hj
      have HKS := Lib.hid hks
      have HRD := Lib.hid (And.intro hg (And.intro hlv hbd))
      have HPJ := Lib.hid hp
      clear hb on s hj hg hmem ht hp o1 b1 s2 hq hks hrk hqlv hlv hbd
      generalize hit o e.k q.es = hv2 at *
      go_wp2_with fail
      clear hc0 hc1 hc2 hc3 hf hp0
      generalize wr.setCell ⟨itb, 1, none⟩ (.pointer (some ⟨p, 0, none⟩)) = W1 at *
      go_quiet ((go_at_call 62; exact Calls.quiet_of (CS.out _ (HS2.out.drewN _))))
      have s3 := HS2.out.drewN nq
      have hb3 : Blk (W1.drewN nq) itb 94 _ := HB2.out
      have HO3 := Lib.hid (HO2.out.trans (show Only [itb] W1 (W1.drewN nq) from ⟨rfl, rfl, rfl, Nat.le_refl _, fun _ _ _ => rfl⟩))
      clear CS nc0 nc1 nc2 nc3 nf hek HS2 HB2 HO2
      generalize W1.drewN nq = W2 at *
      have hc0 : W2.cell? ⟨itb, 0, none⟩ = some (.pointer (some ⟨H.tb, 0, none⟩)) := hb3.cell 0
      have hc1 : W2.cell? ⟨itb, 1, none⟩ = some (.pointer (some ⟨p, 0, none⟩)) := hb3.cell 1
      have hc2 : W2.cell? ⟨itb, 2, none⟩ = some (.pointer (some ⟨e.b, 0, none⟩)) := hb3.cell 2
      have hc3 : W2.cell? ⟨itb, 3, none⟩ = some (.int .u8 1) := hb3.cell 3
      have hf := hb3.frozen
      have hq1 := (s3.cells HQ.out).2.1
      generalize hnq : q.es.length = nq2 at *
      have HNQ := Lib.hid hnq
      by_cases hlt : kL.length < nq2
      rotate_left
      · have hk0 : kR = [] := List.length_eq_zero_iff.1 (by omega)
        have hkx : q.ks = kL ++ [j] := by rw [HKS.out, hk0]
        have jx8 : decide ((kL.length : Int) < (nq2 : Int)) = false := decide_eq_false (by omega)
        have jx7 : (nq2 : Int) ≤ (kL.length : Int) := by omega
        have jx6 : ¬ (kL.length : Int) < (nq2 : Int) := by omega
        have F := Lib.hid (show ∃ (j2 : Nat) (d2 : ND), Blk W2 itb 94 (itC H.tb (some j2) (some e.b) 1) ∧ Only [itb] w W2 ∧ St W2 B H o σ α ∧ σ j2 = some d2 ∧ r.lv < d2.lv + (r.lv - dj.lv) ∧ e.kv ∈ nk σ j2 ∧ EndsAt σ rt j2 LE from
          ⟨p, q, hb3, HO3.out, s3, HQ.out, by have h1 := HRD.out; omega, mem_up SS.out HQ.out HKS.out HMEM.out, HT.out.up SS.out HQ.out hkx (by rw [HNQ.out]; omega)⟩)
        clear hb3 s3 hkx hk0 hnq
        generalize kL.length = nL at *
        clear hle hqk
        go_wp2_with fail
        go_roundg (r.lv - dj.lv)
        case measure => have h1 := HRD.out; omega
        case rel => exact F.out
      · obtain ⟨f, hff⟩ : ∃ f, q.es[kL.length]? = some f := ⟨_, List.getElem?_eq_getElem (by omega)⟩
        obtain ⟨X', sp⟩ := HT.out.hit SS.out HQ.out HKS.out hff
        exfalso
        have e1 := sp.now SS.out
        have e2 := NK.out
        rw [e1] at e2
        have := congrArg List.length e2
        simp at this
end
end Go.Proofs.Ytgakapigpiaoiaa.Bt
