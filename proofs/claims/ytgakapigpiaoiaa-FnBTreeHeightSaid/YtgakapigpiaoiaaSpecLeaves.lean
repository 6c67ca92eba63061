import Derived.Test.YtgakapigpiaoiaaBtFill
import Derived.Test.YtgakapigpiaoiaaBtList
import Derived.Test.YtgakapigpiaoiaaBtShP
import Derived.Deep.RegionLaw
import Derived.BigQuiet
import Derived.IntWalk
namespace Go.Proofs.Ytgakapigpiaoiaa.Bt
open Go.RowKit Go.Proofs.Ytgakapigpiaoiaa
def lvOf (σ : Store) (i : Nat) : Nat := match σ i with
  | some d => d.lv
  | none => 0
def restK (σ : Store) (d : ND) (k : Nat) : KV := if k < d.ks.length then rowKvs (nk σ) (d.ks.drop k) (d.es.drop k) else []
theorem restK_step {σ : Store} {d : ND} {k c : Nat} (hk : d.ks[k]? = some c) (hl : d.ks.length = d.es.length + 1) : restK σ d k = nk σ c ++ (match d.es[k]? with | some e => [e.kv] | none => []) ++ restK σ d (k + 1) := by
  conv => lhs; unfold restK
  rw [if_pos (List.getElem?_eq_some_iff.1 hk).1, rowKvs_step (nk σ) d.ks d.es k c hk hl]
  rfl
theorem split_at {l : List Nat} {k c : Nat} (h : l[k]? = some c) : l = l.take k ++ c :: l.drop (k + 1) ∧ (l.take k).length = k := by
  obtain ⟨h1, h2⟩ := List.getElem?_eq_some_iff.1 h
  constructor
  · conv => lhs; rw [← List.take_append_drop k l, List.drop_eq_getElem_cons h1, h2]
  · rw [List.length_take]; omega
theorem map_kv_fst (es : List En) : (es.map En.kv).map Prod.fst = es.map En.k := by simp [En.kv]
theorem map_kv_snd (es : List En) : (es.map En.kv).map Prod.snd = es.map En.v := by simp [En.kv]
section
variable {rt : Nat} {σ : Store}
set_option maxHeartbeats 8000000 in
set_option maxRecDepth 100000 in
theorem leaves_walk {L : List BK} (S : Shp σ rt) (hfe : ∀ i d, σ i = some d → d.es.length ≤ 1000) (n cap : Nat) (A : Option Addr) (hn : L.length = n) (w0 : World) (hr : ListAt w0 w0.heap.size A L) (sb : Nat) : ∀ i d, σ i = some d → ∀ (a : Nat) (u left : Int) (ks vs : List Int) (w : World) (A1 : Option Addr) (d1 : Nat) (A2 : Option Addr) (d2 q : Nat),
    SubB L σ i a u → (lvOf σ i : Int) ≤ left → left ≤ 200000 → Below w0.heap.size w0 w → Fill w w0.heap.size sb A1 d1 A2 d2 q q ks vs → q + (nk σ i).length ≤ 100000 →
    Calls Try.prog 18 #[.slice A n cap, .int .i64 a, .int .i64 u, .int .i64 left, .pointer (some ⟨sb, 0, none⟩)] w fun e w' => e = .returned (.int .i64 (lvOf σ i + 1 : Nat)) ∧ ∃ A1' d1' A2' d2', Fill w' w0.heap.size sb A1' d1' A2' d2' (q + (nk σ i).length) (q + (nk σ i).length) (ks ++ (nk σ i).map Prod.fst) (vs ++ (nk σ i).map Prod.snd) ∧ Fills sb w w' A1 A2 A1' A2' := by
  refine lv_ind S fun i d h ih a u left ks vs w A1 d1 A2 d2 q s hl hl2 hb hf hq => ?_
  obtain ⟨ad, K1, c1, K2, c2, K3, c3, rfl, r⟩ := hr a _ (s.here S h)
  have hlt := s.lt S h
  rw [hn] at hlt
  have hlv : lvOf σ i = d.lv := by unfold lvOf; rw [h]
  rw [hlv] at hl ⊢
  have hne := hfe i d h
  have hL := nk_length S h
  have hnk := nk_row S h
  obtain ⟨g0, g1, g2, g3, g4⟩ := (r.below hb).cells
  simp only [List.length_map, posB_length] at g1 g2 g3
  have R := Lib.hid r
  have HF := Lib.hid hf
  have HB := Lib.hid hb
  have HQ := Lib.hid hq
  have HH := Lib.hid h
  have HS := Lib.hid s
  have HI := Lib.hid ih
  have HL := Lib.hid hL
  have HK := Lib.hid hnk
  have HLV := Lib.hid hl
  have hlw : d.lv < 200001 := by omega
  have ha0 : decide ((a : Int) < 0) = false := decide_eq_false (by omega)
  have ha1 : decide (n ≤ a) = false := decide_eq_false (by omega)
  have ha2 : (a : Int) < (n : Int) := by omega
  have ha3 : (0 : Int) ≤ (a : Int) := by omega
  have hl0 : decide (left < 0) = false := decide_eq_false (by omega)
  have hbu : (Value.bool (u != u)) = .bool false := by simp
  generalize hX : d.es.length = ne at *
  have hbn : (Value.bool ((ne : Int) != (ne : Int))) = .bool false := by simp
  have HX := Lib.hid hX
  generalize hcv : (cnt σ i : Int) = cv at *
  generalize hY : d.ks.length = kn at *
  have HY := Lib.hid hY
  have HN := Lib.hid hn
  have g1c := g1
  have g2c := g2
  have g3c := g3
  clear hX hcv ih s r hr h hL hnk hq hn hl hlt hY
  go_enter Try.func18, Try.ntmps18
  go_wp2_with fail
  go_quiet (fail)
  have hb2 := Below.drewN' hb nq
  have hf2 := hf.below (w' := w.drewN nq) ⟨rfl, rfl, rfl, Nat.le_refl _, fun _ _ => rfl⟩
  have FS0 := Lib.hid (show Fills sb w (w.drewN nq) A1 A2 A1 A2 from ⟨Only.drewN (Only.refl _ _) nq, fun a h => .inl (by subst h; simp [blks]), fun a h => .inl (by subst h; simp [blks])⟩)
  have k0 : (w.drewN nq).cell? (ad.add (a * 5)) = some (.int .i64 u) := g0
  have k1 : (w.drewN nq).cell? ⟨(ad.add (a * 5)).block, (ad.add (a * 5)).off + 1, none⟩ = some (.slice K1 ne c1) := g1
  have k2 : (w.drewN nq).cell? ⟨(ad.add (a * 5)).block, (ad.add (a * 5)).off + 2, none⟩ = some (.slice K2 ne c2) := g2
  have k3 : (w.drewN nq).cell? ⟨(ad.add (a * 5)).block, (ad.add (a * 5)).off + 3, none⟩ = some (.slice K3 kn c3) := g3
  have k4 : (w.drewN nq).cell? ⟨(ad.add (a * 5)).block, (ad.add (a * 5)).off + 4, none⟩ = some (.int .i64 cv) := g4
  clear g0 g1 g2 g3 g4 g1c g2c g3c HF HB hf hb
  generalize w.drewN nq = w1 at *
  have KB := Lib.hid (Blk.new w1 39 #[.int .i64 u, .slice K1 ne c1, .slice K2 ne c2, .slice K3 kn c3, .int .i64 cv])
  have B1 := Lib.hid (hb2.alloc hb2.size (.cells #[.int .i64 u, .slice K1 ne c1, .slice K2 ne c2, .slice K3 kn c3, .int .i64 cv] 39))
  have F1 := Lib.hid (hf2.alloc (.cells #[.int .i64 u, .slice K1 ne c1, .slice K2 ne c2, .slice K3 kn c3, .int .i64 cv] 39))
  have FS1 := Lib.hid (FS0.out.trans (show Fills sb w1 (w1.alloc (.cells #[.int .i64 u, .slice K1 ne c1, .slice K2 ne c2, .slice K3 kn c3, .int .i64 cv] 39)) A1 A2 A1 A2 from ⟨(Only.refl _ _).alloc _, fun a h => .inl (by subst h; simp [blks]), fun a h => .inl (by subst h; simp [blks])⟩))
  clear hb2 hf2 FS0
  cases hd0 : d.lv with
  | zero =>
    have hk0 : d.ks = [] := S.leaf i d HH.out hd0
    obtain rfl : kn = 0 := by have := HY.out; rw [hk0] at this; simp at this; omega
    have HK0 := Lib.hid hk0
    have HD0 := Lib.hid hd0
    clear hk0 hd0
    go_wp2_with fail
    clear k0 k1 k2 k3 k4
    generalize w1.alloc (.cells #[.int .i64 u, .slice K1 ne c1, .slice K2 ne c2, .slice K3 0 c3, .int .i64 cv] 39) = w2 at *
    generalize w1.heap.size = kb at *
    have hs0 : w2.cell? ⟨sb, 0, none⟩ = some (.slice A1 q d1) := F1.out.blk.cell 0
    have hsf := F1.out.blk.frozen
    have hk1 : w2.cell? ⟨kb, 1, none⟩ = some (.slice K1 ne c1) := KB.out.cell 1
    go_region_law
      (first
      | (have FD := Lib.hid (Fill.drew F1.out)
         refine step_app (t := 28) (e := 3) (z := .int .i64 0) (size := 1) (bytes := 8) Try.underlying28 int_info rfl (by omega) rfl (.tmp 64) (.tmp 66) rfl w0.heap.size (.slice A1 q d1) (q) (intRow (ks)) rfl FD.out.own1 K1 ne c1 (intRow (d.es.map En.k)) rfl (rowAt_src (R.out.below (Below.drew B1.out)).r1 (by simp [intRow, HX.out]) (fun h => by have := R.out.n1 h; simpa [HX.out] using this)) (intRow_one _) (by have := HQ.out; have := HL.out; omega) (by have := HQ.out; have := HL.out; omega) (by have := B1.out.size; first | exact this | (simp; omega)) ?_
         intro v3 u3 own3 gr3 ob3
         rw [← intRow_append] at own3
         obtain ⟨A3, c3_, rfl, _, _⟩ := own_slice own3
         have P3 := Lib.hid (FD.out.push1 (d.es.map En.k) (by rw [List.length_map, HX.out]) own3 gr3 ob3)
         have SB3 := Lib.hid (Blk.same FD.out.blk (gr3.block sb FD.out.blk.lt (fun e => own_neB FD.out.own1 FD.out.blk (by decide) e.symm)))
         have hsb3 := SB3.out.cell 0
         have hsf3 := SB3.out.frozen 0
         have KD3 := Lib.hid (FD.out.off (Blk.drew KB.out) (by decide) (by decide))
         clear own3 gr3 ob3 FD))
    all_goals
      have F3 := Lib.hid P3.out.1
      have KB3 := Lib.hid ((Blk.drew KB.out).only P3.out.2.1.on KD3.out)
      have FS3 := Lib.hid (FS1.out.trans (Fills.trans (Fills.drew sb w2 A1 A2) P3.out.2.1))
      have B3 := Lib.hid (B1.out.drew.trans (P3.out.2.1.below F1.out.drew B1.out.size))
      clear P3 SB3 KD3 hsb3 hsf3 hs0 hk1 hsf KB F1 FS1 B1
      generalize u3.setCell ⟨sb, 0, none⟩ (.slice A3 (q + ne) c3_) = w4 at *
      have hs1 : w4.cell? ⟨sb, 1, none⟩ = some (.slice A2 q d2) := F3.out.blk.cell 1
      have hsf := F3.out.blk.frozen
      have hk2 : w4.cell? ⟨kb, 2, none⟩ = some (.slice K2 ne c2) := KB3.out.cell 2
      go_wp2_with fail
    all_goals
      go_region_law
        (first
        | (have FD := Lib.hid (Fill.drew F3.out)
           refine step_app (t := 28) (e := 3) (z := .int .i64 0) (size := 1) (bytes := 8) Try.underlying28 int_info rfl (by omega) rfl (.tmp 74) (.tmp 76) rfl w0.heap.size (.slice A2 q d2) (q) (intRow (vs)) rfl FD.out.own2 K2 ne c2 (intRow (d.es.map En.v)) rfl (rowAt_src (R.out.below (Below.drew B3.out)).r2 (by simp [intRow, HX.out]) (fun h => by have := R.out.n2 h; simpa [HX.out] using this)) (intRow_one _) (by have := HQ.out; have := HL.out; omega) (by have := HQ.out; have := HL.out; omega) (by have := B3.out.size; first | exact this | (simp; omega)) ?_
           intro v5 u5 own5 gr5 ob5
           rw [← intRow_append] at own5
           obtain ⟨A5, c5, rfl, _, _⟩ := own_slice own5
           have P5 := Lib.hid (FD.out.push2 (d.es.map En.v) (by rw [List.length_map, HX.out]) own5 gr5 ob5)
           have SB5 := Lib.hid (Blk.same FD.out.blk (gr5.block sb FD.out.blk.lt (fun e => own_neB FD.out.own2 FD.out.blk (by decide) e.symm)))
           have hsb5 := SB5.out.cell 1
           have hsf5 := SB5.out.frozen 1
           have KD5 := Lib.hid (FD.out.off (Blk.drew KB3.out) (by decide) (by decide))
           clear own5 gr5 ob5 FD))
    all_goals
      have F5 := Lib.hid P5.out.1
      have FS5 := Lib.hid (FS3.out.trans (Fills.trans (Fills.drew sb w4 A3 A2) P5.out.2.1))
      clear P5 SB5 KD5 hsb5 hsf5 hs1 hk2 hsf KB3 F3 FS3 B3
      generalize u5.setCell ⟨sb, 1, none⟩ (.slice A5 (q + ne) c5) = w6 at *
      go_wp2_with fail
      go_ret
      refine ⟨by rw [HD0.out]; rfl, A3, c3_, A5, c5, ?_, FS5.out⟩
      have e1 : nk σ i = d.es.map En.kv := by rw [HK.out, HK0.out]; rfl
      have e2 : (nk σ i).length = ne := by rw [e1, List.length_map, HX.out]
      rw [e2, e1, map_kv_fst, map_kv_snd]
      exact F5.out
  | succ lv =>
    obtain ⟨lw, hlw⟩ : ∃ lw, lw = lv + 1 := ⟨_, rfl⟩
    rw [← hlw] at hd0
    have hil := S.inner i d HH.out (by omega)
    have HNK := Lib.hid (show kn = ne + 1 by rw [← HY.out, hil, HX.out])
    have hknb : kn ≤ 1001 := by have := HNK.out; omega
    have HIL := Lib.hid hil
    obtain ⟨a3, rfl⟩ : ∃ a3, K3 = some a3 := by
      cases K3 with
      | none => have h3 := (R.out.n3 rfl).1; simp only [posB_length] at h3; have := HNK.out; have := HY.out; omega
      | some a3 => exact ⟨a3, rfl⟩
    have HD := Lib.hid hd0
    have HLL := Lib.hid (show (lw : Int) ≤ left by rw [← hd0]; exact HLV.out)
    have hlw1 : 1 ≤ lw := by omega
    have hn0 : ((kn : Int) == 0) = false := by have := HNK.out; simp; omega
    have hwn : IntKind.i64.wrap ((ne : Int) + 1) = (kn : Int) := by have := HNK.out; rw [IntWalk.i64_in _ (by omega)]; omega
    have hnn : (Value.bool ((kn : Int) != (kn : Int))) = .bool false := by simp
    clear hlw hd0 hil
    go_wp2_with fail
    clear k0 k1 k2 k3 k4 hwn hnn hn0
    generalize w1.alloc (.cells #[.int .i64 u, .slice K1 ne c1, .slice K2 ne c2, .slice (some a3) kn c3, .int .i64 cv] 39) = w2 at *
    generalize w1.heap.size = kb at *
    go_loopw [12, 91] (fun hv j wr => ∃ (k : Nat) (hi : Int) (G1 : Option Addr) (e1 : Nat) (G2 : Option Addr) (e2 qq : Nat) (pre : KV), k ≤ kn ∧ j = .int .i64 k ∧ hv = .int .i64 hi ∧ (k = 0 ∨ hi = lw) ∧ (k = kn → hi = lw) ∧ qq = q + pre.length ∧ Fill wr w0.heap.size sb G1 e1 G2 e2 qq qq (ks ++ pre.map Prod.fst) (vs ++ pre.map Prod.snd) ∧ Fills sb w2 wr A1 A2 G1 G2 ∧ pre ++ restK σ d k = nk σ i) (fun _ j _ => kn - (intOf j).toNat)
    case atStart =>
      refine ⟨0, 0, A1, d1, A2, d2, q, [], Nat.zero_le _, rfl, rfl, .inl rfl, fun h0 => by have := HNK.out; omega, by simp, by simpa using F1.out, Fills.refl _ _ _ _, ?_⟩
      have := HNK.out
      rw [HK.out, List.nil_append]
      unfold restK
      rw [if_pos (by rw [HY.out]; omega)]
      rfl
    case round =>
      obtain ⟨k, hi, G1, e1, G2, e2, qq, pre, hk, rfl, rfl, hhi, hhn, hqq, f, fs, hpre⟩ := hrel
      by_cases hlt : k < kn
      · obtain ⟨c, hkc⟩ : ∃ c, d.ks[k]? = some c := ⟨_, List.getElem?_eq_getElem (by rw [HY.out]; exact hlt)⟩
        obtain ⟨hsp, hsl⟩ := split_at hkc
        obtain ⟨hpk, sc⟩ := HS.out.kid S HH.out hsp
        rw [hsl] at hpk
        have bw : Below w0.heap.size w0 wr := B1.out.trans (fs.below F1.out B1.out.size)
        obtain ⟨a3', h3, _, hc3⟩ := (R.out.below bw).r3 _ _ (intRow_at hpk)
        injection h3 with h3
        subst h3
        have hmc : c ∈ d.ks := List.mem_of_getElem? hkc
        obtain ⟨cd, hcd, _, hcl⟩ := S.kid i d c HH.out hmc
        have hlc : lvOf σ c + 1 = lw := by have := HD.out; unfold lvOf; rw [hcd]; simp only; omega
        have hst := restK_step (σ := σ) hkc HIL.out
        have hlen := congrArg List.length hpre
        rw [hst] at hlen
        simp only [List.length_append] at hlen
        have q1 := HQ.out
        have q2 := HLL.out
        have QB := Lib.hid (show qq + (nk σ c).length + 1 ≤ 100001 by omega)
        generalize a + 1 + ((d.ks.take k).map (cnt σ)).sum = ka at *
        have cc := HI.out c hmc ka (a : Int) (left - 1) _ _ wr G1 e1 G2 e2 qq sc (by omega) (by omega) bw f (by have := QB.out; omega)
        rw [hlc] at cc
        have CC := Lib.hid cc
        have KW := Lib.hid (KB.out.only fs.on (F1.out.off KB.out (by decide) (by decide)))
        have F := Lib.hid f
        have FS := Lib.hid fs
        have BW := Lib.hid bw
        have HST := Lib.hid hst
        have HPR := Lib.hid hpre
        have HKC := Lib.hid hkc
        have HQQ := Lib.hid hqq
        have HHI := Lib.hid hhi
        have hwl : IntKind.i64.wrap (left - 1) = left - 1 := IntWalk.i64_in _ (by omega)
        have hz1 : decide ((lw : Int) < 0) = false := decide_eq_false (by omega)
        have hz2 : (Value.bool ((lw : Int) != (lw : Int))) = .bool false := by simp
        clear hsp hsl hpk sc bw hmc hcd hcl hlc hst hlen q1 q2 cc f fs hpre hkc hqq hhi hhn
        go_wp2_with fail
        refine CC.out.mono ?_
        rintro e w4 ⟨rfl, G3, e3, G4, e4, f4, fs4⟩
        have K4 := Lib.hid (KW.out.only fs4.on (F.out.off KW.out (by decide) (by decide)))
        have B4 := Lib.hid (BW.out.trans (fs4.below F.out BW.out.size))
        have FS4 := Lib.hid (FS.out.trans fs4)
        have F4 := Lib.hid f4
        clear f4 fs4 CC KW F BW FS hc3
        have hb1 : w4.cell? ⟨kb, 1, none⟩ = some (.slice K1 ne c1) := K4.out.cell 1
        by_cases hk0 : k = 0
        all_goals
          first
          | (have hkz : decide (0 < k) = false := decide_eq_false (by omega)
             clear hk0)
          | (have hkz : decide (0 < k) = true := decide_eq_true (by omega)
             obtain rfl : hi = lw := by rcases HHI.out with h0 | h0; exact absurd h0 hk0; exact h0
             clear hk0)
          by_cases hke : k < ne
          · obtain ⟨en, hen⟩ : ∃ en, d.es[k]? = some en := ⟨_, List.getElem?_eq_getElem (by rw [HX.out]; exact hke)⟩
            obtain ⟨a1, rfl, _, hq1⟩ := (R.out.below B4.out).r1 _ _ (intRow_at (show (d.es.map En.k)[k]? = some en.k by rw [List.getElem?_map, hen]; rfl))
            have hkz2 : decide (k < ne) = true := decide_eq_true hke
            generalize hqc : qq + (nk σ c).length = qc at *
            have HQC := Lib.hid hqc
            have HEN := Lib.hid hen
            have hs0 : w4.cell? ⟨sb, 0, none⟩ = some (.slice G3 qc e3) := F4.out.blk.cell 0
            have hsf := F4.out.blk.frozen
            have hsA : (w4.alloc (.cells #[.int .i64 en.k] 3)).cell? ⟨sb, 0, none⟩ = some (.slice G3 qc e3) := (F4.out.alloc _).blk.cell 0
            clear hqc hen
            go_wp2_with fail
            go_region_law
              (first
              | (have FD := Lib.hid (Fill.drew (F4.out.alloc (.cells #[.int .i64 en.k] 3)))
                 refine step_app (t := 28) (e := 3) (z := .int .i64 0) (size := 1) (bytes := 8) Try.underlying28 int_info rfl (by omega) rfl (.tmp 124) (.tmp 130) rfl w0.heap.size (.slice G3 qc e3) qc (intRow (ks ++ pre.map Prod.fst ++ (nk σ c).map Prod.fst)) rfl FD.out.own1 (some ⟨w4.heap.size, 0, none⟩) 1 1 (intRow [en.k]) rfl (src_blk (Blk.drew (Blk.new _ _ _)) rfl) (intRow_one _) (by have := QB.out; omega) (by have := QB.out; omega) (by have := B4.out.size; simp; omega) ?_
                 intro v6 u6 own6 gr6 ob6
                 rw [← intRow_append] at own6
                 obtain ⟨A6, c6_, rfl, _, _⟩ := own_slice own6
                 have P6 := Lib.hid (FD.out.push1 [en.k] rfl own6 gr6 ob6)
                 have SB6 := Lib.hid (Blk.same FD.out.blk (gr6.block sb FD.out.blk.lt (fun e => own_neB FD.out.own1 FD.out.blk (by decide) e.symm)))
                 have hsb6 := SB6.out.cell 0
                 have hsf6 := SB6.out.frozen 0
                 have KD6 := Lib.hid (FD.out.off (Blk.drew (K4.out.alloc _)) (by decide) (by decide))
                 clear own6 gr6 ob6 FD))
            all_goals
              have F6 := Lib.hid P6.out.1
              have K6 := Lib.hid ((Blk.drew (K4.out.alloc _)).only P6.out.2.1.on KD6.out)
              have FS6 := Lib.hid (FS4.out.trans (Fills.trans (Fills.start sb w4 G3 G4 (.cells #[.int .i64 en.k] 3)) P6.out.2.1))
              have B6 := Lib.hid (B4.out.trans ((Fills.trans (Fills.start sb w4 G3 G4 (.cells #[.int .i64 en.k] 3)) P6.out.2.1).below F4.out B4.out.size))
              clear P6 SB6 KD6 hsb6 hsf6 hs0 hsf hsA hq1 hb1 F4 K4 FS4 B4
              generalize u6.setCell ⟨sb, 0, none⟩ (.slice A6 (qc + 1) c6_) = w6 at *
              obtain ⟨a2, rfl, _, hq2⟩ := (R.out.below B6.out).r2 _ _ (intRow_at (show (d.es.map En.v)[k]? = some en.v by rw [List.getElem?_map, HEN.out]; rfl))
              have hs1 : w6.cell? ⟨sb, 1, none⟩ = some (.slice G4 qc e4) := F6.out.blk.cell 1
              have hsf := F6.out.blk.frozen
              have hsA : (w6.alloc (.cells #[.int .i64 en.v] 3)).cell? ⟨sb, 1, none⟩ = some (.slice G4 qc e4) := (F6.out.alloc _).blk.cell 1
              have hb2 : w6.cell? ⟨kb, 2, none⟩ = some (.slice (some a2) ne c2) := K6.out.cell 2
              go_wp2_with fail
            all_goals
              go_region_law
                (first
                | (have FD := Lib.hid (Fill.drew (F6.out.alloc (.cells #[.int .i64 en.v] 3)))
                   refine step_app (t := 28) (e := 3) (z := .int .i64 0) (size := 1) (bytes := 8) Try.underlying28 int_info rfl (by omega) rfl (.tmp 138) (.tmp 144) rfl w0.heap.size (.slice G4 qc e4) qc (intRow (vs ++ pre.map Prod.snd ++ (nk σ c).map Prod.snd)) rfl FD.out.own2 (some ⟨w6.heap.size, 0, none⟩) 1 1 (intRow [en.v]) rfl (src_blk (Blk.drew (Blk.new _ _ _)) rfl) (intRow_one _) (by have := QB.out; omega) (by have := QB.out; omega) (by have := B6.out.size; simp; omega) ?_
                   intro v7 u7 own7 gr7 ob7
                   rw [← intRow_append] at own7
                   obtain ⟨A7, c7_, rfl, _, _⟩ := own_slice own7
                   have P7 := Lib.hid (FD.out.push2 [en.v] rfl own7 gr7 ob7)
                   have SB7 := Lib.hid (Blk.same FD.out.blk (gr7.block sb FD.out.blk.lt (fun e => own_neB FD.out.own2 FD.out.blk (by decide) e.symm)))
                   have hsb7 := SB7.out.cell 1
                   have hsf7 := SB7.out.frozen 1
                   have KD7 := Lib.hid (FD.out.off (Blk.drew (K6.out.alloc _)) (by decide) (by decide))
                   clear own7 gr7 ob7 FD))
            all_goals
              have F7 := Lib.hid P7.out.1
              have FS7 := Lib.hid (FS6.out.trans (Fills.trans (Fills.start sb w6 A6 G4 (.cells #[.int .i64 en.v] 3)) P7.out.2.1))
              clear P7 SB7 KD7 hsb7 hsf7 hs1 hsf hsA hq2 hb2 F6 K6 FS6 B6
              generalize u7.setCell ⟨sb, 1, none⟩ (.slice A7 (qc + 1) c7_) = w7 at *
              go_wp2_with fail
              go_roundw
              case rel =>
                refine ⟨k + 1, lw, A6, c6_, A7, c7_, qc + 1, pre ++ nk σ c ++ [en.kv], by omega, by go_num, rfl, .inr rfl, fun _ => rfl, ?_, ?_, FS7.out, ?_⟩
                · have := HQC.out; have := HQQ.out; simp only [List.length_append, List.length_singleton]; omega
                · have h := F7.out
                  simpa [En.kv] using h
                · have h1 := HPR.out
                  rw [HST.out, HEN.out] at h1
                  simpa using h1
              case measure => simp [intOf]; omega
          · have hkz2 : decide (k < ne) = false := decide_eq_false hke
            have hen : d.es[k]? = none := List.getElem?_eq_none (by rw [HX.out]; omega)
            have HEN := Lib.hid hen
            clear hen
            go_wp2_with fail
            go_roundw
            case rel =>
              refine ⟨k + 1, lw, G3, e3, G4, e4, qq + (nk σ c).length, pre ++ nk σ c, by omega, by go_num, rfl, .inr rfl, fun _ => rfl, ?_, ?_, FS4.out, ?_⟩
              · have := HQQ.out; simp only [List.length_append]; omega
              · have h := F4.out
                simpa using h
              · have h1 := HPR.out
                rw [HST.out, HEN.out] at h1
                simpa using h1
            case measure => simp [intOf]; omega
      · obtain rfl : k = kn := by omega
        obtain rfl : hi = lw := hhn rfl
        have h1 := hpre
        unfold restK at h1
        rw [if_neg (by rw [HY.out]; omega), List.append_nil] at h1
        subst h1
        have F9 := Lib.hid f
        have FS9 := Lib.hid fs
        have HQQ := Lib.hid hqq
        have hwl : IntKind.i64.wrap ((lw : Int) + 1) = (lw : Int) + 1 := IntWalk.i64_in _ (by have := HLL.out; omega)
        clear f fs hqq hpre hhi hhn
        go_wp2_with fail
        go_ret
        refine ⟨by rw [HD.out]; rfl, G1, e1, G2, e2, ?_, FS1.out.trans FS9.out⟩
        rw [← HQQ.out]
        exact F9.out
end
end Go.Proofs.Ytgakapigpiaoiaa.Bt
