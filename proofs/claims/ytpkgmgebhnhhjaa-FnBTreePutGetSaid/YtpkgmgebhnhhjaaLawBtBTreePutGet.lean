/- For every order, every list of acts and all numbers: what was put into a B-tree is found with its value, and all other numbers are as they were. No condition. -/
import Derived.Test.YtpkgmgebhnhhjaaRows0
import Derived.Test.YtpkgmgebhnhhjaaBtKept
namespace Go.Proofs.Ytpkgmgebhnhhjaa.Bt
open Go.RowKit Go.Proofs.Ytpkgmgebhnhhjaa

set_option maxHeartbeats 2000000 in
theorem lawBTreePutGet_walk (m : Int) (o : Ord) (cap : Nat) (A : Option Addr) (acts : List Do) (key value other : Int) (w : World) (hA : A = none → acts.length = 0 ∧ cap = 0) (ha : ActsAt w w.heap.size A acts) :
    Calls Try.prog 3 #[.int .i64 m, .agg #[.int .i64 o.kind, .int .i64 o.m], .slice A acts.length cap, .int .i64 key, .int .i64 value, .int .i64 other] w fun e w' => e = .returned (.bool true) ∧ Below w.heap.size w w' := by
  have Ha := Lib.hid ha
  have HA := Lib.hid hA
  clear ha hA
  by_cases h0 : 2147483647 < acts.length
  · go_enter Try.func3, Try.ntmps3
    go_wp2_with fail
    go_ret
    exact ⟨rfl, (Below.refl _ _).alloc (Nat.le_refl _) _⟩
  · by_cases hm1 : m < 3
    · go_enter Try.func3, Try.ntmps3
      go_wp2_with fail
      go_ret
      exact ⟨rfl, (Below.refl _ _).alloc (Nat.le_refl _) _⟩
    by_cases hm2 : 64 < m
    · have hm1' : ¬ m < 3 := hm1
      go_enter Try.func3, Try.ntmps3
      go_wp2_with fail
      go_ret
      exact ⟨rfl, (Below.refl _ _).alloc (Nat.le_refl _) _⟩
    have hm : 3 ≤ m ∧ m ≤ 64 := ⟨by omega, by omega⟩
    by_cases hp : o.plain
    · by_cases h3 : 300 < acts.length
      · go_enter Try.func3, Try.ntmps3
        go_wp2_with fail
        refine (plain_yes o hp _).mono ?_
        rintro e w1 ⟨rfl, rfl⟩
        go_wp2_with fail
        go_ret
        exact ⟨rfl, ((Below.refl _ _).alloc (Nat.le_refl _) _).alloc (by simp) _⟩
      · have q1 : look o key (run o (acts ++ [⟨1, key, value⟩])) = some (key, value) := by rw [run_append]; simp [step_put, look_ins_same]
        have q3 : other ≠ key → look o other (run o (acts ++ [⟨1, key, value⟩])) = look o other (run o acts) := fun h => by
          rw [run_append]; simp only [List.foldl_cons, List.foldl_nil, step_put]; exact look_ins_other (fun e => h (rk_inj hp e))
        have c1 := fun (w : World) (cap : Nat) (A : Option Addr) (ha : ActsAt w w.heap.size A (acts ++ [⟨1, key, value⟩])) => implBTreeGet_walk m hm o hp.fine (acts.length + 1) cap A _ key w (by simp) (by omega) ha
        have c2 := fun (w : World) (cap : Nat) (A : Option Addr) (ha : ActsAt w w.heap.size A acts) => implBTreeGet_walk m hm o hp.fine _ cap A _ other w rfl (by omega) ha
        have c3 := fun (w : World) (cap : Nat) (A : Option Addr) (ha : ActsAt w w.heap.size A (acts ++ [⟨1, key, value⟩])) => implBTreeGet_walk m hm o hp.fine (acts.length + 1) cap A _ other w (by simp) (by omega) ha
        rw [q1] at c1
        simp only [gotV] at c1
        have C1 := Lib.hid c1
        have C2 := Lib.hid c2
        have C3 := Lib.hid c3
        have Q3 := Lib.hid q3
        clear q1 q3 c1 c2 c3
        go_enter Try.func3, Try.ntmps3
        go_wp2_with fail
        refine (plain_yes o hp _).mono ?_
        rintro e w1 ⟨rfl, rfl⟩
        go_wp2_with (at_builtin; refine Hid.out ?_)
        delta Hid
        have b0 : Below w.heap.size w (((w.alloc (.cells #[.int .i64 o.kind, .int .i64 o.m] 23)).alloc (.cells #[.int .i64 o.kind, .int .i64 o.m] 23)).alloc (.cells #[] 27)) :=
          (((Below.refl _ _).alloc (Nat.le_refl _) _).alloc (by simp) _).alloc (by simp; omega) _
        have ob0 : Blk (((w.alloc (.cells #[.int .i64 o.kind, .int .i64 o.m] 23)).alloc (.cells #[.int .i64 o.kind, .int .i64 o.m] 23)).alloc (.cells #[] 27)) w.heap.size 23 #[.int .i64 o.kind, .int .i64 o.m] :=
          Blk.alloc (Blk.alloc (Blk.new _ _ _) _) _
        have B0 := Lib.hid b0
        have OB0 := Lib.hid ob0
        clear b0 ob0
        refine wpList_app_act rfl _ _ rfl (w.heap.size + 1) (.slice (some ⟨w.heap.size + 1 + 1, 0, none⟩) 0 0) [] rfl (own_empty (Blk.new' (by simp) _ _) (by omega)) A acts.length cap acts rfl ((Ha.out.below B0.out).src rfl HA.out) rfl (by simp; omega) (by simp) ?_
        intro v1 w1 own1 gr1 _
        have b1 := B0.out.grown gr1 (by simp; omega) (by intro k hk; simp [Value.ownBlock] at hk; omega)
        have ob1 : Blk w1 w.heap.size 23 #[.int .i64 o.kind, .int .i64 o.m] := grown_keep gr1 OB0.out (by simp [Value.ownBlock]; omega)
        have hc0 := ob1.cell 0
        have hc1 := ob1.cell 1
        have hlt1 := ob1.lt
        have hrow := fun k hk => (own1.lt k hk).1
        rw [List.nil_append] at own1
        obtain ⟨A1, cap1, rfl, _, _⟩ := own_slice own1
        have OW1 := Lib.hid own1
        have BB1 := Lib.hid b1
        have OB1 := Lib.hid ob1
        have Row := Lib.hid hrow
        clear own1 gr1 b1 ob1 B0 OB0 hrow
        go_wp2_with (at_builtin; refine Hid.out ?_)
        delta Hid
        refine wpList_app_act rfl _ _ rfl (w.heap.size + 1) (.slice A1 acts.length cap1) acts rfl (OW1.out.alloc _) (some ⟨w1.heap.size, 0, none⟩) 1 1 [⟨1, key, value⟩] rfl (src_block (Blk.new' rfl _ _)) rfl (by simp; omega) (by simp; omega) ?_
        intro v2 w2 own2 gr2 _
        have b2 := (BB1.out.alloc (by omega) _).grown gr2 (by simp; omega) (fun k hk => by have := Row.out k hk; omega)
        have ob2 : Blk w2 w.heap.size 23 #[.int .i64 o.kind, .int .i64 o.m] := grown_keep gr2 (OB1.out.alloc _) (fun e => by have := Row.out _ e; omega)
        have hc0' := ob2.cell 0
        have hc1' := ob2.cell 1
        obtain ⟨A2, cap2, rfl, _, _⟩ := own_slice own2
        have ha2 := ActsAt.of_own own2
        have Ha2 := Lib.hid ha2
        have BB2 := Lib.hid b2
        have OB2 := Lib.hid ob2
        clear own2 gr2 b2 ob2 ha2 hc0 hc1 hlt1 OW1 BB1 OB1 Row
        go_wp2_with fail
        refine (C1.out _ cap2 A2 Ha2.out).mono ?_
        rintro e w3 ⟨rfl, b3⟩
        have b3' := BB2.out.trans (b3.mono BB2.out.size)
        have ob3 := OB2.out.below b3 OB2.out.lt
        have ha3 := (Ha2.out.below b3).more b3.size
        have hac := (Ha.out.below b3').more b3'.size
        have hc0 := ob3.cell 0
        have hc1 := ob3.cell 1
        have Ha3 := Lib.hid ha3
        have HAc := Lib.hid hac
        have BB3 := Lib.hid b3'
        have OB3 := Lib.hid ob3
        clear b3 b3' ob3 ha3 hac hc0' hc1' BB2 OB2 Ha2
        go_wp2_with fail
        refine (C2.out _ cap A HAc.out).mono ?_
        rintro e w4 ⟨rfl, b4⟩
        have b4' := BB3.out.trans (b4.mono BB3.out.size)
        have ob4 := OB3.out.below b4 OB3.out.lt
        have ha4 := (Ha3.out.below b4).more b4.size
        have hc0' := ob4.cell 0
        have hc1' := ob4.cell 1
        have Ha4 := Lib.hid ha4
        have BB4 := Lib.hid b4'
        clear b4 b4' ob4 ha4 hc0 hc1 BB3 OB3 Ha3 HAc
        generalize hq : look o other (run o acts) = q
        have Hq := Lib.hid hq
        clear hq
        by_cases hk : other = key
        · subst hk
          have c3 := C3.out w4 cap2 A2 Ha4.out
          generalize look o other (run o (acts ++ [⟨1, other, value⟩])) = q2 at c3
          clear C3 C2 C1 Q3
          cases q <;> cases q2 <;>
            (simp only [gotV] at c3 ⊢
             have C3' := Lib.hid c3
             clear c3
             go_wp2_with fail
             refine C3'.out.mono ?_
             rintro e w5 ⟨rfl, b5⟩
             have BB5 := Lib.hid (BB4.out.trans (b5.mono BB4.out.size))
             clear b5
             go_wp2_with fail
             go_ret
             exact ⟨rfl, BB5.out⟩)
        · have hke : (other == key) = false := by simpa using hk
          have c3 := C3.out w4 cap2 A2 Ha4.out
          rw [Q3.out hk, Hq.out] at c3
          have C3' := Lib.hid c3
          clear c3 C3 C2 C1 Q3 hk
          cases q with
          | some p =>
            simp only [gotV]
            go_wp2_with fail
            refine C3'.out.mono ?_
            rintro e w5 ⟨rfl, b5⟩
            have BB5 := Lib.hid (BB4.out.trans (b5.mono BB4.out.size))
            clear b5
            simp only [gotV]
            go_wp2_with fail
            go_ret
            exact ⟨rfl, BB5.out⟩
          | none =>
            simp only [gotV]
            go_wp2_with fail
            refine C3'.out.mono ?_
            rintro e w5 ⟨rfl, b5⟩
            have BB5 := Lib.hid (BB4.out.trans (b5.mono BB4.out.size))
            clear b5
            simp only [gotV]
            go_wp2_with fail
            go_ret
            exact ⟨rfl, BB5.out⟩
    · go_enter Try.func3, Try.ntmps3
      go_wp2_with fail
      refine (plain_no o hp _).mono ?_
      rintro e w1 ⟨rfl, rfl⟩
      go_wp2_with fail
      go_ret
      exact ⟨rfl, ((Below.refl _ _).alloc (Nat.le_refl _) _).alloc (by simp) _⟩

end Go.Proofs.Ytpkgmgebhnhhjaa.Bt
