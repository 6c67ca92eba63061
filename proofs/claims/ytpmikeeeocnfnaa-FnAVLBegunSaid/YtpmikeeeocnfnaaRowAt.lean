/-
  Rows of cells that a slice stands for; appending to the call's own rows.
-/
import Derived.Test.YtpmikeeeocnfnaaSpecOrd
namespace Go.Proofs.Ytpmikeeeocnfnaa
open Go.RowKit

theorem Below.drewN' {B : Nat} {u w : World} (h : Below B u w) (n : Nat) : Below B u (w.drewN n) := ⟨h.os, h.tape, h.output, h.size, h.block⟩
/-- A slice whose cells are these, below block B. -/
def RowAt (w : World) (B : Nat) (A : Option Addr) (cs : List Value) : Prop :=
  ∀ (j : Nat) (u : Value), cs[j]? = some u → ∃ a, A = some a ∧ a.block < B ∧ w.cell? (a.add j) = some u

section
variable {w w' : World} {B C : Nat} {A : Option Addr} {cs : List Value}
theorem RowAt.nil (w : World) (B : Nat) (A : Option Addr) : RowAt w B A [] := fun j u h => by simp at h
theorem RowAt.below (h : RowAt w B A cs) (k : Below B w w') : RowAt w' B A cs := fun j u hu => by
  obtain ⟨a, e, hb, h0⟩ := h j u hu
  exact ⟨a, e, hb, (k.cell (by rw [block_of_add]; exact hb)).trans h0⟩
theorem RowAt.more (h : RowAt w B A cs) (hC : B ≤ C) : RowAt w C A cs := fun j u hu => by
  obtain ⟨a, e, hb, h0⟩ := h j u hu
  exact ⟨a, e, by omega, h0⟩
theorem RowAt.src {n cap size : Nat} (h : RowAt w B A cs) (hn : cs.length = n * size) (hA : A = none → n = 0 ∧ cap = 0) : Src w size A n cap cs := by
  refine ⟨hn, hA, fun a ha j u hu => ?_⟩
  obtain ⟨a', ha', _, h0⟩ := h j u hu
  obtain rfl : a = a' := by rw [ha] at ha'; injection ha'
  exact h0
theorem RowAt.of_own {base size n n' cap : Nat} {e : TypeId} (h : w.ownsRow base e size (.slice A n cap) n' cs) : RowAt w w.heap.size A cs := by
  intro i d hd
  obtain ⟨hlen, h⟩ := h
  have hi := (List.getElem?_eq_some_iff.1 hd).1
  rcases h with ⟨_, h0⟩ | ⟨g, cap', cur, hv, hb, hg, hnc, hcm, hcs, htk⟩
  · subst h0; omega
  · injection hv with h1 h2 h3
    refine ⟨⟨g, 0, none⟩, h1, ?_, ?_⟩
    · rcases Nat.lt_or_ge g w.heap.size with hlt | hge
      · exact hlt
      · rw [Array.getElem?_eq_none hge] at hg; cases hg
    · have e1 : (⟨g, 0, none⟩ : Addr).add i = ⟨g, i, none⟩ := by unfold Addr.add; split <;> simp_all
      rw [e1, ← hd]
      simp only [World.cell?, hg]
      rw [← htk, List.getElem?_take_of_lt (by omega)]
      simp
theorem RowAt.of_blk {g : Nat} {e : TypeId} {cs : Array Value} (h : Blk w g e cs) : RowAt w w.heap.size (some ⟨g, 0, none⟩) cs.toList := fun j u hu => by
  refine ⟨_, rfl, h.lt, ?_⟩
  have e1 : (⟨g, 0, none⟩ : Addr).add j = ⟨g, j, none⟩ := by unfold Addr.add; split <;> simp_all
  rw [e1, h.cell j]
  simpa using hu
theorem RowAt.get {cs : List Value} (h : RowAt w B A cs) {j : Nat} {u : Value} (hu : cs[j]? = some u) : ∃ a, A = some a ∧ a.block < B ∧ w.cell? (a.add j) = some u := h j u hu
end

/-- A block of its own as a source. -/
theorem src_blk {w : World} {g n size : Nat} {e : TypeId} {cs : List Value} (hg : w.heap[g]? = some (.cells cs.toArray e (0, 0))) (hn : cs.length = n * size) : Src w size (some ⟨g, 0, none⟩) n n cs :=
  ⟨hn, (fun h => by cases h), fun a ha j u hu => by
    injection ha with ha; subst ha
    have e1 : (⟨g, 0, none⟩ : Addr).add j = ⟨g, j, none⟩ := by unfold Addr.add; split <;> simp_all
    rw [e1]; simpa [World.cell?, hg] using hu⟩

theorem wpList_appT {P : Program} {w : World} {ops : Array Oper} {rest : List Oper} {o : Oper} {a : Act} {Q : Exit → Act → World → Prop} {t e : TypeId} {z : Value} {size bytes : Nat}
    (ht : P.underlying t = some (.slice e)) (info : (P.info? e).map (fun i => (i.zero, i.size, i.bytes)) = some (some z, size, bytes)) (hzs : z.cells.size = size) (hsz : 0 < size)
    (hgd : o.guard = none) (s x : Operand) (ho : o.op = .call { callee := .builtin .append, args := #[s, x], argTypes := #[t, t] })
    (base : Nat) (v : Value) (n : Nat) (xs : List Value) (hs : a.eval s = v) (hown : w.ownsRow base e size v n xs)
    (A : Option Addr) (m c : Nat) (news : List Value) (hx : a.eval x = .slice A m c) (hsrc : Src w size A m c news) (h1 : ∀ u ∈ news, u.oneCell' = true)
    (h63 : n + m ≤ 1000000) (hbytes : (n + m) * bytes ≤ 140737488355328) (hbase : base ≤ w.heap.size)
    (h : ∀ v' w', w'.ownsRow base e size v' (n + m) (xs ++ news) → w.grownBy w' v.ownBlock → (v'.ownBlock = v.ownBlock ∨ v'.ownBlock = some w.heap.size) → wpList P ops Q rest (a.put o.dst v') w') :
    wpList P ops Q (o :: rest) a w := by
  obtain ⟨i0, hi, hz0, hz1, hz2⟩ := info_parts info
  exact wpList_app hgd s x t ho base e i0 z size bytes ht hi hz0 hz1 hz2 hzs hsz v n xs hs hown A m c news hx hsrc h1 (by unfold maxLen; omega) hbytes hbase h

theorem own_keep {w w' : World} {base : Nat} {e : TypeId} {size : Nat} {v : Value} {n : Nat} {xs : List Value} (h : w.ownsRow base e size v n xs) (k : ∀ g, base ≤ g → g < w.heap.size → w'.heap[g]? = w.heap[g]?) : w'.ownsRow base e size v n xs := by
  refine ⟨h.1, ?_⟩
  rcases h.2 with ⟨rfl, h0⟩ | ⟨g, cap', cur, hv, hb, hg, h2⟩
  · exact .inl ⟨rfl, h0⟩
  · refine .inr ⟨g, cap', cur, hv, hb, ?_, h2⟩
    have hlt : g < w.heap.size := by
      rcases Nat.lt_or_ge g w.heap.size with h' | h'
      · exact h'
      · rw [Array.getElem?_eq_none h'] at hg; cases hg
    rw [k g hb hlt]; exact hg
theorem own_below {w w' : World} {base : Nat} {e : TypeId} {size : Nat} {v : Value} {n : Nat} {xs : List Value} (h : w.ownsRow base e size v n xs) (k : Below w.heap.size w w') : w'.ownsRow base e size v n xs :=
  own_keep h fun g _ hg => k.block g hg
theorem own_far {w : World} {base : Nat} {e : TypeId} {size : Nat} {v : Value} {n : Nat} {xs : List Value} (h : w.ownsRow base e size v n xs) {p : Addr} (hp : p.block < base) (x : Value) : (w.setCell p x).ownsRow base e size v n xs :=
  own_keep h fun g hb _ => Below.heap_setCell w p x g (by omega)

/-! Numbers -/

def intRow (xs : List Int) : List Value := xs.map fun x => .int .i64 x
theorem intRow_length (xs : List Int) : (intRow xs).length = xs.length := by simp [intRow]
theorem intRow_append (xs ys : List Int) : intRow (xs ++ ys) = intRow xs ++ intRow ys := by simp [intRow]
theorem intRow_get {xs : List Int} {i : Nat} {x : Int} (h : xs[i]? = some x) : (intRow xs)[i]? = some (.int .i64 x) := by simp [intRow, h]
theorem intRow_one (xs : List Int) : ∀ u ∈ intRow xs, u.oneCell' = true := by
  intro u hu
  simp only [intRow, List.mem_map] at hu
  obtain ⟨x, _, rfl⟩ := hu
  rfl
theorem int_info : (Try.prog.info? 3).map (fun i => (i.zero, i.size, i.bytes)) = some (some (.int .i64 0), 1, 8) := by kernel_rfl

/-! Numbers as interface values; the first ones of them, and nil behind -/

def rowI (xs : List Int) : List Value := xs.map fun x => .iface 3 (.int .i64 x)
theorem rowI_get {xs : List Int} {i : Nat} {x : Int} (h : xs[i]? = some x) : (rowI xs)[i]? = some (.iface 3 (.int .i64 x)) := by simp [rowI, h]
theorem rowI_length (xs : List Int) : (rowI xs).length = xs.length := by simp [rowI]

set_option maxRecDepth 100000 in
/-- numbers converts them. -/
theorem numbers_walk (w : World) (g : Nat) (xs : List Int) (n : Nat) (hn : xs.length = n) (hn1 : n ≤ 100000) (hb : Blk w g 20 (rowI xs).toArray) :
    Calls Try.prog 80 #[.slice (some ⟨g, 0, none⟩) n n] w fun e w' => ∃ A cap, e = .returned (.slice A n cap) ∧ w'.ownsRow w.heap.size 3 1 (.slice A n cap) n (intRow xs) ∧ Below w.heap.size w w' := by
  have Hb := Lib.hid hb
  have hg := hb.lt
  clear hb
  go_enter Try.func80, Try.ntmps80
  go_wp2_with fail
  go_loopw [3, 9] (fun v i wr => ∃ (k : Nat) (A : Option Addr) (cap : Nat), k ≤ n ∧ i = .int .i64 k ∧ v = .slice A k cap ∧ wr.ownsRow w.heap.size 3 1 (.slice A k cap) k (intRow (xs.take k)) ∧ Below w.heap.size w wr) (fun _ i _ => n - (intOf i).toNat)
  case atStart => exact ⟨0, _, 0, Nat.zero_le _, rfl, rfl, own_empty (Blk.new _ _ _) (Nat.le_refl _), (Below.refl _ _).alloc (Nat.le_refl _) _⟩
  case round =>
    obtain ⟨k, A, cap, hk, rfl, rfl, hown, hw⟩ := hrel
    by_cases hlt : k < n
    · obtain ⟨x, hx⟩ : ∃ x, xs[k]? = some x := ⟨_, List.getElem?_eq_getElem (by omega)⟩
      have hc := ((Hb.out.below hw hg).cell k)
      have hx' : (rowI xs).toArray[k]? = some (.iface 3 (.int .i64 x)) := by simpa using rowI_get hx
      rw [hx'] at hc
      have OW := Lib.hid hown
      have W := Lib.hid hw
      have HX := Lib.hid hx
      have row := Lib.hid (fun k hk => (hown.lt k hk).1)
      clear hown hw hx hx'
      go_wp2_with (at_builtin; refine Hid.out ?_)
      delta Hid
      refine wpList_appT Try.underlying32 int_info rfl (by omega) rfl _ _ rfl w.heap.size (.slice A k cap) k (intRow (xs.take k)) rfl (OW.out.alloc _) (some ⟨wr.heap.size, 0, none⟩) 1 1 (intRow [x]) rfl (src_blk (Blk.new _ _ _) rfl) (intRow_one _) (by omega) (by omega) (by have := W.out.size; simp; omega) ?_
      intro v1 w1 own1 gr1 _
      have b1 := (W.out.alloc W.out.size (.cells #[.int .i64 x] 3)).grown gr1 (by have := W.out.size; simp; omega) (fun k hk => by have := row.out k hk; omega)
      rw [← intRow_append, show xs.take k ++ [x] = xs.take (k + 1) by rw [List.take_add_one, HX.out]; rfl] at own1
      obtain ⟨A1, cap1, rfl, _, _⟩ := own_slice own1
      have F := Lib.hid (show w1.ownsRow _ _ _ _ _ _ ∧ Below _ _ _ from ⟨own1, b1⟩)
      clear own1 b1 gr1 OW W row HX
      go_wp2_with fail
      go_roundw
      case rel => exact ⟨k + 1, A1, cap1, by omega, by go_num, rfl, F.out⟩
      case measure => simp [intOf]; omega
    · obtain rfl : k = n := by omega
      rw [List.take_of_length_le (by omega)] at hown
      have F := Lib.hid (show wr.ownsRow _ _ _ _ _ _ ∧ Below _ _ _ from ⟨hown, hw⟩)
      clear hown hw
      go_wp2_with fail
      go_ret
      exact ⟨A, cap, rfl, F.out⟩

end Go.Proofs.Ytpmikeeeocnfnaa
