/-
  The reference's Plain and OrderOk.
-/
import Derived.Test.YtpmikeeeocnfnaaArgs
import Derived.Test.YtpmikeeeocnfnaaLook
namespace Go.Proofs.Ytpmikeeeocnfnaa
open Go.RowKit

theorem plain_yes (o : Ord) (h : o.plain) (w : World) : Calls Try.prog 30 #[.agg #[.int .i64 o.kind, .int .i64 o.m]] w fun e w' => e = .returned (.bool true) ∧ w.alloc (.cells #[.int .i64 o.kind, .int .i64 o.m] 23) = w' := by
  obtain ⟨k, m⟩ := o
  rcases h with h | h
  · simp only at h; subst h
    go_enter Try.func30, Try.ntmps30
    go_wp2_with fail
    go_ret
    exact ⟨rfl, rfl⟩
  · simp only at h; subst h
    go_enter Try.func30, Try.ntmps30
    go_wp2_with fail
    go_ret
    exact ⟨rfl, rfl⟩
theorem plain_no (o : Ord) (h : ¬ o.plain) (w : World) : Calls Try.prog 30 #[.agg #[.int .i64 o.kind, .int .i64 o.m]] w fun e w' => e = .returned (.bool false) ∧ w.alloc (.cells #[.int .i64 o.kind, .int .i64 o.m] 23) = w' := by
  obtain ⟨k, m⟩ := o
  have h0 : (k == 0) = false := by simp only [Ord.plain, not_or] at h; simpa using h.1
  have h1 : (k == 1) = false := by simp only [Ord.plain, not_or] at h; simpa using h.2
  clear h
  go_enter Try.func30, Try.ntmps30
  go_wp2_with fail
  go_ret
  exact ⟨rfl, rfl⟩

/-! append onto a list of acts of the call's own -/

theorem act_info : (Try.prog.info? 27).map (fun i => (i.zero, i.size, i.bytes)) = some (some (.agg #[.int .i64 0, .int .i64 0, .int .i64 0]), 3, 24) := by kernel_rfl

theorem wpList_app_act {w : World} {ops : Array Oper} {rest : List Oper} {o : Oper} {a : Act} {Q : Exit → Act → World → Prop} (hgd : o.guard = none) (s x : Operand)
    (ho : o.op = .call { callee := .builtin .append, args := #[s, x], argTypes := #[24, 24] })
    (base : Nat) (v : Value) (acts1 : List Do) (hs : a.eval s = v) (hown : w.ownsRow base 27 3 v acts1.length (actCells acts1))
    (A : Option Addr) (m c : Nat) (acts2 : List Do) (hx : a.eval x = .slice A m c) (hsrc : Src w 3 A m c (actCells acts2)) (hm : acts2.length = m) (hlen : acts1.length + acts2.length ≤ 1000000) (hbase : base ≤ w.heap.size)
    (h : ∀ v' w', w'.ownsRow base 27 3 v' (acts1 ++ acts2).length (actCells (acts1 ++ acts2)) → w.grownBy w' v.ownBlock → (v'.ownBlock = v.ownBlock ∨ v'.ownBlock = some w.heap.size) → wpList Try.prog ops Q rest (a.put o.dst v') w') :
    wpList Try.prog ops Q (o :: rest) a w := by
  obtain ⟨i0, hi, hz0, hz1, hz2⟩ := info_parts act_info
  subst hm
  refine wpList_app hgd s x _ ho base 27 i0 _ 3 24 Try.underlying24 hi hz0 hz1 hz2 rfl (by omega) v _ _ hs hown A _ c _ hx hsrc (actCells_one _) (by unfold maxLen; omega) (by omega) hbase ?_
  intro v' w' h1 h2 h3
  refine h v' w' ?_ h2 h3
  rw [List.length_append, actCells_append]; exact h1

/-- A slice of acts of the call's own, as a value. -/
theorem own_slice {w : World} {base : Nat} {e : TypeId} {size : Nat} {v : Value} {n : Nat} {xs : List Value} (h : w.ownsRow base e size v n xs) : ∃ A cap, v = .slice A n cap ∧ (A = none → n = 0 ∧ cap = 0) ∧ (∀ a, A = some a → a.spot = none ∧ a.off = 0) := by
  rcases h.2 with ⟨rfl, rfl⟩ | ⟨g, cap, _, rfl, _⟩
  · exact ⟨none, 0, rfl, fun _ => ⟨rfl, rfl⟩, (fun a h => by cases h)⟩
  · exact ⟨_, cap, rfl, (fun h => by cases h), (fun a h => by injection h with h; subst h; exact ⟨rfl, rfl⟩)⟩
/-- An empty slice of the call's own. -/
theorem own_empty {w : World} {base g : Nat} {e : TypeId} {size : Nat} (hg : w.heap[g]? = some (.cells #[] e (0, 0))) (hb : base ≤ g) : w.ownsRow base e size (.slice (some ⟨g, 0, none⟩) 0 0) 0 [] :=
  ⟨by simp, .inr ⟨g, 0, #[], rfl, hb, hg, Nat.le_refl _, by unfold maxLen; omega, by simp, by simp⟩⟩
/-- One act in a block of its own. -/
theorem src_block {w : World} {g : Nat} {e : TypeId} {acts : List Do} (hg : w.heap[g]? = some (.cells (actCells acts).toArray e (0, 0))) : Src w 3 (some ⟨g, 0, none⟩) acts.length acts.length (actCells acts) :=
  ⟨by rw [actCells_length], (fun h => by cases h), fun a ha j u hu => by
    injection ha with ha; subst ha
    have e1 : (⟨g, 0, none⟩ : Addr).add j = ⟨g, j, none⟩ := by unfold Addr.add; split <;> simp_all
    rw [e1]; simpa [World.cell?, hg] using hu⟩
theorem grown_keep {w w' : World} {g : Nat} {row : Option Nat} {x : Obj} (h : w.grownBy w' row) (hg : w.heap[g]? = some x) (hne : row ≠ some g) : w'.heap[g]? = some x := by
  have hlt : g < w.heap.size := by
    rcases Nat.lt_or_ge g w.heap.size with h' | h'
    · exact h'
    · simp [Array.getElem?_eq_none h'] at hg
  rw [h.block g hlt (fun e => hne e.symm), hg]

end Go.Proofs.Ytpmikeeeocnfnaa
