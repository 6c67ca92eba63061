/- For every order of 3 to 64 children, every order of keys and every list of acts: its height is what the counter of its nodes tells. No condition. -/
import Derived.Test.YtgakapigpiaoiaaLawBtBTreeHeight
import Derived.Test.YtgakapigpiaoiaaClosed
import Derived.WalkKit
import Derived.ProofKit
import Derived.OpenShut
import Derived.Below
namespace Go.Proofs.Ytgakapigpiaoiaa
open Go.ChangeShapes Go.WideShapes Go.ChangeAt Go.RowKit Go.Joins

namespace fnBTreeHeight
theorem own : ownKnob Try.prog.godebug = none := by kernel_rfl
theorem laidOut : laidOutB Try.prog = true := by kernel_rfl

set_option maxRecDepth 100000 in
theorem lifted (os : Os) (started : os.Started) (H : Type) (enc : TypeId × Value → H) :
    ReturnsInHanded {} Try.checked os 6 .any (Rows.fnBTreeHeightSpec.pre6 enc Try.prog Try.f6 Rows.fnBTreeHeightRow.domain false) (Rows.fnBTreeHeightSpec.post enc Try.prog Try.f6 false true false false) := by
  refine returnsInHanded_of_change (C := Try.checked) own started (by kernel_rfl) Try.func6
    (ChangeSpec.witness6 (enc := enc) (C := Try.checked) false ⟨#[], #[.int .i64 0, .agg #[.int .i64 0, .int .i64 0], .slice none 0 0], []⟩ 8 (by kernel_rfl) (by kernel_rfl) (by kernel_rfl) (by kernel_rfl)) ?_
  intro W base args ds gs before hval0 hW hcnd _
  have hval : ∀ (j : Nat) t v, Try.f6.params[j]? = some t → args[j]? = some v → Value.okWide Try.prog W .any base t v := hval0
  have hW' := hW
  obtain ⟨p, q, hA0, hV, rfl, hfz, hnd⟩ := hW
  have hA : DataW.TrodAll enc Try.prog W 0 (fun _ => true) true Try.f6.params.toList args.toList ds p := hA0
  rw [Try.params6] at hA hval
  obtain ⟨v0, vs0, d0, ds0, p0, q0, hargs, rfl, rfl, h0, r0⟩ := trodAll_cons hA
  obtain ⟨v1, vs1, d1, ds1, p1, q1, rfl, rfl, rfl, h1, r1⟩ := trodAll_cons r0
  obtain ⟨v2, vs2, d2, ds2, p2, q2, rfl, rfl, rfl, h2, r2⟩ := trodAll_cons r1
  obtain ⟨rfl, rfl, rfl⟩ := trodAll_nil r2
  obtain rfl : args = #[v0, v1, v2] := by cases args; simp_all
  obtain ⟨rfl, rfl⟩ := trodVars_none hV
  have k0 := h0
  have lt0 : ∀ x ∈ p0, x.block < W.heap.size := by obtain ⟨m, hm⟩ := k0; exact DataW.trod_lt m _ _ _ hm
  have k1 := h1
  have lt1 : ∀ x ∈ p1, x.block < W.heap.size := by obtain ⟨m, hm⟩ := k1; exact DataW.trod_lt m _ _ _ hm
  have k2 := h2
  have lt2 : ∀ x ∈ p2, x.block < W.heap.size := by obtain ⟨m, hm⟩ := k2; exact DataW.trod_lt m _ _ _ hm
  obtain ⟨x0, rfl, _, _, _⟩ := open_int Try.underlying3 (hval 0 3 v0 rfl rfl) h0
  obtain ⟨c1, e1, y1, z1, m1, rfl, _, _, hy1, hz1⟩ := open_agg2 Try.underlying23 (by kernel_rfl) (by kernel_rfl) (hval 1 23 v1 rfl rfl) h1
  obtain ⟨x1, ex1, _, _⟩ := DataW.trod_int Try.underlying3 hy1
  obtain ⟨u1, eu1, _, _⟩ := DataW.trod_int Try.underlying3 hz1
  simp only [List.cons.injEq, and_true] at ex1 eu1
  subst ex1 eu1
  obtain ⟨A2, n2, cap2, rfl⟩ := okWide_slice Try.underlying24 (hval 2 24 v2 rfl rfl)
  obtain ⟨acts2, hn2, hZ2, ha2⟩ := open_acts Try.underlying24 Try.underlying55 (by kernel_rfl) (by kernel_rfl) rfl (by
    intro i f hf
    match i, hf with
    | 0, hf => simp at hf; subst hf; exact Try.underlying3
    | 1, hf => simp at hf; subst hf; exact Try.underlying3
    | 2, hf => simp at hf; subst hf; exact Try.underlying3
    | i + 3, hf => simp at hf) h2
  subst hn2
  clear hA0 hval0
  refine (Bt.lawBTreeHeight_walk x0 ⟨x1, u1⟩ cap2 A2 acts2 W hZ2 ha2).mono fun e W' ⟨he, bel⟩ => ?_
  subst he
  exact ⟨_, rfl, _, _, _, [], _, [], hW', trodAll_mk1 (shut_bool Try.underlying4 _), (trodAll_cons_mk (Below.trod laidOut (by kernel_rfl) (of_decide_eq_true (by kernel_rfl)) k0 bel lt0) (trodAll_cons_mk (Below.trod laidOut (by kernel_rfl) (of_decide_eq_true (by kernel_rfl)) k1 bel lt1) (trodAll_cons_mk (Below.trod laidOut (by kernel_rfl) (of_decide_eq_true (by kernel_rfl)) k2 bel lt2) trodAll_mk0))), rfl, bel.frame _, fun h => by cases h⟩

theorem facts : joinedFacts Try.checked.prog 6 Try.f6 Rows.fnBTreeHeightSpec Rows.fnBTreeHeightRow = true := by
  have hl : (Rows.fnBTreeHeightRow.lifted == Try.checked.prog.liftsFinal) = true := by rw [closed_lifts]; rfl
  have hm : (Try.checked.prog.make == some Rows.fnBTreeHeightRow.make) = true := by rw [closed_make]; rfl
  unfold joinedFacts
  repeat' (with_reducible refine Bool.and_eq_true_iff.mpr ⟨?_, ?_⟩)
  all_goals first
    | (with_reducible exact closed_mayEnter)
    | (with_reducible exact hl)
    | (with_reducible exact hm)
    | (as_aux_lemma => kernel_rfl)
theorem proved : Rows.FnBTreeHeightSaid :=
  OpenClaim.holds_of_wide 6 Try.f6 rfl rfl rfl rfl rfl rfl rfl ⟨rfl, rfl, rfl, rfl, rfl⟩ rfl rfl rfl rfl rfl (by as_aux_lemma => kernel_rfl) Try.func6 facts
    (of_decide_eq_true (by as_aux_lemma => kernel_rfl)) (by as_aux_lemma => unfold Func.isWrapper; first | (rw [if_pos (by decide +kernel)]; kernel_rfl) | (rw [if_neg (by decide +kernel)]; exact ⟨rfl, rfl⟩))
    (fun os started H enc _ => lifted os started H enc)
end fnBTreeHeight
end Go.Proofs.Ytgakapigpiaoiaa
