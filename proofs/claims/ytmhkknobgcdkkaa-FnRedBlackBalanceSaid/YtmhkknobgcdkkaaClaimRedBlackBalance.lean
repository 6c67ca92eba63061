/- For every order and every list of acts: its height is at most twice the logarithm of one more than there are nodes. No condition. -/
import Derived.Test.YtmhkknobgcdkkaaLawRbRedBlackBalance
import Derived.Test.YtmhkknobgcdkkaaClosed
import Derived.WalkKit
import Derived.ProofKit
import Derived.OpenShut
import Derived.Below
namespace Go.Proofs.Ytmhkknobgcdkkaa
open Go.ChangeShapes Go.WideShapes Go.ChangeAt Go.RowKit Go.Joins

namespace fnRedBlackBalance
theorem own : ownKnob Try.prog.godebug = none := by kernel_rfl
theorem laidOut : laidOutB Try.prog = true := by kernel_rfl

set_option maxRecDepth 100000 in
theorem lifted (os : Os) (started : os.Started) (H : Type) (enc : TypeId × Value → H) :
    ReturnsInHanded {} Try.checked os 5 .any (Rows.fnRedBlackBalanceSpec.pre6 enc Try.prog Try.f5 Rows.fnRedBlackBalanceRow.domain false) (Rows.fnRedBlackBalanceSpec.post enc Try.prog Try.f5 false true false false) := by
  refine returnsInHanded_of_change (C := Try.checked) own started (by kernel_rfl) Try.func5
    (ChangeSpec.witness6 (enc := enc) (C := Try.checked) false ⟨#[], #[.agg #[.int .i64 0, .int .i64 0], .slice none 0 0], []⟩ 8 (by kernel_rfl) (by kernel_rfl) (by kernel_rfl) (by kernel_rfl)) ?_
  intro W base args ds gs before hval0 hW hcnd _
  have hval : ∀ (j : Nat) t v, Try.f5.params[j]? = some t → args[j]? = some v → Value.okWide Try.prog W .any base t v := hval0
  have hW' := hW
  obtain ⟨p, q, hA0, hV, rfl, hfz, hnd⟩ := hW
  have hA : DataW.TrodAll enc Try.prog W 0 (fun _ => true) true Try.f5.params.toList args.toList ds p := hA0
  rw [Try.params5] at hA hval
  obtain ⟨v0, vs0, d0, ds0, p0, q0, hargs, rfl, rfl, h0, r0⟩ := trodAll_cons hA
  obtain ⟨v1, vs1, d1, ds1, p1, q1, rfl, rfl, rfl, h1, r1⟩ := trodAll_cons r0
  obtain ⟨rfl, rfl, rfl⟩ := trodAll_nil r1
  obtain rfl : args = #[v0, v1] := by cases args; simp_all
  obtain ⟨rfl, rfl⟩ := trodVars_none hV
  have k0 := h0
  have lt0 : ∀ x ∈ p0, x.block < W.heap.size := by obtain ⟨m, hm⟩ := k0; exact DataW.trod_lt m _ _ _ hm
  have k1 := h1
  have lt1 : ∀ x ∈ p1, x.block < W.heap.size := by obtain ⟨m, hm⟩ := k1; exact DataW.trod_lt m _ _ _ hm
  obtain ⟨c0, e0, y0, z0, m0, rfl, _, _, hy0, hz0⟩ := open_agg2 Try.underlying23 (by kernel_rfl) (by kernel_rfl) (hval 0 23 v0 rfl rfl) h0
  obtain ⟨x0, ex0, _, _⟩ := DataW.trod_int Try.underlying3 hy0
  obtain ⟨u0, eu0, _, _⟩ := DataW.trod_int Try.underlying3 hz0
  simp only [List.cons.injEq, and_true] at ex0 eu0
  subst ex0 eu0
  obtain ⟨A1, n1, cap1, rfl⟩ := okWide_slice Try.underlying24 (hval 1 24 v1 rfl rfl)
  obtain ⟨acts1, hn1, hZ1, ha1⟩ := open_acts Try.underlying24 Try.underlying59 (by kernel_rfl) (by kernel_rfl) rfl (by
    intro i f hf
    match i, hf with
    | 0, hf => simp at hf; subst hf; exact Try.underlying3
    | 1, hf => simp at hf; subst hf; exact Try.underlying3
    | 2, hf => simp at hf; subst hf; exact Try.underlying3
    | i + 3, hf => simp at hf) h1
  subst hn1
  clear hA0 hval0
  refine (Rb.lawRedBlackBalance_walk ⟨x0, u0⟩ cap1 A1 acts1 W hZ1 ha1).mono fun e W' ⟨he, bel⟩ => ?_
  subst he
  exact ⟨_, rfl, _, _, _, [], _, [], hW', trodAll_mk1 (shut_bool Try.underlying4 _), (trodAll_cons_mk (Below.trod laidOut (by kernel_rfl) (of_decide_eq_true (by kernel_rfl)) k0 bel lt0) (trodAll_cons_mk (Below.trod laidOut (by kernel_rfl) (of_decide_eq_true (by kernel_rfl)) k1 bel lt1) trodAll_mk0)), rfl, bel.frame _, fun h => by cases h⟩

theorem facts : joinedFacts Try.checked.prog 5 Try.f5 Rows.fnRedBlackBalanceSpec Rows.fnRedBlackBalanceRow = true := by
  have hl : (Rows.fnRedBlackBalanceRow.lifted == Try.checked.prog.liftsFinal) = true := by rw [closed_lifts]; rfl
  have hm : (Try.checked.prog.make == some Rows.fnRedBlackBalanceRow.make) = true := by rw [closed_make]; rfl
  unfold joinedFacts
  repeat' (with_reducible refine Bool.and_eq_true_iff.mpr ⟨?_, ?_⟩)
  all_goals first
    | (with_reducible exact closed_mayEnter)
    | (with_reducible exact hl)
    | (with_reducible exact hm)
    | (as_aux_lemma => kernel_rfl)
theorem proved : Rows.FnRedBlackBalanceSaid :=
  OpenClaim.holds_of_wide 5 Try.f5 rfl rfl rfl rfl rfl rfl rfl ⟨rfl, rfl, rfl, rfl, rfl⟩ rfl rfl rfl rfl rfl (by as_aux_lemma => kernel_rfl) Try.func5 facts
    (of_decide_eq_true (by as_aux_lemma => kernel_rfl)) (by as_aux_lemma => unfold Func.isWrapper; first | (rw [if_pos (by decide +kernel)]; kernel_rfl) | (rw [if_neg (by decide +kernel)]; exact ⟨rfl, rfl⟩))
    (fun os started H enc _ => lifted os started H enc)
end fnRedBlackBalance
end Go.Proofs.Ytmhkknobgcdkkaa
