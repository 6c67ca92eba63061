/- For every list of acts: downwards it is what it is upwards, from the other end. No condition. -/
import Derived.Test.YtmgjpppplapgpaaLawRbRedBlackTurned
import Derived.Test.YtmgjpppplapgpaaClosed
import Derived.WalkKit
import Derived.ProofKit
import Derived.OpenShut
import Derived.Below
namespace Go.Proofs.Ytmgjpppplapgpaa
open Go.ChangeShapes Go.WideShapes Go.ChangeAt Go.RowKit Go.Joins

namespace fnRedBlackTurned
theorem own : ownKnob Try.prog.godebug = none := by kernel_rfl
theorem laidOut : laidOutB Try.prog = true := by kernel_rfl

set_option maxRecDepth 100000 in
theorem lifted (os : Os) (started : os.Started) (H : Type) (enc : TypeId × Value → H) :
    ReturnsInHanded {} Try.checked os 9 .any (Rows.fnRedBlackTurnedSpec.pre6 enc Try.prog Try.f9 Rows.fnRedBlackTurnedRow.domain false) (Rows.fnRedBlackTurnedSpec.post enc Try.prog Try.f9 false true false false) := by
  refine returnsInHanded_of_change (C := Try.checked) own started (by kernel_rfl) Try.func9
    (ChangeSpec.witness6 (enc := enc) (C := Try.checked) false ⟨#[], #[.slice none 0 0], []⟩ 8 (by kernel_rfl) (by kernel_rfl) (by kernel_rfl) (by kernel_rfl)) ?_
  intro W base args ds gs before hval0 hW hcnd _
  have hval : ∀ (j : Nat) t v, Try.f9.params[j]? = some t → args[j]? = some v → Value.okWide Try.prog W .any base t v := hval0
  have hW' := hW
  obtain ⟨p, q, hA0, hV, rfl, hfz, hnd⟩ := hW
  have hA : DataW.TrodAll enc Try.prog W 0 (fun _ => true) true Try.f9.params.toList args.toList ds p := hA0
  rw [Try.params9] at hA hval
  obtain ⟨v0, vs0, d0, ds0, p0, q0, hargs, rfl, rfl, h0, r0⟩ := trodAll_cons hA
  obtain ⟨rfl, rfl, rfl⟩ := trodAll_nil r0
  obtain rfl : args = #[v0] := by cases args; simp_all
  obtain ⟨rfl, rfl⟩ := trodVars_none hV
  have k0 := h0
  have lt0 : ∀ x ∈ p0, x.block < W.heap.size := by obtain ⟨m, hm⟩ := k0; exact DataW.trod_lt m _ _ _ hm
  obtain ⟨A0, n0, cap0, rfl⟩ := okWide_slice Try.underlying24 (hval 0 24 v0 rfl rfl)
  obtain ⟨acts0, hn0, hZ0, ha0⟩ := open_acts Try.underlying24 Try.underlying27 (by kernel_rfl) (by kernel_rfl) rfl (by
    intro i f hf
    match i, hf with
    | 0, hf => simp at hf; subst hf; exact Try.underlying3
    | 1, hf => simp at hf; subst hf; exact Try.underlying3
    | 2, hf => simp at hf; subst hf; exact Try.underlying3
    | i + 3, hf => simp at hf) h0
  subst hn0
  clear hA0 hval0
  refine (Rb.lawRedBlackTurned_walk cap0 A0 acts0 W hZ0 ha0).mono fun e W' ⟨he, bel⟩ => ?_
  subst he
  exact ⟨_, rfl, _, _, _, [], _, [], hW', trodAll_mk1 (shut_bool Try.underlying4 _), (trodAll_cons_mk (Below.trod laidOut (by kernel_rfl) (of_decide_eq_true (by kernel_rfl)) k0 bel lt0) trodAll_mk0), rfl, bel.frame _, fun h => by cases h⟩

theorem facts : joinedFacts Try.checked.prog 9 Try.f9 Rows.fnRedBlackTurnedSpec Rows.fnRedBlackTurnedRow = true := by
  have hl : (Rows.fnRedBlackTurnedRow.lifted == Try.checked.prog.liftsFinal) = true := by rw [closed_lifts]; rfl
  have hm : (Try.checked.prog.make == some Rows.fnRedBlackTurnedRow.make) = true := by rw [closed_make]; rfl
  unfold joinedFacts
  repeat' (with_reducible refine Bool.and_eq_true_iff.mpr ⟨?_, ?_⟩)
  all_goals first
    | (with_reducible exact closed_mayEnter)
    | (with_reducible exact hl)
    | (with_reducible exact hm)
    | (as_aux_lemma => kernel_rfl)
theorem proved : Rows.FnRedBlackTurnedSaid :=
  OpenClaim.holds_of_wide 9 Try.f9 rfl rfl rfl rfl rfl rfl rfl ⟨rfl, rfl, rfl, rfl, rfl⟩ rfl rfl rfl rfl rfl (by as_aux_lemma => kernel_rfl) Try.func9 facts
    (of_decide_eq_true (by as_aux_lemma => kernel_rfl)) (by as_aux_lemma => unfold Func.isWrapper; first | (rw [if_pos (by decide +kernel)]; kernel_rfl) | (rw [if_neg (by decide +kernel)]; exact ⟨rfl, rfl⟩))
    (fun os started H enc _ => lifted os started H enc)
end fnRedBlackTurned
end Go.Proofs.Ytmgjpppplapgpaa
