import Derived.WalkKit
import Derived.WalkMore
import Derived.ScopeJumps
namespace Go.Proofs.Ytgakapigpiaoiaa
open Go.RowKit
theorem wp_scope_once {P : Program} {c rest : Code} {Q : Exit → Act → World → Prop} {a : Act} {w : World} (l : Nat) (hf : findLabel c l = some rest)
    (first : c.wp P (Exit.jump l (fun a w => rest.wp P (Exit.noGoto Q) a w) Q) a w) : (Code.scope c).wp P Q a w :=
  wp_scope_jumps l (fun a w => rest.wp P (Exit.noGoto Q) a w) (fun _ _ => 0) hf first fun a w h => wp_mono h fun e a w hq => by
    cases e with
    | goto l' => exact hq.elim
    | normal => exact hq
    | exit id => exact hq
    | ret => exact hq
    | panic ch => exact hq
    | outgrown => exact hq
section
variable {P : Program} {J Q : Exit → Act → World → Prop} {K : Act → World → Prop} {a : Act} {w : World} {l : Nat}
@[go_sem] theorem jump_normal : Exit.jump l K Q .normal a w = Q .normal a w := rfl
@[go_sem] theorem jump_exit (id : Nat) : Exit.jump l K Q (.exit id) a w = Q (.exit id) a w := rfl
@[go_sem] theorem jump_ret : Exit.jump l K Q .ret a w = Q .ret a w := rfl
@[go_sem] theorem jump_panic (ch : List PanicEntry) : Exit.jump l K Q (.panic ch) a w = Q (.panic ch) a w := rfl
theorem jump_goto (h : K a w) : Exit.jump l K Q (.goto l) a w := ⟨rfl, h⟩
end
end Go.Proofs.Ytgakapigpiaoiaa
