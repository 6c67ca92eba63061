import Derived.Test.YtgakapigpiaoiaaBtBks
import Derived.Test.YtgakapigpiaoiaaBtSplitR
namespace Go.Proofs.Ytgakapigpiaoiaa.Bt
section
variable {σ : Store} {rt i n : Nat} {d : ND} {u : Int} {L : List BK} {m : Int}
theorem SubB.self (σ : Store) (i : Nat) (u : Int) : SubB (bks σ i 0 u) σ i 0 u := ⟨[], [], by simp, rfl⟩
theorem rowKvs_step (f : Nat → KV) (ks : List Nat) (es : List En) (j k : Nat) (hk : ks[j]? = some k) (hl : ks.length = es.length + 1) :
    rowKvs f (ks.drop j) (es.drop j) = f k ++ (match es[j]? with | some e => [e.kv] | none => []) ++ (if j + 1 < ks.length then rowKvs f (ks.drop (j + 1)) (es.drop (j + 1)) else []) := by
  have hj := (List.getElem?_eq_some_iff.1 hk).1
  have hk' := (List.getElem?_eq_some_iff.1 hk).2
  rw [List.drop_eq_getElem_cons hj, hk']
  rcases Nat.lt_or_ge j es.length with hlt | hge
  · rw [List.drop_eq_getElem_cons hlt, List.getElem?_eq_getElem hlt, if_pos (by omega)]
    simp [rowKvs]
  · rw [List.drop_eq_nil_of_le hge, List.getElem?_eq_none hge, if_neg (by omega)]
    simp [rowKvs]
end
end Go.Proofs.Ytgakapigpiaoiaa.Bt
