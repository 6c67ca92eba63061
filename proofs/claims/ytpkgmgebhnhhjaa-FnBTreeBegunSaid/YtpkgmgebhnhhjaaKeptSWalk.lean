/-
  The reference's Walk and SameSeen, in the form that laws use.
-/
import Derived.Test.YtpkgmgebhnhhjaaSpecWalk
import Derived.Test.YtpkgmgebhnhhjaaSpecMoves
import Derived.Test.YtpkgmgebhnhhjaaSeenSame
import Derived.Test.YtpkgmgebhnhhjaaKept
namespace Go.Proofs.Ytpkgmgebhnhhjaa
open Go.RowKit
theorem move_info : (Try.prog.info? 65).map (fun i => (i.zero, i.size, i.bytes)) = some (some (.agg #[.int .i64 0, .int .i64 0, .int .i64 0]), 3, 24) := by kernel_rfl
theorem RowAt.some_of {w : World} {B : Nat} {A : Option Addr} {cs : List Value} (h : RowAt w B A cs) (hn : 0 < cs.length) : ∃ a, A = some a := by
  obtain ⟨a, ha, _⟩ := h 0 cs[0] (List.getElem?_eq_getElem hn)
  exact ⟨a, ha⟩
theorem addr_add_add (a : Addr) (i j : Nat) : (a.add i).add j = a.add (i + j) := by
  unfold Addr.add
  by_cases hj : j = 0
  · simp [hj]
  · by_cases hi : i = 0
    · simp [hi, hj]
    · simp [hi, hj, Nat.add_assoc]
theorem RowAt.tail {w : World} {B : Nat} {a : Addr} {cs ds : List Value} {k : Nat} (h : RowAt w B (some a) (cs ++ ds)) (hk : cs.length = k) : RowAt w B (some (a.add k)) ds := by
  intro j u hu
  subst hk
  obtain ⟨a', ha', hb, hc⟩ := h (cs.length + j) u (by simpa [List.getElem?_append_right] using hu)
  injection ha' with ha'
  subst ha'
  exact ⟨_, rfl, by rw [block_of_add]; exact hb, by rw [addr_add_add]; exact hc⟩
section
variable {w0 w w' : World} {g B C : Nat} {o : Ord} {rows : List (Option Addr × List Value)} {sts : List (Value × KV)}
theorem keptSWalk (h : Kept w0 g o rows sts B w) (A : Option Addr) (l : KV) (n cap : Nat) (hn : l.length = n) (hn1 : n ≤ 100000) (hmm : (A, prCells l) ∈ rows) (Am : Option Addr) (moves : List Do) (nm capm : Nat) (hm : moves.length = nm) (hm1 : nm ≤ 1000) (hmr : (Am, actCells moves) ∈ rows)
    (hok : ∀ m ∈ moves, (m.op = 7 ∨ m.op = 8) → 1 ≤ m.key ∧ m.key ≤ 1000) :
    Calls Try.prog 43 #[.slice A n cap, .int .i64 (-1), .slice Am nm capm] w fun e w' =>
      ∃ A' cap', e = .returned (.slice A' nm cap') ∧ Kept w0 g o ((A', seenCells (walkFrom l 0 moves)) :: rows) sts w'.heap.size w' := by
  refine (swalk_walk l n cap A hn hn1 0 (Nat.zero_le _) (-1) (by simp) nm capm Am moves hm hm1 w ((h.rows _ hmm).more h.le) ((h.rows _ hmr).acts.more h.le) hok).mono ?_
  rintro e w' ⟨A', cap', rfl, own, b⟩
  exact ⟨A', cap', rfl, (h.on b).row (RowAt.of_own own)⟩
theorem keptSameSeen (h : Kept w0 g o rows sts B w) (xs : List (Option (Int × Int))) (n c1 c2 : Nat) (A1 A2 : Option Addr) (hn : xs.length = n) (hn1 : n ≤ 100000) (h1 : (A1, seenCells xs) ∈ rows) (h2 : (A2, seenCells xs) ∈ rows) :
    Calls Try.prog 30 #[.slice A1 n c1, .slice A2 n c2] w fun e w' => e = .returned (.bool true) ∧ Kept w0 g o rows sts B w' := by
  refine (sameSeen_yes xs w n c1 c2 A1 A2 _ _ hn hn1 (h.rows _ h1) (h.rows _ h2)).mono ?_
  rintro e w' ⟨rfl, m, rfl⟩
  exact ⟨rfl, h.drewN m⟩
end
end Go.Proofs.Ytpkgmgebhnhhjaa
