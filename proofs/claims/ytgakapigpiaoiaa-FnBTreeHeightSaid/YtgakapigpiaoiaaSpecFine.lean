import Derived.Test.YtgakapigpiaoiaaRows0
namespace Go.Proofs.Ytgakapigpiaoiaa
open Go.RowKit
theorem fine_yes (o : Ord) (h : o.fine) (w : World) : Calls Try.prog 7 #[.agg #[.int .i64 o.kind, .int .i64 o.m]] w fun e w' => e = .returned (.bool true) ∧ w.alloc (.cells #[.int .i64 o.kind, .int .i64 o.m] 23) = w' := by
  obtain ⟨k, m⟩ := o
  rcases h with h | h | ⟨h, h1, h2⟩
  · simp only at h; subst h
    go_enter Try.func7, Try.ntmps7
    go_wp2_with fail
    go_ret
    exact ⟨rfl, rfl⟩
  · simp only at h; subst h
    go_enter Try.func7, Try.ntmps7
    go_wp2_with fail
    go_ret
    exact ⟨rfl, rfl⟩
  · simp only at h h1 h2; subst h
    have d1 : decide ((1 : Int) ≤ m) = true := decide_eq_true h1
    have d2 : decide (m ≤ (1000 : Int)) = true := decide_eq_true h2
    go_enter Try.func7, Try.ntmps7
    go_wp2_with fail
    go_ret
    exact ⟨rfl, rfl⟩
theorem fine_no (o : Ord) (h : ¬ o.fine) (w : World) : Calls Try.prog 7 #[.agg #[.int .i64 o.kind, .int .i64 o.m]] w fun e w' => e = .returned (.bool false) ∧ w.alloc (.cells #[.int .i64 o.kind, .int .i64 o.m] 23) = w' := by
  obtain ⟨k, m⟩ := o
  simp only [Ord.fine, not_or, not_and] at h
  obtain ⟨n0, n1, n2⟩ := h
  have h0 : (k == 0) = false := by simpa using n0
  have h1 : (k == 1) = false := by simpa using n1
  by_cases hk : k = 2
  · subst hk
    by_cases hm : (1 : Int) ≤ m
    · have d1 : decide ((1 : Int) ≤ m) = true := decide_eq_true hm
      have d2 : decide (m ≤ (1000 : Int)) = false := decide_eq_false (fun e => n2 rfl hm e)
      clear n0 n1 n2 hm h0 h1
      go_enter Try.func7, Try.ntmps7
      go_wp2_with fail
      go_ret
      exact ⟨rfl, rfl⟩
    · have d1 : decide ((1 : Int) ≤ m) = false := decide_eq_false hm
      clear n0 n1 n2 hm h0 h1
      go_enter Try.func7, Try.ntmps7
      go_wp2_with fail
      go_ret
      exact ⟨rfl, rfl⟩
  · have h2 : (k == 2) = false := by simpa using hk
    clear n0 n1 n2 hk
    go_enter Try.func7, Try.ntmps7
    go_wp2_with fail
    go_ret
    exact ⟨rfl, rfl⟩
end Go.Proofs.Ytgakapigpiaoiaa
