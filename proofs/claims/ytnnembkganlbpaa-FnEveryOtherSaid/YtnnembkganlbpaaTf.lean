/- What a visitor is fed: it takes items until it has enough. Plain lists. -/
import Derived.Test.YtnnembkganlbpaaTe
namespace Go.Bt
/-- what is seen behind a list, and whether the visitor would go on -/
def feed (most : Int) : List It → List It → List It × Bool
  | acc, [] => (acc, true)
  | acc, x :: l => if ((acc ++ [x]).length : Int) < most then feed most (acc ++ [x]) l else (acc ++ [x], false)
theorem feed_nil (most : Int) (acc : List It) : feed most acc [] = (acc, true) := rfl
theorem feed_cons (most : Int) (acc : List It) (x : It) (l : List It) : feed most acc (x :: l) = if ((acc ++ [x]).length : Int) < most then feed most (acc ++ [x]) l else (acc ++ [x], false) := rfl
theorem feed_append (most : Int) (a b : List It) : ∀ acc, feed most acc (a ++ b) = if (feed most acc a).2 = true then feed most (feed most acc a).1 b else feed most acc a := by
  induction a with
  | nil => intro acc; rfl
  | cons x a ih =>
    intro acc
    rw [List.cons_append, feed_cons, feed_cons]
    split
    · exact ih _
    · rfl
theorem feed_len (most : Int) (l : List It) : ∀ acc, (feed most acc l).1.length ≤ acc.length + l.length := by
  induction l with
  | nil => intro acc; exact Nat.le_refl _
  | cons x l ih =>
    intro acc
    rw [feed_cons]
    split
    · have := ih (acc ++ [x]); simp at this ⊢; omega
    · simp
theorem feed_take (most : Int) (l : List It) : ∀ acc, (acc.length : Int) < most ∨ acc = [] → (feed most acc l).1 = acc ++ l.take ((max 1 most).toNat - acc.length) := by
  induction l with
  | nil => intro acc _; simp [feed]
  | cons x l ih =>
    intro acc ha
    rw [feed_cons]
    split
    · rename_i h
      rw [ih _ (.inl h)]
      simp at h
      have e : (max 1 most).toNat - acc.length = ((max 1 most).toNat - (acc ++ [x]).length) + 1 := by simp; omega
      rw [e, List.take_succ_cons]; simp
    · rename_i h
      simp at h
      have e : (max 1 most).toNat - acc.length = 1 := by
        rcases ha with ha | rfl
        · omega
        · simp at h ⊢; omega
      rw [e]; simp
end Go.Bt
