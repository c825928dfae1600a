/- A rule: a slice that is read is appended. -/
import Derived.Test.YtnnembkganlbpaaLa
namespace Go.Wk
open Go Go.Sl Go.Net Go.RowKit Go.Proofs.Ytnnembkganlbpaa
section
variable {P : Program} {ops : Array Oper} {Q : Slots → World → Prop} {σ : Slots} {w w0 : World} {H : HProp} {rest : Tre} {held : Nat → World → Prop} {i : Nat} {kp : List Nat}
variable {d : Option Tmp} {ty : TypeId} {ps : String} {af : Array Edge} {gd : Option (Nat × Bool)}
theorem ns_appd {t E : TypeId} {sz : Nat} {z : Value} {by' : Nat} {s x : Operand} {u v : Value} {n m : Nat} {xs news : List Value} {F F2 R : HProp}
    (hT : sliceT P t E sz = true) (hz : zeroOf P E = some z) (hby : P.bytesOf E = by') (hzs : z.cells.size = sz) (hsz : 0 < sz)
    (hr : Rd sz R u m news) (hsR : St w0 (R * F2) w) (hs : St w0 (Arr E sz v n xs * F) w) (ho : ops[i]? = some ⟨d, .call { callee := .builtin .append, args := #[s, x], argTypes := #[t, t] }, ty, ps, af, gd⟩)
    (hw : Region.wanted ⟨d, .call { callee := .builtin .append, args := #[s, x], argTypes := #[t, t] }, ty, ps, af, gd⟩ (yieldS ops σ) = true)
    (hsv : evS σ s = v) (hx : evS σ x = u) (h1 : ∀ u ∈ news, u.oneCell' = true)
    (h63 : n + m ≤ maxLen) (hb : (n + m) * by' ≤ 140737488355328)
    (h : ∀ v' w', St w0 (Arr E sz v' (n + m) (xs ++ news) * F) w' → keepAll held kp w' ∧ NetS P ops Q rest held (updO σ d v') w') : NetS P ops Q (.cons ⟨i, 2, kp⟩ rest) held σ w := by
  obtain ⟨hl, a, c, rfl, hmc, hrd⟩ := hr
  cases a with
  | none =>
    have hm : m = 0 := by
      rcases Nat.eq_zero_or_pos m with e | e
      · exact e
      · obtain ⟨_, _, e2, _⟩ := hrd (by omega); cases e2
    subst hm
    have hn : news = [] := List.eq_nil_of_length_eq_zero (by simpa using hl)
    subst hn
    exact ns_app0 hT hs ho hw hsv hx (h v w (by rw [List.append_nil]; exact hs))
  | some ad =>
    refine ns_app news hT hz hby hzs hsz hs ho hw hsv hx hl ?_ h1 h63 hb (fun v' w' h2 _ => h v' w' h2)
    intro j u hj
    have hm : m ≠ 0 := by
      intro e; subst e
      have hn : news = [] := List.eq_nil_of_length_eq_zero (by simpa using hl)
      subst hn; simp at hj
    obtain ⟨g, o, e2, hat⟩ := hrd hm
    cases e2
    rw [add_plain]; exact hat w0 w F2 hsR j u hj
end
end Go.Wk
namespace Go.Proofs.Ytnnembkganlbpaa
open Go.Bt
/-- a sorted list, cut by a key -/
theorem cut_plain {l : List It} (h : Srt l) (k : Int) : (l.filter fun y => decide (y.key < k)) ++ (l.filter fun y => decide (k ≤ y.key)) = l := by
  induction l with
  | nil => rfl
  | cons x l ih =>
    by_cases hx : x.key < k
    · have hx2 : ¬ k ≤ x.key := by omega
      simp only [List.filter_cons, hx, hx2, decide_true, decide_false, if_true, List.cons_append, Bool.false_eq_true, if_false]
      rw [ih h.tail]
    · have hx2 : k ≤ x.key := by omega
      have h1 : (l.filter fun y => decide (y.key < k)) = [] := List.filter_eq_nil_iff.2 fun y hy => by
        have := h.head y hy
        simp; omega
      have h2 : (l.filter fun y => decide (k ≤ y.key)) = l := List.filter_eq_self.2 fun y hy => by
        have := h.head y hy
        simp; omega
      simp only [List.filter_cons, hx, hx2, decide_true, decide_false, if_true, Bool.false_eq_true, if_false, h1, h2, List.nil_append]
theorem cutD_plain {l : List It} (h : Srt l) (k : Int) : (l.reverse.filter fun y => decide (k < y.key)) ++ (l.reverse.filter fun y => decide (y.key ≤ k)) = l.reverse := by
  have e : ∀ y : It, decide (k < y.key) = decide (k + 1 ≤ y.key) := fun y => decide_eq_decide.2 (by omega)
  have e2 : ∀ y : It, decide (y.key ≤ k) = decide (y.key < k + 1) := fun y => decide_eq_decide.2 (by omega)
  simp only [e, e2, List.filter_reverse]
  rw [← List.reverse_append, cut_plain h]
theorem range_10 (key to : Int) (l : List It) : rangeL (allL 10 key to) l = l.filter fun y => decide (key ≤ y.key) := by
  show List.filter _ l = _
  exact List.filter_congr fun y _ => by simp [geS, ltS, Sop.it, allL]; rfl
theorem range_11 (key to : Int) (l : List It) : rangeL (allL 11 key to) l = l.filter fun y => decide (y.key < key) := by
  show List.filter _ l = _
  exact List.filter_congr fun y _ => by simp [geS, ltS, Sop.it, allL]; rfl
theorem range_12 (key to : Int) (l : List It) : rangeL (allL 12 key to) l = l.filter fun y => decide (key ≤ y.key) && decide (y.key < to) := by
  show List.filter _ l = _
  exact List.filter_congr fun y _ => by simp [geS, ltS, Sop.it, Sop.it2, allL]; rfl
theorem range_14 (key to : Int) (l : List It) : rangeL (allL 14 key to) l = l.reverse.filter fun y => decide (y.key ≤ key) := by
  show List.filter _ l.reverse = _
  exact List.filter_congr fun y _ => by simp [leS, gtS, Sop.it, allL]; rfl
theorem range_15 (key to : Int) (l : List It) : rangeL (allL 15 key to) l = l.reverse.filter fun y => decide (key < y.key) := by
  show List.filter _ l.reverse = _
  exact List.filter_congr fun y _ => by simp [leS, gtS, Sop.it, allL]; rfl
theorem range_16 (key to : Int) (l : List It) : rangeL (allL 16 key to) l = l.reverse.filter fun y => decide (y.key ≤ key) && decide (to < y.key) := by
  show List.filter _ l.reverse = _
  exact List.filter_congr fun y _ => by simp [leS, gtS, Sop.it, Sop.it2, allL]; rfl
theorem run_end (l : List It) : runL l [] = [] := rfl
end Go.Proofs.Ytnnembkganlbpaa
