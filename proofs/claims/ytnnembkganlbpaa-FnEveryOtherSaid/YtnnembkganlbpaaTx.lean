/- A walk within bounds over a sorted list, from its end, fed to a visitor, piece by piece. Plain lists. -/
import Derived.Test.YtnnembkganlbpaaTw
namespace Go.Bt
def leS (st : Option It) (y : It) : Bool := match st with | none => true | some s => decide (y.key ≤ s.key)
def gtS (sp : Option It) (y : It) : Bool := match sp with | none => true | some s => decide (s.key < y.key)
def belS (st : Option It) (y : It) : Prop := match st with | none => True | some s => y.key < s.key
def selD (st sp : Option It) (l : List It) : List It := l.filter fun y => leS st y && gtS sp y
theorem selD_append (st sp : Option It) (a b : List It) : selD st sp (a ++ b) = selD st sp a ++ selD st sp b := List.filter_append ..
theorem selD_none {st sp : Option It} {l : List It} (h : ∀ y ∈ l, leS st y = false ∨ gtS sp y = false) : selD st sp l = [] := by
  unfold selD
  rw [List.filter_eq_nil_iff]
  intro y hy
  rcases h y hy with e | e <;> simp [e]
/-- the walk over l (from the greater to the lesser), begun with acc, ended with acc2; ok: it is to go on behind l -/
def ItD (most : Int) (st sp : Option It) (l acc acc2 : List It) (ok : Bool) : Prop :=
  acc2 = (feed most acc (selD st sp l)).1 ∧ (ok = true → (feed most acc (selD st sp l)).2 = true) ∧ (ok = false → (feed most acc (selD st sp l)).2 = false ∨ ∃ y ∈ l, gtS sp y = false)
theorem ItD.nil (most : Int) (st sp : Option It) (acc : List It) : ItD most st sp [] acc acc true := ⟨rfl, fun _ => rfl, fun h => by cases h⟩
theorem gtS_down {sp : Option It} {x y : It} (h : gtS sp x = false) (hxy : y.key < x.key) : gtS sp y = false := by
  cases sp with
  | none => cases h
  | some s => simp [gtS] at h ⊢; omega
/-- the order from the greater to the lesser -/
def Dsc (l : List It) : Prop := Srt l.reverse
theorem dsc_append {a b : List It} : Dsc (a ++ b) → ∀ x ∈ a, ∀ y ∈ b, y.key < x.key := by
  intro h x hx y hy
  unfold Dsc at h
  rw [List.reverse_append] at h
  exact (srt_append.1 h).2.2 y (List.mem_reverse.2 hy) x (List.mem_reverse.2 hx)
theorem ItD.stop {most : Int} {st sp : Option It} {a b acc acc2 : List It} (h : ItD most st sp a acc acc2 false) (hS : Dsc (a ++ b)) : ItD most st sp (a ++ b) acc acc2 false := by
  obtain ⟨h1, _, h3⟩ := h
  have h3 := h3 rfl
  unfold ItD
  rw [selD_append, feed_append]
  rcases h3 with e | ⟨y, hy, e⟩
  · rw [e]
    exact ⟨h1, (fun h => by cases h), fun _ => .inl e⟩
  · have hb : selD st sp b = [] := selD_none fun z hz => .inr (gtS_down e (dsc_append hS y hy z hz))
    rw [hb]
    refine ⟨?_, (fun h => by cases h), fun _ => .inr ⟨y, List.mem_append_left _ hy, e⟩⟩
    split <;> first | exact h1 | (rw [feed_nil]; exact h1)
theorem ItD.go {most : Int} {st sp : Option It} {a b acc acc2 acc3 : List It} {ok : Bool} (h : ItD most st sp a acc acc2 true) (h2 : ItD most st sp b acc2 acc3 ok) : ItD most st sp (a ++ b) acc acc3 ok := by
  obtain ⟨h1, h3, _⟩ := h
  have e1 := h3 rfl
  obtain ⟨g1, g2, g3⟩ := h2
  subst h1
  unfold ItD
  rw [selD_append, feed_append, if_pos e1]
  refine ⟨g1, g2, fun hk => ?_⟩
  · rcases g3 hk with e | ⟨y, hy, e⟩
    · exact .inl e
    · exact .inr ⟨y, List.mem_append_right _ hy, e⟩
theorem ItD.one {most : Int} {st sp : Option It} {x : It} {acc : List It} (h1 : leS st x = true) (h2 : gtS sp x = true) : ItD most st sp [x] acc (acc ++ [x]) (decide (((acc ++ [x]).length : Int) < most)) := by
  have hs : selD st sp [x] = [x] := by simp [selD, h1, h2]
  unfold ItD
  rw [hs, feed_cons, feed_nil]
  by_cases h : ((acc ++ [x]).length : Int) < most
  · rw [if_pos h]
    exact ⟨rfl, fun _ => rfl, (fun e => by rw [decide_eq_true h] at e; cases e)⟩
  · rw [if_neg h]
    exact ⟨rfl, (fun e => by rw [decide_eq_false h] at e; cases e), fun _ => .inl rfl⟩
theorem ItD.one_stop {most : Int} {st sp : Option It} {x : It} {acc : List It} (h2 : gtS sp x = false) : ItD most st sp [x] acc acc false := by
  unfold ItD
  rw [selD_none (fun y hy => by rw [List.mem_singleton.1 hy]; exact .inr h2)]
  exact ⟨rfl, (fun e => by cases e), fun _ => .inr ⟨x, by simp, h2⟩⟩
theorem ItD.above {most : Int} {st sp : Option It} {l acc : List It} (h : ∀ y ∈ l, leS st y = false) : ItD most st sp l acc acc true := by
  unfold ItD
  rw [selD_none (fun y hy => .inl (h y hy))]
  exact ⟨rfl, fun _ => rfl, fun e => by cases e⟩
/-- what a tree's list has ahead of kid i -/
def pfx (h : Nat) (t : Tr) : Nat → List It
  | 0 => []
  | i + 1 => pfx h t i ++ kidL h t i ++ (t.its[i]?).toList
theorem pfx_step {h : Nat} {t : Tr} {i : Nat} {x : It} (hx : t.its[i]? = some x) : pfx h t (i + 1) = pfx h t i ++ kidL h t i ++ [x] := by
  show pfx h t i ++ kidL h t i ++ (t.its[i]?).toList = _
  rw [hx]; rfl
theorem pfx_rst {mn mx h : Nat} {t : Tr} (hO : Ok mn mx h t) : ∀ i, i ≤ t.its.length → flat h t = pfx h t i ++ rst h t i := by
  intro i
  induction i with
  | zero => intro _; rw [rst_zero]; rfl
  | succ i ih =>
    intro hi
    obtain ⟨x, hx⟩ : ∃ x, t.its[i]? = some x := ⟨t.its[i]'(by omega), List.getElem?_eq_getElem (by omega)⟩
    rw [ih (by omega), rst_step hO hx, pfx_step hx]
    simp
/-- what a tree's list has behind kid j -/
theorem pfx_up {mn mx h : Nat} {t : Tr} (hO : Ok mn mx h t) (hS : Srt (flat h t)) (j : Nat) (hj : j ≤ t.its.length) : ∃ up, flat h t = pfx h t j ++ kidL h t j ++ up ∧ ∀ k, (∀ i y, j ≤ i → t.its[i]? = some y → k < y.key) → ∀ a ∈ up, k < a.key := by
  have e := pfx_rst hO j hj
  by_cases h1 : j = t.its.length
  · subst h1
    refine ⟨[], by rw [List.append_nil, ← rst_last hO]; exact e, fun k hk a ha => by cases ha⟩
  · obtain ⟨x, hx⟩ : ∃ x, t.its[j]? = some x := ⟨t.its[j]'(by omega), List.getElem?_eq_getElem (by omega)⟩
    rw [rst_step hO hx, ← List.append_assoc] at e
    refine ⟨x :: rst h t (j + 1), e, fun k hk a ha => ?_⟩
    have hxk := hk j x (Nat.le_refl _) hx
    rw [e] at hS
    rcases List.mem_cons.1 ha with rfl | ha
    · exact hxk
    · have h3 := (srt_append.1 hS).2.1
      have := (srt_append.1 (show Srt ([x] ++ rst h t (j + 1)) from h3)).2.2 x (by simp) a ha
      omega
end Go.Bt
