/- A walk within bounds over a sorted list, fed to a visitor, piece by piece. Plain lists. -/
import Derived.Test.YtnnembkganlbpaaTf
namespace Go.Bt
def geS (st : Option It) (y : It) : Bool := match st with | none => true | some s => decide (s.key ≤ y.key)
def ltS (sp : Option It) (y : It) : Bool := match sp with | none => true | some s => decide (y.key < s.key)
def sel (st sp : Option It) (l : List It) : List It := l.filter fun y => geS st y && ltS sp y
theorem sel_append (st sp : Option It) (a b : List It) : sel st sp (a ++ b) = sel st sp a ++ sel st sp b := List.filter_append ..
theorem sel_none {st sp : Option It} {l : List It} (h : ∀ y ∈ l, geS st y = false ∨ ltS sp y = false) : sel st sp l = [] := by
  unfold sel
  rw [List.filter_eq_nil_iff]
  intro y hy
  rcases h y hy with e | e <;> simp [e]
/-- the walk over l, begun with acc, ended with acc2; ok: it is to go on behind l -/
def ItA (most : Int) (st sp : Option It) (l acc acc2 : List It) (ok : Bool) : Prop :=
  acc2 = (feed most acc (sel st sp l)).1 ∧ (ok = true → (feed most acc (sel st sp l)).2 = true) ∧ (ok = false → (feed most acc (sel st sp l)).2 = false ∨ ∃ y ∈ l, ltS sp y = false)
theorem ItA.nil (most : Int) (st sp : Option It) (acc : List It) : ItA most st sp [] acc acc true := ⟨rfl, fun _ => rfl, fun h => by cases h⟩
theorem ltS_up {sp : Option It} {x y : It} (h : ltS sp x = false) (hxy : x.key < y.key) : ltS sp y = false := by
  cases sp with
  | none => cases h
  | some s => simp [ltS] at h ⊢; omega
theorem ItA.stop {most : Int} {st sp : Option It} {a b acc acc2 : List It} (h : ItA most st sp a acc acc2 false) (hS : Srt (a ++ b)) : ItA most st sp (a ++ b) acc acc2 false := by
  obtain ⟨h1, _, h3⟩ := h
  have h3 := h3 rfl
  unfold ItA
  rw [sel_append, feed_append]
  rcases h3 with e | ⟨y, hy, e⟩
  · rw [e]
    exact ⟨h1, (fun h => by cases h), fun _ => .inl e⟩
  · have hb : sel st sp b = [] := sel_none fun z hz => .inr (ltS_up e ((srt_append.1 hS).2.2 y hy z hz))
    rw [hb]
    refine ⟨?_, (fun h => by cases h), fun _ => .inr ⟨y, List.mem_append_left _ hy, e⟩⟩
    split <;> first | exact h1 | (rw [feed_nil]; exact h1)
theorem ItA.go {most : Int} {st sp : Option It} {a b acc acc2 acc3 : List It} {ok : Bool} (h : ItA most st sp a acc acc2 true) (h2 : ItA most st sp b acc2 acc3 ok) : ItA most st sp (a ++ b) acc acc3 ok := by
  obtain ⟨h1, h3, _⟩ := h
  have e1 := h3 rfl
  obtain ⟨g1, g2, g3⟩ := h2
  subst h1
  unfold ItA
  rw [sel_append, feed_append, if_pos e1]
  refine ⟨g1, g2, fun hk => ?_⟩
  · rcases g3 hk with e | ⟨y, hy, e⟩
    · exact .inl e
    · exact .inr ⟨y, List.mem_append_right _ hy, e⟩
/-- what is left of a tree's list from kid i on -/
def kidL : Nat → Tr → Nat → List It
  | 0, _, _ => []
  | h + 1, t, i => ((t.kids[i]?).map (flat h)).getD []
def rst : Nat → Tr → Nat → List It
  | 0, t, i => t.its.drop i
  | h + 1, t, i => weave (t.its.drop i) ((t.kids.drop i).map (flat h))
theorem rst_zero (h : Nat) (t : Tr) : rst h t 0 = flat h t := by cases h <;> rfl
theorem rst_step {mn mx h i : Nat} {t : Tr} {x : It} (hO : Ok mn mx h t) (hx : t.its[i]? = some x) : rst h t i = kidL h t i ++ x :: rst h t (i + 1) := by
  obtain ⟨hi, e⟩ := List.getElem?_eq_some_iff.1 hx
  cases h with
  | zero =>
    show t.its.drop i = [] ++ x :: t.its.drop (i + 1)
    rw [List.drop_eq_getElem_cons hi, e]; rfl
  | succ h =>
    have hl := hO.1
    have hk : i < t.kids.length := by omega
    show weave (t.its.drop i) ((t.kids.drop i).map (flat h)) = ((t.kids[i]?).map (flat h)).getD [] ++ x :: weave (t.its.drop (i + 1)) ((t.kids.drop (i + 1)).map (flat h))
    rw [List.drop_eq_getElem_cons hi, e, List.drop_eq_getElem_cons hk, List.map_cons, weave_cons, List.getElem?_eq_getElem hk]
    · rfl
    · exact ne_of_len (by rw [List.length_map, List.length_drop]; omega)
theorem rst_last {mn mx h : Nat} {t : Tr} (hO : Ok mn mx h t) : rst h t t.its.length = kidL h t t.its.length := by
  cases h with
  | zero => show t.its.drop t.its.length = []; simp
  | succ h =>
    have hl := hO.1
    have hk : t.its.length < t.kids.length := by omega
    show weave (t.its.drop t.its.length) ((t.kids.drop t.its.length).map (flat h)) = ((t.kids[t.its.length]?).map (flat h)).getD []
    rw [List.drop_length, List.drop_eq_getElem_cons hk, List.drop_of_length_le (by omega : t.kids.length ≤ t.its.length + 1), List.getElem?_eq_getElem hk]
    show weave [] [flat h t.kids[t.its.length]] = _
    rw [weave_one]; rfl
theorem rst_pre {mn mx h : Nat} {t : Tr} (hO : Ok mn mx h t) (hS : Srt (flat h t)) : ∀ i, i ≤ t.its.length → ∃ A, flat h t = A ++ rst h t i ∧ ∀ k, (∀ j y, j < i → t.its[j]? = some y → y.key < k) → ∀ a ∈ A, a.key < k := by
  intro i
  induction i with
  | zero => exact fun _ => ⟨[], by rw [rst_zero]; rfl, fun _ _ a ha => by cases ha⟩
  | succ i ih =>
    intro hi
    obtain ⟨A, e, hA⟩ := ih (by omega)
    obtain ⟨x, hx⟩ : ∃ x, t.its[i]? = some x := ⟨t.its[i]'(by omega), List.getElem?_eq_getElem (by omega)⟩
    rw [rst_step hO hx] at e
    refine ⟨A ++ kidL h t i ++ [x], by rw [e]; simp, fun k hk a ha => ?_⟩
    have hxk := hk i x (Nat.lt_succ_self i) hx
    rw [e] at hS
    rcases List.mem_append.1 ha with ha | ha
    · rcases List.mem_append.1 ha with ha | ha
      · exact hA k (fun j y hj hy => hk j y (by omega) hy) a ha
      · have := (srt_append.1 (srt_append.1 hS).2.1).2.2 a ha x (by simp)
        omega
    · have : a = x := by simpa using ha
      subst this; exact hxk
theorem sel_one {st sp : Option It} {x : It} (h1 : geS st x = true) (h2 : ltS sp x = true) : sel st sp [x] = [x] := by simp [sel, h1, h2]
theorem ItA.one {most : Int} {st sp : Option It} {x : It} {acc : List It} (h1 : geS st x = true) (h2 : ltS sp x = true) : ItA most st sp [x] acc (acc ++ [x]) (decide (((acc ++ [x]).length : Int) < most)) := by
  unfold ItA
  rw [sel_one h1 h2, feed_cons, feed_nil]
  by_cases h : ((acc ++ [x]).length : Int) < most
  · rw [if_pos h]
    exact ⟨rfl, fun _ => rfl, (fun e => by rw [decide_eq_true h] at e; cases e)⟩
  · rw [if_neg h]
    exact ⟨rfl, (fun e => by rw [decide_eq_false h] at e; cases e), fun _ => .inl rfl⟩
theorem ItA.one_stop {most : Int} {st sp : Option It} {x : It} {acc : List It} (h2 : ltS sp x = false) : ItA most st sp [x] acc acc false := by
  unfold ItA
  rw [sel_none (fun y hy => by rw [List.mem_singleton.1 hy]; exact .inr h2)]
  exact ⟨rfl, (fun e => by cases e), fun _ => .inr ⟨x, by simp, h2⟩⟩
theorem ItA.below {most : Int} {st sp : Option It} {l acc : List It} (h : ∀ y ∈ l, geS st y = false) : ItA most st sp l acc acc true := by
  unfold ItA
  rw [sel_none (fun y hy => .inl (h y hy))]
  exact ⟨rfl, fun _ => rfl, fun e => by cases e⟩
end Go.Bt
