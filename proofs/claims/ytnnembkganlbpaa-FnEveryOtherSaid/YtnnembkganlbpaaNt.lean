/- Regions that draw their order and whose writing operations may come in more orders than one: a tree of orders, each carried out. -/
import Derived.Test.YtnnembkganlbpaaNet
namespace Go.Net
open Go
/-- a tree of orders: 'fork' where either of two writing operations may come next -/
inductive Tre where
  | nil
  | cons (s : Stp) (r : Tre)
  | fork (s : Stp) (r : Tre) (s2 : Stp) (r2 : Tre)
def Tre.len : Tre → Nat
  | .nil => 0
  | .cons _ r => r.len + 1
  | .fork _ r _ _ => r.len + 1
def Tre.effs : Tre → List Nat
  | .nil => []
  | .cons s r => if s.k != 0 && s.k != 1 then s.i :: r.effs else r.effs
  | .fork s r _ _ => s.i :: r.effs
section
variable {P : Program} {ops : Array Oper} {Q : Act → World → Prop} {T : List Nat}
def wpTre (P : Program) (ops : Array Oper) (Q : Act → World → Prop) : Tre → (Nat → World → Prop) → Act → World → Prop
  | .nil, _, a, w => Q a w
  | .cons s r, held, a, w =>
    match s.k with
    | 0 => ∃ o v, ops[s.i]? = some o ∧ YieldsIf P ops (fun _ => True) o v a ∧ wpTre P ops Q r held (a.put o.dst v) w
    | 1 => ∃ o v I, ops[s.i]? = some o ∧ I w ∧ YieldsIf P ops I o v a ∧ wpTre P ops Q r (fun n => if n = s.i then I else held n) (a.put o.dst v) w
    | _ => ∃ o, ops[s.i]? = some o ∧ Region.wanted o (yielded ops a.tmps) = true ∧ o.wp P a w (fun a' w' => keepAll held s.keep w' ∧ wpTre P ops Q r held a' w') (fun _ _ _ => False)
  | .fork s r s2 r2, held, a, w =>
    (∃ o, ops[s.i]? = some o ∧ Region.wanted o (yielded ops a.tmps) = true ∧ o.wp P a w (fun a' w' => keepAll held s.keep w' ∧ wpTre P ops Q r held a' w') (fun _ _ _ => False)) ∧
    (∃ o, ops[s2.i]? = some o ∧ Region.wanted o (yielded ops a.tmps) = true ∧ o.wp P a w (fun a' w' => keepAll held s2.keep w' ∧ wpTre P ops Q r2 held a' w') (fun _ _ _ => False))
def keepChk (T : List Nat) (rs es : List Nat) (s : Stp) : Bool := rs.all (fun r => s.keep.contains r || (s.i :: es).any fun k => anc T r k)
def chkTre (T E : List Nat) (ops : Array Oper) : List Nat → List Nat → Array Bool → Tre → Bool
  | _, _, listed, .nil => (Region.ready .any ops listed).isEmpty
  | rs, es, listed, .cons s r =>
    match s.k with
    | 0 => (Region.ready .any ops listed).contains s.i && Region.free .any ops listed s.i && !E.contains s.i && chkTre T E ops rs es (listed.setIfInBounds s.i true) r
    | 1 => (Region.ready .any ops listed).contains s.i && Region.free .any ops listed s.i && !E.contains s.i && chkTre T E ops (s.i :: rs) es (listed.setIfInBounds s.i true) r
    | _ => (Region.ready .any ops listed == [s.i]) && E.contains s.i && keepChk T rs es s && chkTre T E ops rs (s.i :: es) (listed.setIfInBounds s.i true) r
  | rs, es, listed, .fork s r s2 r2 =>
    (Region.ready .any ops listed == [s.i, s2.i]) && E.contains s.i && E.contains s2.i && keepChk T rs es s && keepChk T rs es s2 && (r.len == r2.len) &&
      chkTre T E ops rs (s.i :: es) (listed.setIfInBounds s.i true) r && chkTre T E ops rs (s2.i :: es) (listed.setIfInBounds s2.i true) r2

theorem eff_sound {E : List Nat} {hs : List (Nat × (World → Prop))} {held : Nat → World → Prop} {rs es : List Nat} {listed : Array Bool} {a : Act} {w : World} {s : Stp} {fuel : Nat} {K : Act → World → Prop}
    (hrel : ∀ h ∈ hs, (h.2 = fun _ => True) ∨ (h.1 ∈ rs ∧ h.2 = held h.1)) (hes : ∀ k ∈ es, k ∈ E ∧ listed.getD k false = true) (hE : s.i ∈ E) (hkeep : keepChk T rs es s = true) (hj : s.i ∈ Region.ready .any ops listed)
    (h : ∃ o, ops[s.i]? = some o ∧ Region.wanted o (yielded ops a.tmps) = true ∧ o.wp P a w (fun a' w' => keepAll held s.keep w' ∧ K a' w') (fun _ _ _ => False))
    (ih : ∀ a' w', Live T E hs (listed.setIfInBounds s.i true) w' → K a' w' → wpAnyK P ops (QN Q) T E hs fuel (listed.setIfInBounds s.i true) a' w') :
    wpOp P ops (QN Q) s.i (fun a' w' => Live T E hs (listed.setIfInBounds s.i true) w' ∧ wpAnyK P ops (QN Q) T E hs fuel (listed.setIfInBounds s.i true) a' w') a w := by
  obtain ⟨o, ho, hw, h⟩ := h
  unfold keepChk at hkeep
  simp only [List.contains_eq_mem, decide_eq_true_eq, List.all_eq_true, Bool.or_eq_true, List.any_eq_true] at hkeep
  unfold wpOp
  rw [ho]
  simp only [hw, if_true]
  refine .inl (Oper.wp_Q (Go.Oper.wp_mono (fun a' w' hh => ?_) h))
  have hlj : (listed.setIfInBounds s.i true).getD s.i false = true := by
    have := size_of_unlisted (mem_ready.1 hj).1
    simp [this]
  have hLn : Live T E hs (listed.setIfInBounds s.i true) w' := by
    intro x hx hlive
    rcases hrel x hx with e | ⟨e1, e2⟩
    · rw [e]; trivial
    · rw [e2]
      rcases hkeep x.1 e1 with hkp | ⟨k, hk, hak⟩
      · exact keepAll_mem hh.1 hkp
      · exfalso
        have hkl : k ∈ E ∧ (listed.setIfInBounds s.i true).getD k false = true := by
          rcases List.mem_cons.1 hk with rfl | hk
          · exact ⟨hE, hlj⟩
          · exact ⟨(hes k hk).1, getD_set_true (hes k hk).2⟩
        rw [hlive k hkl.1 hkl.2] at hak; cases hak
  exact ⟨hLn, ih a' w' hLn hh.2⟩

theorem tre_sound (hT : tabOk T ops = true) (hsel : Region.noSelect ops = true) {E : List Nat} : ∀ (π : Tre) (rs es : List Nat) (listed : Array Bool) (hs : List (Nat × (World → Prop))) (held : Nat → World → Prop) (a : Act) (w : World),
    chkTre T E ops rs es listed π = true → Closed ops listed → (∀ j, listed.getD j false = true → j < ops.size) → Live T E hs listed w →
    (∀ h ∈ hs, (h.2 = fun _ => True) ∨ (h.1 ∈ rs ∧ h.2 = held h.1)) → (∀ r ∈ rs, listed.getD r false = true) → (∀ k ∈ es, k ∈ E ∧ listed.getD k false = true) →
    wpTre P ops Q π held a w → wpAnyK P ops (QN Q) T E hs π.len listed a w
  | .nil, rs, es, listed, hs, held, a, w => by
    intro hchk _ _ _ _ _ _ h
    exact ⟨List.isEmpty_iff.1 hchk, h⟩
  | .cons s rest, rs, es, listed, hs, held, a, w => by
    intro hchk hc hl hL hrel hrs hes h
    have hsel' := Region.noSelect_spec hsel
    unfold wpTre at h
    unfold chkTre at hchk
    split at h
    · rename_i hk
      rw [hk] at hchk
      simp only [Bool.and_eq_true, Bool.not_eq_true', List.contains_eq_mem, decide_eq_false_iff_not, decide_eq_true_eq] at hchk
      obtain ⟨⟨⟨hready, hfree⟩, hE⟩, hchk⟩ := hchk
      obtain ⟨o, v, ho, hy, h⟩ := h
      refine wpAnyK_first hT ho hE hsel' rest.len listed a w (fun j oj hj hne hun hno => Region.free_spec ho hfree j oj hj hne hun hno) hc hl hL hready hy trivial ?_
      refine tre_sound hT hsel rest rs es _ ((s.i, fun _ => True) :: hs) held _ w hchk (hc.set hready) (listed_lt_set hl (Array.getElem?_eq_some_iff.1 ho).1) ?_ ?_ (fun r hr => getD_set_true (hrs r hr)) (fun k hk => ⟨(hes k hk).1, getD_set_true (hes k hk).2⟩) h
      · intro x hx hk
        rcases List.mem_cons.1 hx with rfl | hx
        · trivial
        · exact hL.more _ x hx hk
      · intro x hx
        rcases List.mem_cons.1 hx with rfl | hx
        · exact .inl rfl
        · exact hrel x hx
    · rename_i hk
      rw [hk] at hchk
      simp only [Bool.and_eq_true, Bool.not_eq_true', List.contains_eq_mem, decide_eq_false_iff_not, decide_eq_true_eq] at hchk
      obtain ⟨⟨⟨hready, hfree⟩, hE⟩, hchk⟩ := hchk
      obtain ⟨o, v, I, ho, hI, hy, h⟩ := h
      have hun := (mem_ready.1 hready).1
      refine wpAnyK_first hT ho hE hsel' rest.len listed a w (fun j oj hj hne hun hno => Region.free_spec ho hfree j oj hj hne hun hno) hc hl hL hready hy hI ?_
      refine tre_sound hT hsel rest (s.i :: rs) es _ ((s.i, I) :: hs) _ _ w hchk (hc.set hready) (listed_lt_set hl (Array.getElem?_eq_some_iff.1 ho).1) ?_ ?_ ?_ (fun k hk => ⟨(hes k hk).1, getD_set_true (hes k hk).2⟩) h
      · intro x hx hk
        rcases List.mem_cons.1 hx with rfl | hx
        · exact hI
        · exact hL.more _ x hx hk
      · intro x hx
        rcases List.mem_cons.1 hx with rfl | hx
        · exact .inr ⟨by simp, by simp⟩
        · rcases hrel x hx with e | ⟨e1, e2⟩
          · exact .inl e
          · refine .inr ⟨List.mem_cons_of_mem _ e1, ?_⟩
            have hne : x.1 ≠ s.i := fun e => by
              have := hrs x.1 e1
              rw [e, unlisted_of hun] at this; cases this
            rw [if_neg hne]; exact e2
      · intro r hr
        rcases List.mem_cons.1 hr with rfl | hr
        · have := size_of_unlisted hun
          simp [this]
        · exact getD_set_true (hrs r hr)
    · rename_i hk0 hk1
      split at hchk
      · rename_i e; exact absurd e hk0
      · rename_i e; exact absurd e hk1
      simp only [Bool.and_eq_true, beq_iff_eq, List.contains_eq_mem, decide_eq_true_eq] at hchk
      obtain ⟨⟨⟨hready, hE⟩, hkeep⟩, hchk⟩ := hchk
      refine ⟨(fun e => by rw [hready] at e; cases e), fun j hj => ?_⟩
      have hj' := hj
      rw [hready] at hj
      obtain rfl : j = s.i := by simpa using hj
      have ho := h
      obtain ⟨o, ho, _⟩ := ho
      have hlj : (listed.setIfInBounds s.i true).getD s.i false = true := by
        have := size_of_unlisted (mem_ready.1 hj').1
        simp [this]
      exact eff_sound hrel hes hE hkeep hj' h fun a' w' hLn hk => tre_sound hT hsel rest rs (s.i :: es) _ hs held a' w' hchk (hc.set hj') (listed_lt_set hl (Array.getElem?_eq_some_iff.1 ho).1) hLn hrel (fun r hr => getD_set_true (hrs r hr))
        (fun k hk => by
          rcases List.mem_cons.1 hk with rfl | hk
          · exact ⟨hE, hlj⟩
          · exact ⟨(hes k hk).1, getD_set_true (hes k hk).2⟩) hk
  | .fork s r s2 r2, rs, es, listed, hs, held, a, w => by
    intro hchk hc hl hL hrel hrs hes h
    unfold wpTre at h
    unfold chkTre at hchk
    simp only [Bool.and_eq_true, beq_iff_eq, List.contains_eq_mem, decide_eq_true_eq] at hchk
    obtain ⟨⟨⟨⟨⟨⟨⟨hready, hE⟩, hE2⟩, hkeep⟩, hkeep2⟩, hlen⟩, hchk⟩, hchk2⟩ := hchk
    obtain ⟨h, h2⟩ := h
    have m1 : s.i ∈ Region.ready .any ops listed := by rw [hready]; simp
    have m2 : s2.i ∈ Region.ready .any ops listed := by rw [hready]; simp
    have l1 : (listed.setIfInBounds s.i true).getD s.i false = true := by
      have := size_of_unlisted (mem_ready.1 m1).1
      simp [this]
    have l2 : (listed.setIfInBounds s2.i true).getD s2.i false = true := by
      have := size_of_unlisted (mem_ready.1 m2).1
      simp [this]
    have ho := h
    have ho2 := h2
    obtain ⟨o, ho, _⟩ := ho
    obtain ⟨o2, ho2, _⟩ := ho2
    refine ⟨(fun e => by rw [hready] at e; cases e), fun j hj => ?_⟩
    rw [hready] at hj
    have hj : j = s.i ∨ j = s2.i := by simpa using hj
    rcases hj with rfl | rfl
    · exact eff_sound hrel hes hE hkeep m1 h fun a' w' hLn hk => tre_sound hT hsel r rs (s.i :: es) _ hs held a' w' hchk (hc.set m1) (listed_lt_set hl (Array.getElem?_eq_some_iff.1 ho).1) hLn hrel (fun r hr => getD_set_true (hrs r hr))
        (fun k hk => by
          rcases List.mem_cons.1 hk with rfl | hk
          · exact ⟨hE, l1⟩
          · exact ⟨(hes k hk).1, getD_set_true (hes k hk).2⟩) hk
    · show wpOp P ops (QN Q) s2.i (fun a' w' => Live T E hs (listed.setIfInBounds s2.i true) w' ∧ wpAnyK P ops (QN Q) T E hs r.len (listed.setIfInBounds s2.i true) a' w') a w
      rw [hlen]
      exact eff_sound hrel hes hE2 hkeep2 m2 h2 fun a' w' hLn hk => tre_sound hT hsel r2 rs (s2.i :: es) _ hs held a' w' hchk2 (hc.set m2) (listed_lt_set hl (Array.getElem?_eq_some_iff.1 ho2).1) hLn hrel (fun r hr => getD_set_true (hrs r hr))
        (fun k hk => by
          rcases List.mem_cons.1 hk with rfl | hk
          · exact ⟨hE2, l2⟩
          · exact ⟨(hes k hk).1, getD_set_true (hes k hk).2⟩) hk
def chkTree (T : List Nat) (ops : Array Oper) (π : Tre) : Bool :=
  tabOk T ops && Region.noSelect ops && (π.len == ops.size) && chkTre T π.effs ops [] [] (Array.replicate ops.size false) π
theorem wp_region_tre {id : Nat} {a : Act} {w : World} {Q : Exit → Act → World → Prop} (hm : P.follows .mixedOrders = true) (T : List Nat) (π : Tre) (hchk : chkTree T ops π = true)
    (h : wpTre P ops (fun a w => Q .normal a w) π (fun _ _ => True) a w.drew) : (Code.region id ops true).wp P Q a w := by
  unfold chkTree at hchk
  simp only [Bool.and_eq_true, beq_iff_eq] at hchk
  obtain ⟨⟨⟨hT, hsel⟩, hlen⟩, hchk⟩ := hchk
  have hrep : ∀ j, (Array.replicate ops.size false).getD j false = true → j < ops.size := by
    intro j hj
    rcases Nat.lt_or_ge j ops.size with h' | h'
    · exact h'
    · simp [h'] at hj
  have hrepf : ∀ j, (Array.replicate ops.size false).getD j false = false := by
    intro j
    rcases Nat.lt_or_ge j ops.size with h' | h'
    · simp [h']
    · simp [h']
  have := tre_sound (P := P) (Q := fun a w => Q .normal a w) hT hsel π [] [] (Array.replicate ops.size false) [] (fun _ _ => True) a w.drew hchk
    (fun j o ho hj => by rw [hrepf] at hj; cases hj) hrep (fun x hx => by cases hx) (fun x hx => by cases hx) (fun x hx => by cases hx) (fun x hx => by cases hx) h
  rw [hlen] at this
  have h2 := wp_region_any (id := id) hm (wpAny_of_K _ _ _ _ this)
  exact Code.wp_mono (fun e a w q => by cases e <;> first | exact q | exact q.elim) h2
/-- one order as a tree -/
def ofL : List Stp → Tre
  | [] => .nil
  | s :: l => .cons s (ofL l)
theorem wpNet_of_ofL : ∀ (π : List Stp) (held : Nat → World → Prop) (a : Act) (w : World), wpTre P ops Q (ofL π) held a w → wpNet P ops Q π held a w
  | [], _, _, _, h => h
  | s :: rest, held, a, w, h => by
    unfold ofL wpTre at h
    unfold wpNet
    split at h
    · rename_i hk
      rw [hk]
      obtain ⟨o, v, ho, hy, h⟩ := h
      exact ⟨o, v, ho, hy, wpNet_of_ofL rest held _ w h⟩
    · rename_i hk
      rw [hk]
      obtain ⟨o, v, I, ho, hI, hy, h⟩ := h
      exact ⟨o, v, I, ho, hI, hy, wpNet_of_ofL rest _ _ w h⟩
    · rename_i hk0 hk1
      split
      · rename_i e; exact absurd e hk0
      · rename_i e; exact absurd e hk1
      obtain ⟨o, ho, hw, h⟩ := h
      exact ⟨o, ho, hw, Go.Oper.wp_mono (fun a' w' hh => ⟨hh.1, wpNet_of_ofL rest held a' w' hh.2⟩) h⟩
end
end Go.Net
