/- Regions that draw their order, carried out in ONE order of the prover's choice: each operation that only reads is taken as soon as its operands are there, what writes comes in its one forced place, and what a read found is shown to stand behind every writing operation that need not wait for it. -/
import Derived.OrdersHeld
import Derived.KernelRfl
import Derived.WalkKit
namespace Go.Net
open Go

def QN (Q : Act → World → Prop) : Exit → Act → World → Prop
  | .normal, a, w => Q a w
  | _, _, _ => False

def anc (T : List Nat) (i j : Nat) : Bool := (T.getD j 0).testBit i
def orAll (T : List Nat) : List Edge → Nat
  | [] => 0
  | e :: l => if Region.binds .any e then (2 ^ e.on ||| T.getD e.on 0) ||| orAll T l else orAll T l
def tabOk (T : List Nat) (ops : Array Oper) : Bool :=
  (List.range ops.size).all fun j => match ops[j]? with
    | some o => T.getD j 0 == orAll T o.after.toList && o.after.toList.all fun e => !Region.binds .any e || decide (e.on < j)
    | none => true

theorem orAll_bit {T : List Nat} {l : List Edge} {i : Nat} (h : (orAll T l).testBit i = true) : ∃ e ∈ l, Region.binds .any e = true ∧ (i = e.on ∨ anc T i e.on = true) := by
  induction l with
  | nil => simp [orAll] at h
  | cons e l ih =>
    simp only [orAll] at h
    split at h
    · rename_i hb
      rw [Nat.testBit_or, Nat.testBit_or, Bool.or_eq_true, Bool.or_eq_true] at h
      rcases h with (h | h) | h
      · rw [Nat.testBit_two_pow] at h
        exact ⟨e, by simp, hb, .inl (by simp at h; exact h.symm)⟩
      · exact ⟨e, by simp, hb, .inr h⟩
      · obtain ⟨x, hx, r⟩ := ih h
        exact ⟨x, by simp [hx], r⟩
    · obtain ⟨x, hx, r⟩ := ih h
      exact ⟨x, by simp [hx], r⟩

section
variable {P : Program} {ops : Array Oper} {Q : Act → World → Prop} {T : List Nat}

def Closed (ops : Array Oper) (listed : Array Bool) : Prop :=
  ∀ j o, ops[j]? = some o → listed.getD j false = true → ∀ e ∈ o.after, Region.binds .any e = true → listed.getD e.on false = true

theorem tab_spec (hT : tabOk T ops = true) {j : Nat} {o : Oper} (ho : ops[j]? = some o) : T.getD j 0 = orAll T o.after.toList ∧ ∀ e ∈ o.after, Region.binds .any e = true → e.on < j := by
  unfold tabOk at hT
  rw [List.all_eq_true] at hT
  have := hT j (List.mem_range.2 (Array.getElem?_eq_some_iff.1 ho).1)
  simp only [ho, Bool.and_eq_true, beq_iff_eq, List.all_eq_true] at this
  refine ⟨this.1, fun e he hb => ?_⟩
  have := this.2 e (by simpa using he)
  simpa [hb] using this
theorem anc_below (hT : tabOk T ops = true) {j : Nat} {o : Oper} (ho : ops[j]? = some o) {i : Nat} (h : anc T i j = true) :
    ∃ e ∈ o.after, Region.binds .any e = true ∧ (i = e.on ∨ anc T i e.on = true) := by
  unfold anc at h
  rw [(tab_spec hT ho).1] at h
  obtain ⟨e, he, r⟩ := orAll_bit h
  exact ⟨e, by simpa using he, r⟩
theorem closed_anc (hT : tabOk T ops = true) {listed : Array Bool} (hc : Closed ops listed) (hl : ∀ j, listed.getD j false = true → j < ops.size) :
    ∀ (n j : Nat), j < n → listed.getD j false = true → ∀ i, anc T i j = true → listed.getD i false = true := by
  intro n
  induction n with
  | zero => intro j h; omega
  | succ n ih =>
    intro j hj hlj i hi
    obtain ⟨o, ho⟩ : ∃ o, ops[j]? = some o := ⟨_, Array.getElem?_eq_getElem (hl j hlj)⟩
    obtain ⟨e, he, hb, r⟩ := anc_below hT ho hi
    have hle := hc j o ho hlj e he hb
    rcases r with rfl | r
    · exact hle
    · exact ih e.on (by have := (tab_spec hT ho).2 e he hb; omega) hle i r
theorem ready_anc (hT : tabOk T ops = true) {listed : Array Bool} (hc : Closed ops listed) (hl : ∀ j, listed.getD j false = true → j < ops.size)
    {j i : Nat} (hj : j ∈ Region.ready .any ops listed) (hi : anc T i j = true) : listed.getD i false = true := by
  obtain ⟨_, o, ho, hall⟩ := mem_ready.1 hj
  obtain ⟨e, he, hb, r⟩ := anc_below hT ho hi
  have hle := hall e he hb
  rcases r with rfl | r
  · exact hle
  · exact closed_anc hT hc hl _ e.on (Nat.lt_succ_self _) hle i r
theorem unlisted_of {listed : Array Bool} {j : Nat} (h : listed.getD j true = false) : listed.getD j false = false := by
  rcases Nat.lt_or_ge j listed.size with h' | h'
  · simp [h'] at h ⊢; exact h
  · simp [Array.getElem?_eq_none h'] at h
theorem size_of_unlisted {listed : Array Bool} {j : Nat} (h : listed.getD j true = false) : j < listed.size := by
  rcases Nat.lt_or_ge j listed.size with h' | h'
  · exact h'
  · simp [Array.getElem?_eq_none h'] at h
theorem Closed.set {listed : Array Bool} (hc : Closed ops listed) {j : Nat} (hj : j ∈ Region.ready .any ops listed) : Closed ops (listed.setIfInBounds j true) := by
  obtain ⟨_, oj, hoj, hall⟩ := mem_ready.1 hj
  intro k o ho hk e he hb
  refine getD_set_true ?_
  by_cases hkj : j = k
  · subst hkj
    rw [hoj] at ho; cases ho
    exact hall e he hb
  · rw [getD_set_ne false hkj] at hk
    exact hc k o ho hk e he hb
theorem listed_lt_set {listed : Array Bool} (hl : ∀ j, listed.getD j false = true → j < ops.size) {i : Nat} (hi : i < ops.size) :
    ∀ j, (listed.setIfInBounds i true).getD j false = true → j < ops.size := by
  intro j hj
  by_cases h : i = j
  · omega
  · rw [getD_set_ne false h] at hj; exact hl j hj

/-- What was read stands as long as nothing that writes and waits for the reading has been carried out. -/
def Live (T E : List Nat) (hs : List (Nat × (World → Prop))) (listed : Array Bool) (w : World) : Prop :=
  ∀ h ∈ hs, (∀ k ∈ E, listed.getD k false = true → anc T h.1 k = false) → h.2 w

def wpAnyK (P : Program) (ops : Array Oper) (Q : Exit → Act → World → Prop) (T E : List Nat) (hs : List (Nat × (World → Prop))) : Nat → Array Bool → Act → World → Prop
  | 0, listed, a, w => Region.ready .any ops listed = [] ∧ Q .normal a w
  | fuel + 1, listed, a, w =>
    (Region.ready .any ops listed = [] → Q .normal a w) ∧
    ∀ i ∈ Region.ready .any ops listed, wpOp P ops Q i (fun a' w' => Live T E hs (listed.setIfInBounds i true) w' ∧ wpAnyK P ops Q T E hs fuel (listed.setIfInBounds i true) a' w') a w
theorem wpAny_of_K {E : List Nat} {Q : Exit → Act → World → Prop} {hs : List (Nat × (World → Prop))} : ∀ (fuel : Nat) (listed : Array Bool) (a : Act) (w : World), wpAnyK P ops Q T E hs fuel listed a w → wpAny P .any ops Q fuel listed a w
  | 0, _, _, _, h => h
  | fuel + 1, _, _, _, h => ⟨h.1, fun i hi => wpOp_mono (fun a' w' h' => wpAny_of_K fuel _ a' w' h'.2) (h.2 i hi)⟩

theorem Live.more {E : List Nat} {hs : List (Nat × (World → Prop))} {listed : Array Bool} {w : World} (h : Live T E hs listed w) (i : Nat) : Live T E hs (listed.setIfInBounds i true) w :=
  fun x hx hk => h x hx fun k hkE hl => hk k hkE (getD_set_true hl)
theorem Live.less {E : List Nat} {hs : List (Nat × (World → Prop))} {listed : Array Bool} {w : World} {i : Nat} (hi : i ∉ E) (h : Live T E hs (listed.setIfInBounds i true) w) : Live T E hs listed w :=
  fun x hx hk => h x hx fun k hkE hl => hk k hkE (by
    by_cases e : i = k
    · subst e; exact absurd hkE hi
    · rw [getD_set_ne false e] at hl; exact hl)

theorem wpAnyK_first (hT : tabOk T ops = true) {E : List Nat} {hs : List (Nat × (World → Prop))} {I : World → Prop} {i : Nat} {oi : Oper} {v : Value} (hi : ops[i]? = some oi) (hiE : i ∉ E)
    (hsel : ∀ (j : Nat) (o : Oper) cs b, ops[j]? = some o → o.op ≠ .select cs b) :
    ∀ (fuel : Nat) (listed : Array Bool) (a : Act) (w : World),
      (∀ j oj, ops[j]? = some oj → j ≠ i → listed.getD j true = false → (∀ e ∈ oj.after, Region.binds .any e = true → e.on ≠ i) → oi.apart ops oj = true) →
      Closed ops listed → (∀ j, listed.getD j false = true → j < ops.size) → Live T E hs listed w →
      i ∈ Region.ready .any ops listed → YieldsIf P ops I oi v a → I w →
      wpAnyK P ops (QN Q) T E ((i, I) :: hs) fuel (listed.setIfInBounds i true) (a.put oi.dst v) w → wpAnyK P ops (QN Q) T E hs (fuel + 1) listed a w := by
  have hQ : ∀ c (a : Act) w, QN Q (.panic c) (a.put oi.dst v) w → QN Q (.panic c) a w := fun _ _ _ h => h
  have weaken : ∀ (fuel : Nat) (listed : Array Bool) (a : Act) (w : World), wpAnyK P ops (QN Q) T E ((i, I) :: hs) fuel listed a w → wpAnyK P ops (QN Q) T E hs fuel listed a w := by
    intro fuel
    induction fuel with
    | zero => intro listed a w h; exact h
    | succ fuel ih => exact fun listed a w h => ⟨h.1, fun j hj => wpOp_mono (fun a' w' h' => ⟨fun x hx => h'.1 x (List.mem_cons_of_mem _ hx), ih _ a' w' h'.2⟩) (h.2 j hj)⟩
  intro fuel
  induction fuel with
  | zero =>
    intro listed a w _ _ _ hL hr hy hS H
    refine ⟨fun h => (by rw [h] at hr; cases hr), fun j hj => ?_⟩
    by_cases hji : j = i
    · subst hji
      exact hy.wpOp hi hS ⟨hL.more _, H⟩
    · have := ready_mono hj hji
      rw [H.1] at this
      cases this
  | succ fuel ih =>
    intro listed a w hfree hc hl hL hr hy hS H
    refine ⟨fun h => (by rw [h] at hr; cases hr), fun j hj => ?_⟩
    by_cases hji : j = i
    · subst hji
      exact hy.wpOp hi hS ⟨hL.more _, weaken _ _ _ _ H⟩
    · have h1 := H.2 j (ready_mono hj hji)
      obtain ⟨hjun, oj, hoj, hall⟩ := mem_ready.1 hj
      have hiun := (mem_ready.1 hr).1
      have hnot : ∀ e ∈ oj.after, Region.binds .any e = true → e.on ≠ i := fun e he hb heq => by
        have h1 := hall e he hb
        rw [heq, unlisted_of hiun] at h1
        cases h1
      have h2 := wpOp_putIf hoj (hfree j oj hoj hji hjun hnot) (fun cs b => hsel i oi cs b hi) (fun cs b => hsel j oj cs b hoj) hQ hy h1
      have hc' := hc.set hj
      have hl' := listed_lt_set hl (Array.getElem?_eq_some_iff.1 hoj).1
      have hfree' : ∀ k ok, ops[k]? = some ok → k ≠ i → (listed.setIfInBounds j true).getD k true = false →
          (∀ e ∈ ok.after, Region.binds .any e = true → e.on ≠ i) → oi.apart ops ok = true := fun k ok hk hki hun hno => by
        refine hfree k ok hk hki ?_ hno
        by_cases hjk : j = k
        · subst hjk; exact hjun
        · rw [getD_set_ne true hjk] at hun; exact hun
      have hiun' : (listed.setIfInBounds j true).getD i false = false := by rw [getD_set_ne false hji]; exact unlisted_of hiun
      refine wpOp_mono (fun a' w' h3 => ?_) h2
      obtain ⟨hy', hL', H'⟩ := h3
      rw [Array.setIfInBounds_comm _ _ (Ne.symm hji)] at hL'
      have hLj : Live T E ((i, I) :: hs) (listed.setIfInBounds j true) w' := hL'.less hiE
      have hI : I w' := hLj (i, I) (by simp) fun k hkE hk => by
        cases ha : anc T i k with
        | false => rfl
        | true =>
          have := closed_anc hT hc' hl' _ k (Nat.lt_succ_self _) hk i ha
          rw [hiun'] at this; cases this
      have hLhs : Live T E hs (listed.setIfInBounds j true) w' := fun x hx => hLj x (List.mem_cons_of_mem _ hx)
      refine ⟨hLhs, ih (listed.setIfInBounds j true) a' w' hfree' hc' hl' hLhs (ready_mono hr (Ne.symm hji)) hy' hI ?_⟩
      rw [Array.setIfInBounds_comm _ _ hji]
      exact H'

/-! ### one order -/
/-- A step: the operation's number; 0: it reads no memory, 1: it reads, 2: it writes, makes memory or calls; 'keep': the readings that stand behind it. -/
structure Stp where
  i : Nat
  k : Nat
  keep : List Nat
def keepAll (held : Nat → World → Prop) : List Nat → World → Prop
  | [], _ => True
  | r :: l, w => held r w ∧ keepAll held l w
theorem keepAll_mem {held : Nat → World → Prop} {l : List Nat} {w : World} (h : keepAll held l w) {r : Nat} (hr : r ∈ l) : held r w := by
  induction l with
  | nil => cases hr
  | cons x l ih =>
    rcases List.mem_cons.1 hr with rfl | hr
    · exact h.1
    · exact ih h.2 hr
def wpNet (P : Program) (ops : Array Oper) (Q : Act → World → Prop) : List Stp → (Nat → World → Prop) → Act → World → Prop
  | [], _, a, w => Q a w
  | s :: rest, held, a, w =>
    match s.k with
    | 0 => ∃ o v, ops[s.i]? = some o ∧ YieldsIf P ops (fun _ => True) o v a ∧ wpNet P ops Q rest held (a.put o.dst v) w
    | 1 => ∃ o v I, ops[s.i]? = some o ∧ I w ∧ YieldsIf P ops I o v a ∧ wpNet P ops Q rest (fun n => if n = s.i then I else held n) (a.put o.dst v) w
    | _ => ∃ o, ops[s.i]? = some o ∧ Region.wanted o (yielded ops a.tmps) = true ∧ o.wp P a w (fun a' w' => keepAll held s.keep w' ∧ wpNet P ops Q rest held a' w') (fun _ _ _ => False)

def chkNet (T E : List Nat) (ops : Array Oper) : List Nat → List Nat → Array Bool → List Stp → Bool
  | _, _, listed, [] => (Region.ready .any ops listed).isEmpty
  | rs, es, listed, s :: rest =>
    match s.k with
    | 0 => (Region.ready .any ops listed).contains s.i && Region.free .any ops listed s.i && !E.contains s.i && chkNet T E ops rs es (listed.setIfInBounds s.i true) rest
    | 1 => (Region.ready .any ops listed).contains s.i && Region.free .any ops listed s.i && !E.contains s.i && chkNet T E ops (s.i :: rs) es (listed.setIfInBounds s.i true) rest
    | _ => (Region.ready .any ops listed == [s.i]) && E.contains s.i && rs.all (fun r => s.keep.contains r || (s.i :: es).any fun k => anc T r k) && chkNet T E ops rs (s.i :: es) (listed.setIfInBounds s.i true) rest

theorem Oper.wp_Q {o : Oper} {a : Act} {w : World} {K : Act → World → Prop} {Q : Exit → Act → World → Prop} (h : o.wp P a w K (fun _ _ _ => False)) : o.wp P a w K Q := by
  unfold Oper.wp at *
  generalize (execOp a.eval o).run P w = r at *
  cases r with
  | ok n w' =>
    cases n <;> simp only [Oper.upon] at h ⊢ <;> first | exact h | skip
    case enter f args => exact Calls.mono h fun e w'' he => by cases e <;> first | exact he | exact he.elim | (obtain ⟨_, _, he⟩ := he; exact he.elim)
  | halt x w' =>
    cases x <;> simp only [Oper.upon] at h ⊢
    all_goals first | exact h | exact h.elim

theorem net_sound (hT : tabOk T ops = true) (hsel : Region.noSelect ops = true) {E : List Nat} : ∀ (π : List Stp) (rs es : List Nat) (listed : Array Bool) (hs : List (Nat × (World → Prop))) (held : Nat → World → Prop) (a : Act) (w : World),
    chkNet T E ops rs es listed π = true → Closed ops listed → (∀ j, listed.getD j false = true → j < ops.size) → Live T E hs listed w →
    (∀ h ∈ hs, (h.2 = fun _ => True) ∨ (h.1 ∈ rs ∧ h.2 = held h.1)) → (∀ r ∈ rs, listed.getD r false = true) → (∀ k ∈ es, k ∈ E ∧ listed.getD k false = true) →
    wpNet P ops Q π held a w → wpAnyK P ops (QN Q) T E hs π.length listed a w
  | [], rs, es, listed, hs, held, a, w => by
    intro hchk _ _ _ _ _ _ h
    exact ⟨List.isEmpty_iff.1 hchk, h⟩
  | s :: rest, rs, es, listed, hs, held, a, w => by
    intro hchk hc hl hL hrel hrs hes h
    have hsel' := Region.noSelect_spec hsel
    unfold wpNet at h
    unfold chkNet at hchk
    split at h
    · rename_i hk
      rw [hk] at hchk
      simp only [Bool.and_eq_true, Bool.not_eq_true', List.contains_eq_mem, decide_eq_false_iff_not, decide_eq_true_eq] at hchk
      obtain ⟨⟨⟨hready, hfree⟩, hE⟩, hchk⟩ := hchk
      obtain ⟨o, v, ho, hy, h⟩ := h
      refine wpAnyK_first hT ho hE hsel' rest.length listed a w (fun j oj hj hne hun hno => Region.free_spec ho hfree j oj hj hne hun hno) hc hl hL hready hy trivial ?_
      refine net_sound hT hsel rest rs es _ ((s.i, fun _ => True) :: hs) held _ w hchk (hc.set hready) (listed_lt_set hl (Array.getElem?_eq_some_iff.1 ho).1) ?_ ?_ (fun r hr => getD_set_true (hrs r hr)) (fun k hk => ⟨(hes k hk).1, getD_set_true (hes k hk).2⟩) h
      · intro x hx hk
        rcases List.mem_cons.1 hx with rfl | hx
        · trivial
        · exact hL.more _ x hx hk
      · intro x hx
        rcases List.mem_cons.1 hx with rfl | hx
        · exact .inl rfl
        · exact hrel x hx
    · rename_i hk
      rw [hk] at hchk
      simp only [Bool.and_eq_true, Bool.not_eq_true', List.contains_eq_mem, decide_eq_false_iff_not, decide_eq_true_eq] at hchk
      obtain ⟨⟨⟨hready, hfree⟩, hE⟩, hchk⟩ := hchk
      obtain ⟨o, v, I, ho, hI, hy, h⟩ := h
      have hun := (mem_ready.1 hready).1
      refine wpAnyK_first hT ho hE hsel' rest.length listed a w (fun j oj hj hne hun hno => Region.free_spec ho hfree j oj hj hne hun hno) hc hl hL hready hy hI ?_
      refine net_sound hT hsel rest (s.i :: rs) es _ ((s.i, I) :: hs) _ _ w hchk (hc.set hready) (listed_lt_set hl (Array.getElem?_eq_some_iff.1 ho).1) ?_ ?_ ?_ (fun k hk => ⟨(hes k hk).1, getD_set_true (hes k hk).2⟩) h
      · intro x hx hk
        rcases List.mem_cons.1 hx with rfl | hx
        · exact hI
        · exact hL.more _ x hx hk
      · intro x hx
        rcases List.mem_cons.1 hx with rfl | hx
        · exact .inr ⟨by simp, by simp⟩
        · rcases hrel x hx with e | ⟨e1, e2⟩
          · exact .inl e
          · refine .inr ⟨List.mem_cons_of_mem _ e1, ?_⟩
            have hne : x.1 ≠ s.i := fun e => by
              have := hrs x.1 e1
              rw [e, unlisted_of hun] at this; cases this
            rw [if_neg hne]; exact e2
      · intro r hr
        rcases List.mem_cons.1 hr with rfl | hr
        · have := size_of_unlisted hun
          simp [this]
        · exact getD_set_true (hrs r hr)
    · rename_i hk0 hk1
      split at hchk
      · rename_i e; exact absurd e hk0
      · rename_i e; exact absurd e hk1
      simp only [Bool.and_eq_true, beq_iff_eq, List.contains_eq_mem, decide_eq_true_eq, List.all_eq_true, Bool.or_eq_true, List.any_eq_true] at hchk
      obtain ⟨⟨⟨hready, hE⟩, hkeep⟩, hchk⟩ := hchk
      obtain ⟨o, ho, hw, h⟩ := h
      refine ⟨(fun e => by rw [hready] at e; cases e), fun j hj => ?_⟩
      have hj' := hj
      rw [hready] at hj
      obtain rfl : j = s.i := by simpa using hj
      unfold wpOp
      rw [ho]
      simp only [hw, if_true]
      refine .inl (Oper.wp_Q (Go.Oper.wp_mono (fun a' w' hh => ?_) h))
      have hlj : (listed.setIfInBounds s.i true).getD s.i false = true := by
        have := size_of_unlisted (mem_ready.1 hj').1
        simp [this]
      have hLn : Live T E hs (listed.setIfInBounds s.i true) w' := by
        intro x hx hlive
        rcases hrel x hx with e | ⟨e1, e2⟩
        · rw [e]; trivial
        · rw [e2]
          rcases hkeep x.1 e1 with hkp | ⟨k, hk, hak⟩
          · exact keepAll_mem hh.1 hkp
          · exfalso
            have hkl : k ∈ E ∧ (listed.setIfInBounds s.i true).getD k false = true := by
              rcases List.mem_cons.1 hk with rfl | hk
              · exact ⟨hE, hlj⟩
              · exact ⟨(hes k hk).1, getD_set_true (hes k hk).2⟩
            rw [hlive k hkl.1 hkl.2] at hak; cases hak
      refine ⟨hLn, net_sound hT hsel rest rs (s.i :: es) _ hs held a' w' hchk (hc.set hj') (listed_lt_set hl (Array.getElem?_eq_some_iff.1 ho).1) hLn hrel (fun r hr => getD_set_true (hrs r hr)) (fun k hk => ?_) hh.2⟩
      rcases List.mem_cons.1 hk with rfl | hk
      · exact ⟨hE, hlj⟩
      · exact ⟨(hes k hk).1, getD_set_true (hes k hk).2⟩

def effs (π : List Stp) : List Nat := (π.filter fun s => s.k != 0 && s.k != 1).map (·.i)
def chkAll (T : List Nat) (ops : Array Oper) (π : List Stp) : Bool :=
  tabOk T ops && Region.noSelect ops && (π.length == ops.size) && chkNet T (effs π) ops [] [] (Array.replicate ops.size false) π

theorem wp_region_net {id : Nat} {a : Act} {w : World} {Q : Exit → Act → World → Prop} (hm : P.follows .mixedOrders = true) (T : List Nat) (π : List Stp) (hchk : chkAll T ops π = true)
    (h : wpNet P ops (fun a w => Q .normal a w) π (fun _ _ => True) a w.drew) : (Code.region id ops true).wp P Q a w := by
  unfold chkAll at hchk
  simp only [Bool.and_eq_true, beq_iff_eq] at hchk
  obtain ⟨⟨⟨hT, hsel⟩, hlen⟩, hchk⟩ := hchk
  have hrep : ∀ j, (Array.replicate ops.size false).getD j false = true → j < ops.size := by
    intro j hj
    rcases Nat.lt_or_ge j ops.size with h' | h'
    · exact h'
    · simp [h'] at hj
  have hrepf : ∀ j, (Array.replicate ops.size false).getD j false = false := by
    intro j
    rcases Nat.lt_or_ge j ops.size with h' | h'
    · simp [h']
    · simp [h']
  have := net_sound (P := P) (Q := fun a w => Q .normal a w) hT hsel π [] [] (Array.replicate ops.size false) [] (fun _ _ => True) a w.drew hchk
    (fun j o ho hj => by rw [hrepf] at hj; cases hj) hrep (fun x hx => by cases hx) (fun x hx => by cases hx) (fun x hx => by cases hx) (fun x hx => by cases hx) h
  rw [hlen] at this
  have h2 := wp_region_any (id := id) hm (wpAny_of_K _ _ _ _ this)
  exact Code.wp_mono (fun e a w q => by cases e <;> first | exact q | exact q.elim) h2

theorem wpOps_of_net : ∀ (π : List Stp) (held : Nat → World → Prop) (a : Act) (w : World), wpNet P ops Q π held a w → wpOps P ops (QN Q) (π.map (·.i)) a w
  | [], _, _, _, h => h
  | s :: rest, held, a, w, h => by
    rw [List.map_cons, wpOps_cons]
    unfold wpNet at h
    split at h
    · obtain ⟨o, v, ho, hy, h⟩ := h
      exact hy.wpOp ho trivial (wpOps_of_net rest held _ w h)
    · obtain ⟨o, v, I, ho, hI, hy, h⟩ := h
      exact hy.wpOp ho hI (wpOps_of_net rest _ _ w h)
    · obtain ⟨o, ho, hw, h⟩ := h
      unfold wpOp
      rw [ho]
      simp only [hw, if_true]
      exact .inl (Oper.wp_Q (Go.Oper.wp_mono (fun a' w' hh => wpOps_of_net rest held a' w' hh.2) h))
theorem wp_region_seq {id : Nat} {a : Act} {w : World} {Q : Exit → Act → World → Prop} (π : List Stp) (hπ : π.map (·.i) = List.range ops.size)
    (h : wpNet P ops (fun a w => Q .normal a w) π (fun _ _ => True) a w) : (Code.region id ops false).wp P Q a w := by
  have := wpOps_of_net π _ a w h
  rw [hπ] at this
  exact Code.wp_mono (fun e a w q => by cases e <;> first | exact q | exact q.elim) (wp_region (id := id) this)
end
end Go.Net
