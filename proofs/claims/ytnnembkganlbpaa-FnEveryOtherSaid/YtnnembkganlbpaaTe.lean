/- Trees of items by height: what they hold in order, and what cutting, joining and moving leave of it. Plain lists. -/
import Derived.Test.YtnnembkganlbpaaPure
namespace Go.Bt
inductive Tr where
  | mk (its : List It) (kids : List Tr)
def Tr.its : Tr → List It | .mk a _ => a
def Tr.kids : Tr → List Tr | .mk _ b => b
def post : List It → List (List It) → List It
  | x :: its, f :: fs => x :: (f ++ post its fs)
  | _, _ => []
def weave (its : List It) : List (List It) → List It
  | [] => []
  | f :: fs => f ++ post its fs
def flat : Nat → Tr → List It
  | 0, t => t.its
  | h + 1, t => weave t.its (t.kids.map (flat h))
def Ok (mn mx : Nat) : Nat → Tr → Prop
  | 0, t => t.kids = []
  | h + 1, t => t.kids.length = t.its.length + 1 ∧ ∀ k ∈ t.kids, mn ≤ k.its.length ∧ k.its.length ≤ mx ∧ Ok mn mx h k

theorem weave_cons (x : It) (its : List It) (f : List It) {fs : List (List It)} (h : fs ≠ []) : weave (x :: its) (f :: fs) = f ++ x :: weave its fs := by
  cases fs with
  | nil => exact absurd rfl h
  | cons g fs => rfl
theorem weave_one (f : List It) : weave [] [f] = f := by simp [weave, post]
theorem ne_nil_of_len {α : Type} {l : List α} {n : Nat} (h : l.length = n + 1) : l ≠ [] := by intro e; simp [e] at h
theorem ne_of_len {α : Type} {l : List α} (h : l.length ≠ 0) : l ≠ [] := by rintro rfl; exact h rfl
theorem weave_item {its : List It} {fs : List (List It)} (hl : fs.length = its.length + 1) {i : Nat} {x : It} (hx : its[i]? = some x) :
    weave its fs = weave (its.take i) (fs.take (i + 1)) ++ x :: weave (its.drop (i + 1)) (fs.drop (i + 1)) := by
  induction its generalizing fs i with
  | nil => simp at hx
  | cons y its ih =>
    match fs, hl with
    | f :: fs, hl =>
      have hl' : fs.length = its.length + 1 := by simpa using hl
      have hne := ne_nil_of_len hl'
      rw [weave_cons y its f hne]
      cases i with
      | zero =>
        simp at hx; subst hx
        simp [weave_one]
      | succ i =>
        simp at hx
        rw [ih hl' hx, List.take_succ_cons, List.take_succ_cons, List.drop_succ_cons, List.drop_succ_cons, weave_cons _ _ _ (ne_of_len (by rw [List.length_take]; omega))]
        simp
theorem weave_join {i1 i2 : List It} {f1 f2 : List (List It)} (x : It) (h1 : f1.length = i1.length + 1) (h2 : f2.length = i2.length + 1) : weave (i1 ++ x :: i2) (f1 ++ f2) = weave i1 f1 ++ x :: weave i2 f2 := by
  rw [weave_item (i := i1.length) (x := x) (by simp; omega) (by simp)]
  have e1 : (i1 ++ x :: i2).drop (i1.length + 1) = i2 := by
    rw [List.drop_append]; simp
  have e2 : (f1 ++ f2).take (i1.length + 1) = f1 := by rw [← h1, List.take_left]
  have e3 : (f1 ++ f2).drop (i1.length + 1) = f2 := by rw [← h1, List.drop_left]
  rw [List.take_left, e1, e2, e3]
theorem weave_sub {its : List It} {fs : List (List It)} (hl : fs.length = its.length + 1) : its.Sublist (weave its fs) := by
  induction its generalizing fs with
  | nil => exact List.nil_sublist _
  | cons y its ih =>
    match fs, hl with
    | f :: fs, hl =>
      have hl' : fs.length = its.length + 1 := by simpa using hl
      rw [weave_cons y its f (ne_nil_of_len hl')]
      exact List.Sublist.trans ((ih hl').cons_cons y) (List.sublist_append_right f _)
/-- the place of one kid -/
theorem weave_kid {its : List It} {fs : List (List It)} (hl : fs.length = its.length + 1) {i : Nat} {f : List It} (hf : fs[i]? = some f) :
    ∃ A B, weave its fs = A ++ (f ++ B) ∧ (∀ f', weave its (fs.set i f') = A ++ (f' ++ B)) ∧
      (Srt (weave its fs) → ∀ k, (∀ j y, j < i → its[j]? = some y → y.key < k) → ∀ a ∈ A, a.key < k) ∧
      (Srt (weave its fs) → ∀ k, (∀ y, its[i]? = some y → k < y.key) → ∀ b ∈ B, k < b.key) ∧
      (i = 0 → A = []) ∧ (i = its.length → B = []) := by
  induction its generalizing fs i with
  | nil =>
    match fs, hl with
    | [g], _ =>
      have e : i = 0 := by
        rcases Nat.eq_zero_or_pos i with h | h
        · exact h
        · rw [List.getElem?_eq_none (by simp; omega)] at hf; cases hf
      subst e
      simp at hf; subst hf
      exact ⟨[], [], by simp [weave_one], by simp [weave_one], by simp, by simp, by simp, by simp⟩
  | cons y its ih =>
    match fs, hl with
    | g :: fs, hl =>
      have hl' : fs.length = its.length + 1 := by simpa using hl
      have hne := ne_nil_of_len hl'
      rw [weave_cons y its g hne]
      cases i with
      | zero =>
        simp at hf; subst hf
        refine ⟨[], y :: weave its fs, by simp, fun f' => ?_, by simp, ?_, by simp, by simp⟩
        · rw [List.set_cons_zero, weave_cons y its f' hne]; simp
        · intro hs k hk b hb
          have h0 := hk y (by simp)
          have := (srt_append.1 hs).2.1
          rcases List.mem_cons.1 hb with rfl | hb
          · exact h0
          · have := this.head b hb; omega
      | succ i =>
        simp at hf
        obtain ⟨A, B, e1, e2, e3, e4, _, e6⟩ := ih hl' hf
        refine ⟨g ++ y :: A, B, by rw [e1]; simp, fun f' => ?_, ?_, ?_, by simp, by simpa using e6⟩
        · rw [List.set_cons_succ, weave_cons y its g (ne_of_len (by rw [List.length_set]; omega)), e2]; simp
        · intro hs k hk a ha
          have hsa := srt_append.1 hs
          have h0 := hk 0 y (by omega) (by simp)
          rcases List.mem_append.1 ha with ha | ha
          · have := hsa.2.2 a ha y (by simp); omega
          · rcases List.mem_cons.1 ha with rfl | ha
            · exact h0
            · exact e3 hsa.2.1.tail k (fun j z hj hz => hk (j + 1) z (by omega) (by simpa using hz)) a ha
        · intro hs k hk
          exact e4 (srt_append.1 hs).2.1.tail k (fun z hz => hk z (by simpa using hz))
/-- a kid is cut in two -/
theorem weave_cut {its : List It} {fs : List (List It)} (hl : fs.length = its.length + 1) {i : Nat} {f1 f2 : List It} {y : It} (hf : fs[i]? = some (f1 ++ y :: f2)) :
    weave (its.insertIdx i y) ((fs.set i f1).insertIdx (i + 1) f2) = weave its fs := by
  induction its generalizing fs i with
  | nil =>
    match fs, hl with
    | [g], _ =>
      have e : i = 0 := by
        rcases Nat.eq_zero_or_pos i with h | h
        · exact h
        · rw [List.getElem?_eq_none (by simp; omega)] at hf; cases hf
      subst e
      simp at hf; subst hf
      simp [weave, post]
  | cons x its ih =>
    match fs, hl with
    | g :: fs, hl =>
      have hl' : fs.length = its.length + 1 := by simpa using hl
      have hne := ne_nil_of_len hl'
      cases i with
      | zero =>
        simp at hf; subst hf
        rw [weave_cons x its _ hne, List.set_cons_zero, List.insertIdx_zero, List.insertIdx_succ_cons, List.insertIdx_zero]
        show f1 ++ (y :: (f2 ++ post (x :: its) fs)) = _
        rw [show post (x :: its) fs = x :: weave its fs by cases fs with | nil => exact absurd rfl hne | cons _ _ => rfl]
        simp
      | succ i =>
        simp at hf
        rw [weave_cons x its g hne, List.set_cons_succ, List.insertIdx_succ_cons, List.insertIdx_succ_cons, weave_cons, ih hl' hf]
        intro e
        have := congrArg List.length e
        have hi : i < fs.length := (List.getElem?_eq_some_iff.1 hf).1
        rw [List.length_insertIdx_of_le_length (by simp; omega)] at this
        simp at this
/-- two kids and what is between them are dealt anew -/
theorem weave_pair {its : List It} {fs : List (List It)} (hl : fs.length = its.length + 1) {i : Nat} {a b a' b' : List It} {x x' : It} (hx : its[i]? = some x) (ha : fs[i]? = some a) (hb : fs[i + 1]? = some b)
    (he : a' ++ x' :: b' = a ++ x :: b) : weave (its.set i x') ((fs.set i a').set (i + 1) b') = weave its fs := by
  induction its generalizing fs i with
  | nil => simp at hx
  | cons y its ih =>
    match fs, hl with
    | g :: fs, hl =>
      have hl' : fs.length = its.length + 1 := by simpa using hl
      have hne := ne_nil_of_len hl'
      cases i with
      | zero =>
        simp at hx ha hb
        subst hx; subst ha
        match fs, hne with
        | g2 :: fs, _ =>
          simp at hb; subst hb
          simp only [List.set_cons_zero, List.set_cons_succ]
          rw [weave_cons _ _ _ (by simp), weave_cons _ _ _ (by simp)]
          show a' ++ x' :: (b' ++ post its fs) = g ++ y :: (g2 ++ post its fs)
          have := congrArg (· ++ post its fs) he
          simpa using this
      | succ i =>
        simp at hx ha hb
        rw [weave_cons y its g hne, List.set_cons_succ, List.set_cons_succ, List.set_cons_succ, weave_cons _ _ _ (ne_of_len (by rw [List.length_set, List.length_set]; omega)), ih hl' hx ha (by simpa using hb)]
/-- two kids and what is between them become one -/
theorem weave_merge {its : List It} {fs : List (List It)} (hl : fs.length = its.length + 1) {i : Nat} {a b : List It} {x : It} (hx : its[i]? = some x) (ha : fs[i]? = some a) (hb : fs[i + 1]? = some b) :
    weave (its.eraseIdx i) ((fs.set i (a ++ x :: b)).eraseIdx (i + 1)) = weave its fs := by
  induction its generalizing fs i with
  | nil => simp at hx
  | cons y its ih =>
    match fs, hl with
    | g :: fs, hl =>
      have hl' : fs.length = its.length + 1 := by simpa using hl
      have hne := ne_nil_of_len hl'
      cases i with
      | zero =>
        simp at hx ha hb
        subst hx; subst ha
        match fs, hne with
        | g2 :: fs, _ =>
          simp at hb; subst hb
          rw [weave_cons _ _ _ (by simp)]
          simp [weave]
      | succ i =>
        simp at hx ha hb
        have hi : i + 1 < fs.length := (List.getElem?_eq_some_iff.1 (by simpa using hb : fs[i + 1]? = some b)).1
        rw [weave_cons y its g hne, List.set_cons_succ, List.eraseIdx_cons_succ, List.eraseIdx_cons_succ, weave_cons _ _ _ (ne_of_len (by rw [List.length_eraseIdx, List.length_set]; split <;> omega)), ih hl' hx ha (by simpa using hb)]

/-! ### sorted lists with a middle -/
theorem put_mid {A B : List It} {x y : It} (h : ∀ a ∈ A, a.key < x.key) (e : y.key = x.key) : put (A ++ y :: B) x = A ++ x :: B := by
  rw [put_append_right h, put_cons, if_neg (by omega), if_pos e]
theorem put_kid {A f B : List It} {x : It} (h1 : ∀ a ∈ A, a.key < x.key) (h2 : ∀ b ∈ B, x.key < b.key) : put (A ++ (f ++ B)) x = A ++ (put f x ++ B) := by
  rw [put_append_right h1, put_append_left h2]
theorem get_mid {A B : List It} {k : Int} {y : It} (h : ∀ a ∈ A, a.key < k) (e : y.key = k) : get (A ++ y :: B) k = some y := by
  rw [get_append, get_none_of_lt h]
  simp [get, e]
theorem get_kid {A f B : List It} {k : Int} (h1 : ∀ a ∈ A, a.key < k) (h2 : ∀ b ∈ B, k < b.key) : get (A ++ (f ++ B)) k = get f k := by
  rw [get_append, get_append, get_none_of_lt h1, get_none_of_gt h2]
  simp
theorem rem_kid {A f B : List It} {k : Int} (h1 : ∀ a ∈ A, a.key < k) (h2 : ∀ b ∈ B, k < b.key) : rem (A ++ (f ++ B)) k = A ++ (rem f k ++ B) := by
  rw [rem_append, rem_append, rem_of_ne (fun y hy => by have := h1 y hy; omega), rem_of_ne (a := B) (fun y hy => by have := h2 y hy; omega)]
theorem rem_mid {A B : List It} {k : Int} {y : It} (h : Srt (A ++ y :: B)) (e : y.key = k) : rem (A ++ y :: B) k = A ++ B := by
  obtain ⟨_, hb, hab⟩ := srt_append.1 h
  rw [rem_append, rem_of_ne (fun z hz => by have := hab z hz y (by simp); omega)]
  have : rem (y :: B) k = rem B k := by simp [rem, e]
  rw [this, rem_of_ne (fun z hz => by have := hb.head z hz; omega)]
theorem fnd_at {l : List It} {k : Int} (h : fnd l k = true) : ∃ x, l[lb l k]? = some x ∧ x.key = k := let ⟨x, a, b, _⟩ := fnd_lt h; ⟨x, a, b⟩
theorem lb_gt {l : List It} (hS : Srt l) {k : Int} (hf : fnd l k = false) {y : It} (hy : l[lb l k]? = some y) : k < y.key := by
  have h1 : ¬ y.key < k := by rw [lb_lt hS hy]; omega
  have h2 : y.key ≠ k := by
    intro e
    unfold fnd at hf
    rw [hy] at hf
    simp [e] at hf
  omega
theorem lb_below {l : List It} (hS : Srt l) {k : Int} {j : Nat} {y : It} (hj : j < lb l k) (hy : l[j]? = some y) : y.key < k := (lb_lt hS hy).2 hj
end Go.Bt
