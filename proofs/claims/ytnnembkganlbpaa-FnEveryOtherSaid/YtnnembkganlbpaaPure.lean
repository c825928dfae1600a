/- Lists of items in the order of their keys: where a key stands, putting in, taking out; and trees of nodes over such lists. Plain Lean, no program in sight. -/
namespace Go.Bt

structure It where
  key : Int
  val : Int
  deriving DecidableEq

def Srt (l : List It) : Prop := l.Pairwise fun a b => a.key < b.key
/-- how many items stand before a key -/
def lb : List It → Int → Nat
  | [], _ => 0
  | x :: l, k => if x.key < k then lb l k + 1 else 0
/-- how many items stand before a key or have it -/
def ub : List It → Int → Nat
  | [], _ => 0
  | x :: l, k => if k < x.key then 0 else ub l k + 1
def fnd (l : List It) (k : Int) : Bool := match l[lb l k]? with | some x => x.key == k | none => false
def put (l : List It) (x : It) : List It := l.take (lb l x.key) ++ x :: l.drop (if fnd l x.key then lb l x.key + 1 else lb l x.key)
def rem (l : List It) (k : Int) : List It := l.filter fun x => x.key != k
def get (l : List It) (k : Int) : Option It := l.find? fun x => x.key == k

theorem lb_le (l : List It) (k : Int) : lb l k ≤ l.length := by
  induction l with
  | nil => simp [lb]
  | cons x l ih => simp only [lb]; split <;> simp <;> omega
theorem ub_le (l : List It) (k : Int) : ub l k ≤ l.length := by
  induction l with
  | nil => simp [ub]
  | cons x l ih => simp only [ub]; split <;> simp <;> omega
theorem Srt.tail {x : It} {l : List It} (h : Srt (x :: l)) : Srt l := (List.pairwise_cons.1 h).2
theorem Srt.head {x : It} {l : List It} (h : Srt (x :: l)) : ∀ y ∈ l, x.key < y.key := (List.pairwise_cons.1 h).1
theorem srt_append {a b : List It} : Srt (a ++ b) ↔ Srt a ∧ Srt b ∧ ∀ x ∈ a, ∀ y ∈ b, x.key < y.key := List.pairwise_append
theorem lb_lt {l : List It} (h : Srt l) {k : Int} {i : Nat} {x : It} (hx : l[i]? = some x) : x.key < k ↔ i < lb l k := by
  induction l generalizing i with
  | nil => simp at hx
  | cons y l ih =>
    cases i with
    | zero =>
      simp at hx; subst hx
      simp only [lb]; split <;> simp_all
    | succ i =>
      simp at hx
      have hy := h.head x (List.mem_of_getElem? hx)
      have := ih h.tail hx
      simp only [lb]; split
      · omega
      · constructor
        · intro; omega
        · intro hh; omega
theorem ub_lt {l : List It} (h : Srt l) {k : Int} {i : Nat} {x : It} (hx : l[i]? = some x) : x.key ≤ k ↔ i < ub l k := by
  induction l generalizing i with
  | nil => simp at hx
  | cons y l ih =>
    cases i with
    | zero =>
      simp at hx; subst hx
      simp only [ub]; split
      · constructor <;> intro <;> omega
      · constructor <;> intro <;> omega
    | succ i =>
      simp at hx
      have hy := h.head x (List.mem_of_getElem? hx)
      have := ih h.tail hx
      simp only [ub]; split
      · constructor <;> intro <;> omega
      · omega
theorem fnd_iff {l : List It} (h : Srt l) (k : Int) : fnd l k = true ↔ ∃ x ∈ l, x.key = k := by
  unfold fnd
  constructor
  · intro hh
    split at hh
    · rename_i x hx
      exact ⟨x, List.mem_of_getElem? hx, by simpa using hh⟩
    · cases hh
  · rintro ⟨x, hx, rfl⟩
    obtain ⟨i, hi⟩ := List.getElem?_of_mem hx
    have h1 := (lb_lt h (k := x.key) hi)
    have hi' : i < l.length := by
      rcases Nat.lt_or_ge i l.length with h | h
      · exact h
      · rw [List.getElem?_eq_none h] at hi; cases hi
    have hle : lb l x.key ≤ i := by
      rcases Nat.lt_or_ge i (lb l x.key) with hh | hh
      · have := h1.2 hh; omega
      · exact hh
    have hlt : lb l x.key < l.length := by omega
    have hg : l[lb l x.key]? = some l[lb l x.key] := by simp [hlt]
    have h2 := lb_lt h (k := x.key) hg
    have : ¬ l[lb l x.key].key < x.key := by rw [h2]; omega
    rcases Nat.lt_or_ge (lb l x.key) i with hh | hh
    · have h3 := List.pairwise_iff_getElem.1 h (lb l x.key) i hlt hi' hh
      have h4 : l[i] = x := by simpa [hi'] using hi
      rw [h4] at h3; omega
    · have : i = lb l x.key := by omega
      subst this
      rw [hi]; simp
/-- what a binary search finds: the upper bound, and whether the one ahead of it has the key -/
theorem ub_eq {l : List It} (h : Srt l) (k : Int) : ub l k = if fnd l k then lb l k + 1 else lb l k := by
  induction l with
  | nil => rfl
  | cons x l ih =>
    have ih' := ih h.tail
    by_cases h1 : x.key < k
    · have e1 : lb (x :: l) k = lb l k + 1 := by simp [lb, h1]
      have e2 : ub (x :: l) k = ub l k + 1 := by simp only [ub]; rw [if_neg (by omega)]
      have e3 : fnd (x :: l) k = fnd l k := by simp [fnd, e1]
      rw [e1, e2, e3, ih']; split <;> rfl
    · have e1 : lb (x :: l) k = 0 := by simp [lb, h1]
      by_cases h2 : x.key = k
      · have e3 : fnd (x :: l) k = true := by simp [fnd, e1, h2]
        rw [e1, e3, if_pos rfl]
        simp only [ub]; rw [if_neg (by omega)]
        congr 1
        cases l with
        | nil => rfl
        | cons y l => simp only [ub]; rw [if_pos (by have := h.head y (by simp); omega)]
      · have e3 : fnd (x :: l) k = false := by simp [fnd, e1, h2]
        rw [e1, e3, if_neg (by simp)]
        simp only [ub]; rw [if_pos (by omega)]
theorem lb_eq_ub {l : List It} (h : Srt l) (k : Int) : lb l k = if fnd l k then ub l k - 1 else ub l k := by
  rw [ub_eq h]; split <;> rfl

/-! ### putting in -/
theorem put_nil (x : It) : put [] x = [x] := rfl
theorem put_cons (y : It) (l : List It) (x : It) : put (y :: l) x = if y.key < x.key then y :: put l x else if y.key = x.key then x :: l else x :: y :: l := by
  by_cases h1 : y.key < x.key
  · have e1 : lb (y :: l) x.key = lb l x.key + 1 := by simp [lb, h1]
    have e3 : fnd (y :: l) x.key = fnd l x.key := by simp [fnd, e1]
    rw [if_pos h1]
    unfold put
    rw [e1, e3]
    split <;> simp
  · have e1 : lb (y :: l) x.key = 0 := by simp [lb, h1]
    rw [if_neg h1]
    by_cases h2 : y.key = x.key
    · have e3 : fnd (y :: l) x.key = true := by simp [fnd, e1, h2]
      rw [if_pos h2]; unfold put; rw [e1, e3]; simp
    · have e3 : fnd (y :: l) x.key = false := by simp [fnd, e1, h2]
      rw [if_neg h2]; unfold put; rw [e1, e3]; simp
theorem mem_put {l : List It} (h : Srt l) {x y : It} : y ∈ put l x ↔ y = x ∨ (y ∈ l ∧ y.key ≠ x.key) := by
  induction l with
  | nil => simp [put_nil]
  | cons z l ih =>
    have ih' := ih h.tail
    have hz := h.head
    rw [put_cons]
    split
    · rename_i h1
      rw [List.mem_cons, ih', List.mem_cons]
      constructor
      · rintro (rfl | rfl | ⟨a, b⟩)
        · exact .inr ⟨.inl rfl, by omega⟩
        · exact .inl rfl
        · exact .inr ⟨.inr a, b⟩
      · rintro (rfl | ⟨rfl | a, b⟩)
        · exact .inr (.inl rfl)
        · exact .inl rfl
        · exact .inr (.inr ⟨a, b⟩)
    · split
      · rename_i h1 h2
        rw [List.mem_cons, List.mem_cons]
        constructor
        · rintro (rfl | a)
          · exact .inl rfl
          · exact .inr ⟨.inr a, by have := hz y a; omega⟩
        · rintro (rfl | ⟨rfl | a, b⟩)
          · exact .inl rfl
          · exact absurd h2 b
          · exact .inr a
      · rename_i h1 h2
        rw [List.mem_cons, List.mem_cons]
        constructor
        · rintro (rfl | rfl | a)
          · exact .inl rfl
          · exact .inr ⟨.inl rfl, h2⟩
          · exact .inr ⟨.inr a, by have := hz y a; omega⟩
        · rintro (rfl | ⟨rfl | a, b⟩)
          · exact .inl rfl
          · exact .inr (.inl rfl)
          · exact .inr (.inr a)
theorem srt_put {l : List It} (h : Srt l) (x : It) : Srt (put l x) := by
  induction l with
  | nil => simp [put_nil, Srt]
  | cons z l ih =>
    have ih' := ih h.tail
    rw [put_cons]
    split
    · rename_i h1
      refine List.pairwise_cons.2 ⟨fun y hy => ?_, ih'⟩
      rcases (mem_put h.tail).1 hy with rfl | ⟨a, _⟩
      · exact h1
      · exact h.head y a
    · split
      · rename_i h1 h2
        refine List.pairwise_cons.2 ⟨fun y hy => ?_, h.tail⟩
        have := h.head y hy; omega
      · rename_i h1 h2
        refine List.pairwise_cons.2 ⟨fun y hy => ?_, h⟩
        rcases List.mem_cons.1 hy with rfl | a
        · omega
        · have := h.head y a; omega
theorem length_put (l : List It) (x : It) : (put l x).length = if fnd l x.key then l.length else l.length + 1 := by
  induction l with
  | nil => simp [put_nil, fnd]
  | cons y l ih =>
    rw [put_cons]
    by_cases h1 : y.key < x.key
    · have e1 : lb (y :: l) x.key = lb l x.key + 1 := by simp [lb, h1]
      have e3 : fnd (y :: l) x.key = fnd l x.key := by simp [fnd, e1]
      rw [if_pos h1, e3, List.length_cons, ih]; split <;> simp
    · have e1 : lb (y :: l) x.key = 0 := by simp [lb, h1]
      rw [if_neg h1]
      by_cases h2 : y.key = x.key
      · have e3 : fnd (y :: l) x.key = true := by simp [fnd, e1, h2]
        rw [if_pos h2, e3]; simp
      · have e3 : fnd (y :: l) x.key = false := by simp [fnd, e1, h2]
        rw [if_neg h2, e3]; simp
theorem put_append_right {a b : List It} {x : It} (h : ∀ y ∈ a, y.key < x.key) : put (a ++ b) x = a ++ put b x := by
  induction a with
  | nil => rfl
  | cons y a ih =>
    rw [List.cons_append, put_cons, if_pos (h y (by simp)), ih fun z hz => h z (by simp [hz])]; rfl
theorem put_append_left {a b : List It} {x : It} (h : ∀ y ∈ b, x.key < y.key) : put (a ++ b) x = put a x ++ b := by
  induction a with
  | nil =>
    rw [List.nil_append, put_nil]
    cases b with
    | nil => rfl
    | cons y b => rw [put_cons, if_neg (by have := h y (by simp); omega), if_neg (by have := h y (by simp); omega)]; rfl
  | cons y a ih =>
    rw [List.cons_append, put_cons, put_cons, ih]
    split
    · rfl
    · split <;> rfl
theorem get_iff {l : List It} (h : Srt l) {k : Int} {x : It} : get l k = some x ↔ x ∈ l ∧ x.key = k := by
  induction l with
  | nil => simp [get]
  | cons y l ih =>
    have ih' := ih h.tail
    unfold get at ih' ⊢
    rw [List.find?_cons]
    by_cases e : y.key = k
    · simp only [e, BEq.rfl, Option.some.injEq, List.mem_cons]
      constructor
      · rintro rfl; exact ⟨.inl rfl, e⟩
      · rintro ⟨rfl | a, b⟩
        · rfl
        · have := h.head x a; omega
    · have : (y.key == k) = false := by simpa using e
      simp only [this, ih', List.mem_cons]
      constructor
      · rintro ⟨a, b⟩; exact ⟨.inr a, b⟩
      · rintro ⟨rfl | a, b⟩
        · exact absurd b e
        · exact ⟨a, b⟩
theorem get_none {l : List It} {k : Int} : get l k = none ↔ ∀ x ∈ l, x.key ≠ k := by
  simp [get]
theorem get_eq {l : List It} (h : Srt l) (k : Int) : get l k = if fnd l k then l[lb l k]? else none := by
  by_cases hf : fnd l k = true
  · rw [if_pos hf]
    unfold fnd at hf
    split at hf
    · rename_i x hx
      rw [hx]
      exact (get_iff h).2 ⟨List.mem_of_getElem? hx, by simpa using hf⟩
    · cases hf
  · rw [if_neg hf, get_none]
    intro x hx e
    exact hf ((fnd_iff h k).2 ⟨x, hx, e⟩)
theorem get_append {a b : List It} {k : Int} : get (a ++ b) k = (get a k).or (get b k) := by
  simp [get, List.find?_append]
theorem get_none_of_lt {a : List It} {k : Int} (h : ∀ y ∈ a, y.key < k) : get a k = none := get_none.2 fun x hx => by have := h x hx; omega
theorem get_none_of_gt {a : List It} {k : Int} (h : ∀ y ∈ a, k < y.key) : get a k = none := get_none.2 fun x hx => by have := h x hx; omega
theorem rem_append (a b : List It) (k : Int) : rem (a ++ b) k = rem a k ++ rem b k := by simp [rem]
theorem rem_of_ne {a : List It} {k : Int} (h : ∀ y ∈ a, y.key ≠ k) : rem a k = a := by
  unfold rem
  rw [List.filter_eq_self]
  intro x hx; simpa using h x hx
theorem srt_rem {l : List It} (h : Srt l) (k : Int) : Srt (rem l k) := List.Pairwise.filter _ h
theorem rem_eq {l : List It} (h : Srt l) (k : Int) : rem l k = if fnd l k then l.eraseIdx (lb l k) else l := by
  by_cases hf : fnd l k = true
  · rw [if_pos hf]
    induction l with
    | nil => rfl
    | cons y l ih =>
      by_cases h1 : y.key < k
      · have e1 : lb (y :: l) k = lb l k + 1 := by simp [lb, h1]
        have e3 : fnd (y :: l) k = fnd l k := by simp [fnd, e1]
        rw [e1, List.eraseIdx_cons_succ, ← ih h.tail (e3 ▸ hf)]
        have : (y.key != k) = true := by rw [bne_iff_ne]; omega
        simp [rem, this]
      · have e1 : lb (y :: l) k = 0 := by simp [lb, h1]
        have h2 : y.key = k := by
          simpa [fnd, e1] using hf
        rw [e1]
        have : (y.key != k) = false := by simp [h2]
        simp only [rem, List.filter_cons, this, List.eraseIdx_cons_zero]
        exact rem_of_ne fun z hz => by have := h.head z hz; omega
  · rw [if_neg hf]
    exact rem_of_ne fun z hz e => hf ((fnd_iff h k).2 ⟨z, hz, e⟩)
theorem length_rem {l : List It} (h : Srt l) (k : Int) : (rem l k).length = if fnd l k then l.length - 1 else l.length := by
  rw [rem_eq h]
  by_cases hf : fnd l k = true
  · rw [if_pos hf, if_pos hf]
    have : lb l k < l.length := by
      unfold fnd at hf
      split at hf
      · rename_i x hx
        rcases Nat.lt_or_ge (lb l k) l.length with h | h
        · exact h
        · rw [List.getElem?_eq_none h] at hx; cases hx
      · cases hf
    rw [List.length_eraseIdx, if_pos this]
  · rw [if_neg hf, if_neg hf]
theorem fnd_lt {l : List It} {k : Int} (hf : fnd l k = true) : ∃ x, l[lb l k]? = some x ∧ x.key = k ∧ lb l k < l.length := by
  unfold fnd at hf
  split at hf
  · rename_i x hx
    refine ⟨x, hx, by simpa using hf, ?_⟩
    rcases Nat.lt_or_ge (lb l k) l.length with h | h
    · exact h
    · rw [List.getElem?_eq_none h] at hx; cases hx
  · cases hf
end Go.Bt
