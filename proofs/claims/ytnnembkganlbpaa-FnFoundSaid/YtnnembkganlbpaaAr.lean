/- Rows of cells: what is left of them behind inserting, taking out, cutting off. Plain lists. -/
import Derived.Test.YtnnembkganlbpaaDe
namespace Go.Proofs.Ytnnembkganlbpaa
open Go Go.Sl Go.Wk Go.Bt Go.RowKit

theorem splice_get {cs : Array Value} {o : Nat} {vs : List Value} (h : o + vs.length ≤ cs.size) (j : Nat) :
    (splice cs o vs).toList[j]? = if j < o then cs.toList[j]? else if j < o + vs.length then vs[j - o]? else cs.toList[j]? := by
  have hsz : cs.toList.length = cs.size := Array.length_toList
  simp only [splice]
  rw [List.getElem?_append, List.getElem?_append]
  simp only [List.length_append, List.length_take, hsz, List.getElem?_take, List.getElem?_drop]
  by_cases h1 : j < o
  · have : j < min o cs.size := by omega
    have : j < min o cs.size + vs.length := by omega
    simp [*]
  · by_cases h2 : j < o + vs.length
    · have a1 : ¬ j < min o cs.size := by omega
      have a2 : j < min o cs.size + vs.length := by omega
      have a3 : j - min o cs.size = j - o := by omega
      simp [*]
    · have a2 : ¬ j < min o cs.size + vs.length := by omega
      simp only [h1, h2, if_false, a2]
      congr 1; omega
theorem take_get {l xs : List Value} {n : Nat} (h : l.take n = xs) (j : Nat) (hj : j < n) : l[j]? = xs[j]? := by
  rw [← h, List.getElem?_take, if_pos hj]

/-- the cells behind inserting c at place i, by an append, a move up and a store -/
theorem ins_cells {cur : Array Value} {xs z c : List Value} {i n sz cap o : Nat} (hsz : cur.size = cap * sz) (hx : xs.length = n * sz) (hz : z.length = sz) (hc : c.length = sz) (hcap : n + 1 ≤ cap) (hi : i ≤ n)
    (ho : o = if cap = i + 1 then 0 else (i + 1) * sz) (htk : cur.toList.take ((n + 1) * sz) = xs ++ z) :
    (splice (splice cur o (xs.drop (i * sz))) (i * sz) c).toList.take ((n + 1) * sz) = xs.take (i * sz) ++ c ++ xs.drop (i * sz) := by
  have h1 : (n + 1) * sz ≤ cap * sz := Nat.mul_le_mul_right _ hcap
  have h2 : i * sz ≤ n * sz := Nat.mul_le_mul_right _ hi
  have e1 : (n + 1) * sz = n * sz + sz := Nat.succ_mul n sz
  have e2 : (i + 1) * sz = i * sz + sz := Nat.succ_mul i sz
  have hl : (xs.drop (i * sz)).length = n * sz - i * sz := by rw [List.length_drop, hx]
  have ho2 : o + (xs.drop (i * sz)).length ≤ cur.size := by
    rw [hl, hsz, ho]; split <;> omega
  have hoz : (xs.drop (i * sz)).length ≠ 0 → o = (i + 1) * sz := by
    intro hne
    rw [ho]; split
    · rename_i hh
      have : n = i := by omega
      subst this; omega
    · rfl
  have hs1 : (splice cur o (xs.drop (i * sz))).size = cur.size := splice_size ho2
  have ho3 : i * sz + c.length ≤ (splice cur o (xs.drop (i * sz))).size := by rw [hs1, hsz, hc]; omega
  have hlen : cur.toList.length = cap * sz := by rw [Array.length_toList, hsz]
  apply List.ext_getElem?
  intro j
  rw [List.getElem?_take]
  by_cases hj : j < (n + 1) * sz
  · rw [if_pos hj, splice_get ho3, hc]
    by_cases a1 : j < i * sz
    · have g1 := take_get htk j hj
      rw [List.getElem?_append_left (by omega)] at g1
      rw [if_pos a1, splice_get ho2, hl, List.append_assoc, List.getElem?_append_left (by rw [List.length_take]; omega), List.getElem?_take, if_pos a1]
      by_cases a2 : j < o
      · rw [if_pos a2, g1]
      · rw [if_neg a2]
        by_cases a3 : n * sz - i * sz = 0
        · rw [if_neg (by omega), g1]
        · have := hoz (by omega)
          exfalso; omega
    · rw [if_neg a1]
      by_cases a2 : j < i * sz + sz
      · rw [if_pos a2, List.append_assoc, List.getElem?_append_right (by rw [List.length_take]; omega), List.getElem?_append_left (by rw [List.length_take]; omega), List.length_take]
        congr 1; omega
      · rw [if_neg a2, splice_get ho2, hl]
        have a3 : (xs.drop (i * sz)).length ≠ 0 := by omega
        have a4 := hoz a3
        rw [if_neg (by omega), if_pos (by omega), List.getElem?_append_right (by simp; omega)]
        congr 1
        simp; omega
  · rw [if_neg hj, List.getElem?_eq_none]
    simp; omega
/-- the cells behind taking place i out, by a move down, and a cut -/
theorem del_cells {cur : Array Value} {xs c : List Value} {i n sz cap : Nat} (hsz : cur.size = cap * sz) (hx : xs.length = (n + 1) * sz) (hc : c.length = sz) (hcap : n + 1 ≤ cap) (hi : i ≤ n)
    (htk : cur.toList.take ((n + 1) * sz) = xs) :
    (splice (splice cur (i * sz) (xs.drop ((i + 1) * sz))) (n * sz) c).toList.take (n * sz) = xs.take (i * sz) ++ xs.drop ((i + 1) * sz) := by
  have h1 : (n + 1) * sz ≤ cap * sz := Nat.mul_le_mul_right _ hcap
  have h2 : i * sz ≤ n * sz := Nat.mul_le_mul_right _ hi
  have e1 : (n + 1) * sz = n * sz + sz := Nat.succ_mul n sz
  have e2 : (i + 1) * sz = i * sz + sz := Nat.succ_mul i sz
  have hl : (xs.drop ((i + 1) * sz)).length = n * sz - i * sz := by rw [List.length_drop, hx]; omega
  have ho2 : i * sz + (xs.drop ((i + 1) * sz)).length ≤ cur.size := by rw [hl, hsz]; omega
  have hs1 : (splice cur (i * sz) (xs.drop ((i + 1) * sz))).size = cur.size := splice_size ho2
  have ho3 : n * sz + c.length ≤ (splice cur (i * sz) (xs.drop ((i + 1) * sz))).size := by rw [hs1, hsz, hc]; omega
  have hlen : cur.toList.length = cap * sz := by rw [Array.length_toList, hsz]
  apply List.ext_getElem?
  intro j
  rw [List.getElem?_take]
  by_cases hj : j < n * sz
  · rw [if_pos hj, splice_get ho3, if_pos hj, splice_get ho2, hl]
    by_cases a1 : j < i * sz
    · rw [if_pos a1, take_get htk j (by omega), List.getElem?_append_left (by rw [List.length_take]; omega), List.getElem?_take, if_pos a1]
    · rw [if_neg a1, if_pos (by omega), List.getElem?_append_right (by rw [List.length_take]; omega), List.length_take]
      congr 1; omega
  · rw [if_neg hj, List.getElem?_eq_none]
    simp; omega
/-- the cells behind a pop -/
theorem pop_cells {cur : Array Value} {xs c : List Value} {n sz cap : Nat} (hsz : cur.size = cap * sz) (hc : c.length = sz) (hcap : n + 1 ≤ cap)
    (htk : cur.toList.take ((n + 1) * sz) = xs) : (splice cur (n * sz) c).toList.take (n * sz) = xs.take (n * sz) := by
  have h1 : (n + 1) * sz ≤ cap * sz := Nat.mul_le_mul_right _ hcap
  have e1 : (n + 1) * sz = n * sz + sz := Nat.succ_mul n sz
  have ho : n * sz + c.length ≤ cur.size := by omega
  have hlen : cur.toList.length = cap * sz := by rw [Array.length_toList, hsz]
  apply List.ext_getElem?
  intro j
  rw [List.getElem?_take, List.getElem?_take]
  by_cases hj : j < n * sz
  · rw [if_pos hj, if_pos hj, splice_get ho, if_pos hj, take_get htk j (by omega)]
  · rw [if_neg hj, if_neg hj]
/-- one element is turned -/
theorem set_cells {cur : Array Value} {xs c : List Value} {i n sz cap : Nat} (hsz : cur.size = cap * sz) (hx : xs.length = n * sz) (hc : c.length = sz) (hcap : n ≤ cap) (hi : i < n)
    (htk : cur.toList.take (n * sz) = xs) : (splice cur (i * sz) c).toList.take (n * sz) = xs.take (i * sz) ++ c ++ xs.drop ((i + 1) * sz) := by
  have h1 : n * sz ≤ cap * sz := Nat.mul_le_mul_right _ hcap
  have h2 : (i + 1) * sz ≤ n * sz := Nat.mul_le_mul_right _ hi
  have e2 : (i + 1) * sz = i * sz + sz := Nat.succ_mul i sz
  have ho : i * sz + c.length ≤ cur.size := by omega
  have hlen : cur.toList.length = cap * sz := by rw [Array.length_toList, hsz]
  apply List.ext_getElem?
  intro j
  rw [List.getElem?_take]
  by_cases hj : j < n * sz
  · rw [if_pos hj, splice_get ho, hc]
    by_cases a1 : j < i * sz
    · rw [if_pos a1, take_get htk j hj, List.append_assoc, List.getElem?_append_left (by rw [List.length_take]; omega), List.getElem?_take, if_pos a1]
    · rw [if_neg a1]
      by_cases a2 : j < i * sz + sz
      · rw [if_pos a2, List.append_assoc, List.getElem?_append_right (by rw [List.length_take]; omega), List.getElem?_append_left (by rw [List.length_take]; omega), List.length_take]
        congr 1; omega
      · rw [if_neg a2, take_get htk j hj, List.getElem?_append_right (by simp; omega), List.getElem?_drop]
        congr 1
        simp; omega
  · rw [if_neg hj, List.getElem?_eq_none]
    simp; omega

theorem splice_one {cs : Array Value} {o : Nat} {v : Value} (h : o < cs.size) : splice cs o [v] = cs.setIfInBounds o v := by
  apply Array.toList_inj.1
  apply List.ext_getElem?
  intro j
  rw [splice_get (by simp; omega)]
  simp only [List.length_singleton, Array.toList_setIfInBounds, List.getElem?_set, Array.length_toList]
  by_cases h1 : j < o
  · rw [if_pos h1, if_neg (by omega)]
  · by_cases h2 : j = o
    · subst h2; simp [h]
    · rw [if_neg h1, if_neg (by omega), if_neg (by omega)]
/-- zeros written behind a place: what is ahead of it stands -/
theorem head_cells {cur : Array Value} {xs c : List Value} {k o m : Nat} (hk : k ≤ o) (hm : k ≤ m) (ho : o + c.length ≤ cur.size) (htk : cur.toList.take m = xs) : (splice cur o c).toList.take k = xs.take k := by
  apply List.ext_getElem?
  intro j
  rw [List.getElem?_take, List.getElem?_take]
  by_cases hj : j < k
  · rw [if_pos hj, if_pos hj, splice_get ho, if_pos (by omega), take_get htk j (by omega)]
  · rw [if_neg hj, if_neg hj]

/-! ### items as cells -/
theorem encs_nil : encs [] = [] := rfl
theorem encs_cons (x : It) (l : List It) : encs (x :: l) = enc x ++ encs l := by simp [encs]
theorem encs_append (a b : List It) : encs (a ++ b) = encs a ++ encs b := by simp [encs]
theorem encs_len (l : List It) : (encs l).length = l.length * 2 := by
  induction l with
  | nil => rfl
  | cons x l ih => rw [encs_cons, List.length_append, ih]; simp [enc]; omega
theorem encs_take (l : List It) (k : Nat) : encs (l.take k) = (encs l).take (k * 2) := by
  induction l generalizing k with
  | nil => simp [encs]
  | cons x l ih =>
    cases k with
    | zero => simp [encs]
    | succ k => rw [List.take_succ_cons, encs_cons, encs_cons, ih, Nat.succ_mul, enc]; simp
theorem encs_drop (l : List It) (k : Nat) : encs (l.drop k) = (encs l).drop (k * 2) := by
  induction l generalizing k with
  | nil => simp [encs]
  | cons x l ih =>
    cases k with
    | zero => simp
    | succ k => rw [List.drop_succ_cons, encs_cons, ih, Nat.succ_mul, enc]; simp
theorem encs_one (l : List It) : ∀ u ∈ encs l, u.oneCell' = true := by
  intro u hu
  simp only [encs, List.mem_flatMap] at hu
  obtain ⟨x, _, hx⟩ := hu
  simp [enc] at hx
  rcases hx with rfl | rfl <;> rfl
theorem ptrs_one (l : List Nat) : ∀ u ∈ l.map ptr, u.oneCell' = true := by
  intro u hu
  simp only [List.mem_map] at hu
  obtain ⟨x, _, rfl⟩ := hu
  rfl
theorem insertIdx_eq {α : Type} (l : List α) (i : Nat) (x : α) (h : i ≤ l.length) : l.insertIdx i x = l.take i ++ x :: l.drop i := by
  induction l generalizing i with
  | nil => cases i <;> simp_all
  | cons y l ih =>
    cases i with
    | zero => simp
    | succ i => simp [ih i (by simpa using h)]
theorem eraseIdx_eq {α : Type} (l : List α) (i : Nat) : l.eraseIdx i = l.take i ++ l.drop (i + 1) := List.eraseIdx_eq_take_drop_succ l i
theorem set_eq {α : Type} (l : List α) (i : Nat) (x : α) (h : i < l.length) : l.set i x = l.take i ++ x :: l.drop (i + 1) := List.set_eq_take_append_cons_drop.trans (by rw [if_pos h])
theorem encs_insert (l : List It) (i : Nat) (x : It) (h : i ≤ l.length) : encs (l.insertIdx i x) = (encs l).take (i * 2) ++ enc x ++ (encs l).drop (i * 2) := by
  rw [insertIdx_eq l i x h, encs_append, encs_cons, encs_take, encs_drop, List.append_assoc]
theorem encs_erase (l : List It) (i : Nat) : encs (l.eraseIdx i) = (encs l).take (i * 2) ++ (encs l).drop ((i + 1) * 2) := by
  rw [eraseIdx_eq, encs_append, encs_take, encs_drop]
theorem encs_set (l : List It) (i : Nat) (x : It) (h : i < l.length) : encs (l.set i x) = (encs l).take (i * 2) ++ enc x ++ (encs l).drop ((i + 1) * 2) := by
  rw [set_eq l i x h, encs_append, encs_cons, encs_take, encs_drop, List.append_assoc]
theorem encs_get (l : List It) (i : Nat) (x : It) (h : l[i]? = some x) : (encs l)[i * 2]? = some (.int .i64 x.key) ∧ (encs l)[i * 2 + 1]? = some (.int .i64 x.val) := by
  induction l generalizing i with
  | nil => simp at h
  | cons y l ih =>
    cases i with
    | zero => simp at h; subst h; simp [encs_cons, enc]
    | succ i =>
      simp at h
      have := ih i h
      rw [encs_cons, enc, Nat.succ_mul]
      simpa using this
theorem ptrs_insert (l : List Nat) (i x : Nat) (h : i ≤ l.length) : (l.insertIdx i x).map ptr = (l.map ptr).take (i * 1) ++ [ptr x] ++ (l.map ptr).drop (i * 1) := by
  rw [insertIdx_eq l i x h]; simp
theorem ptrs_erase (l : List Nat) (i : Nat) : (l.eraseIdx i).map ptr = (l.map ptr).take (i * 1) ++ (l.map ptr).drop ((i + 1) * 1) := by
  rw [eraseIdx_eq]; simp
theorem ptrs_set (l : List Nat) (i x : Nat) (h : i < l.length) : (l.set i x).map ptr = (l.map ptr).take (i * 1) ++ [ptr x] ++ (l.map ptr).drop ((i + 1) * 1) := by
  rw [set_eq l i x h]; simp
/-! ### what cells of an opened slice hold -/
section
variable {w w0 : World} {H : HProp} {g : Nat} {cur : Array Value} {E : TypeId} {fr : Nat × Nat}
theorem row_cells (hs : St w0 H w) [AtP g (.cells cur E fr) H] {m : Nat} {xs : List Value} (htk : cur.toList.take m = xs) (o k : Nat) {vs : List Value} (hv : (xs.drop o).take k = vs) : Cells w ⟨g, 0 + o, none⟩ vs := by
  intro j u hj
  subst hv
  rw [List.getElem?_take] at hj
  split at hj
  · rw [List.getElem?_drop] at hj
    rw [add_plain, hs.c g _]
    rw [← htk, List.getElem?_take] at hj
    split at hj
    · rw [Nat.zero_add]; simpa using hj
    · cases hj
  · cases hj
theorem it_cells (hs : St w0 H w) [AtP g (.cells cur E fr) H] {m : Nat} {its : List It} (htk : cur.toList.take m = encs its) (i : Nat) {x : It} (h : its[i]? = some x) : Cells w ⟨g, 0 + i * 2, none⟩ [.int .i64 x.key, .int .i64 x.val] := by
  refine row_cells (g := g) (cur := cur) (E := E) (fr := fr) hs htk (i * 2) 2 ?_
  have := encs_get its i x h
  apply List.ext_getElem?
  intro j
  rw [List.getElem?_take]
  match j with
  | 0 => simpa using this.1
  | 1 => simpa using this.2
  | j + 2 => simp; omega
theorem ptr_cell (hs : St w0 H w) [AtP g (.cells cur E fr) H] {m : Nat} {bs : List Nat} (htk : cur.toList.take m = bs.map ptr) (i : Nat) {x : Nat} (h : bs[i]? = some x) : w.cell? ⟨g, 0 + i * 1, none⟩ = some (ptr x) := by
  have := row_cells (g := g) (cur := cur) (E := E) (fr := fr) hs htk (i * 1) 1 (vs := [ptr x]) (by
    apply List.ext_getElem?
    intro j
    rw [List.getElem?_take]
    match j with
    | 0 => simp [h]
    | j + 1 => simp)
  simpa [add_plain] using this 0 (ptr x) rfl
theorem drop_cells (hs : St w0 H w) [AtP g (.cells cur E fr) H] {m : Nat} {xs : List Value} (htk : cur.toList.take m = xs) {cap sz : Nat} (hx : xs.length ≤ cap * sz) (i : Nat) : Cells w ⟨g, 0 + (if cap = i then 0 else i * sz), none⟩ (xs.drop (i * sz)) := by
  by_cases e : cap = i
  · subst e
    intro j u hj
    rw [List.drop_eq_nil_of_le hx] at hj
    simp at hj
  · rw [if_neg e]
    exact row_cells (g := g) (cur := cur) (E := E) (fr := fr) hs htk (i * sz) xs.length (List.take_of_length_le (by simp))
end
end Go.Proofs.Ytnnembkganlbpaa
