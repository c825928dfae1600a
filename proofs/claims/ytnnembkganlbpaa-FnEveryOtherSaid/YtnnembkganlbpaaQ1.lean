/- Part 1 of the ground on which the laws stand: Ar W1 W2 W3 W4 W5 Tm W6 Ti W7 Td. -/
import Derived.Test.YtnnembkganlbpaaDe
import Derived.Test.YtnnembkganlbpaaRn
import Derived.Test.YtnnembkganlbpaaTe
/- Rows of cells: what is left of them behind inserting, taking out, cutting off. Plain lists. -/
namespace Go.Proofs.Ytnnembkganlbpaa
open Go Go.Sl Go.Wk Go.Bt Go.RowKit

theorem splice_get {cs : Array Value} {o : Nat} {vs : List Value} (h : o + vs.length ≤ cs.size) (j : Nat) :
    (splice cs o vs).toList[j]? = if j < o then cs.toList[j]? else if j < o + vs.length then vs[j - o]? else cs.toList[j]? := by
  have hsz : cs.toList.length = cs.size := Array.length_toList
  simp only [splice]
  rw [List.getElem?_append, List.getElem?_append]
  simp only [List.length_append, List.length_take, hsz, List.getElem?_take, List.getElem?_drop]
  by_cases h1 : j < o
  · have : j < min o cs.size := by omega
    have : j < min o cs.size + vs.length := by omega
    simp [*]
  · by_cases h2 : j < o + vs.length
    · have a1 : ¬ j < min o cs.size := by omega
      have a2 : j < min o cs.size + vs.length := by omega
      have a3 : j - min o cs.size = j - o := by omega
      simp [*]
    · have a2 : ¬ j < min o cs.size + vs.length := by omega
      simp only [h1, h2, if_false, a2]
      congr 1; omega
theorem take_get {l xs : List Value} {n : Nat} (h : l.take n = xs) (j : Nat) (hj : j < n) : l[j]? = xs[j]? := by
  rw [← h, List.getElem?_take, if_pos hj]

/-- the cells behind inserting c at place i, by an append, a move up and a store -/
theorem ins_cells {cur : Array Value} {xs z c : List Value} {i n sz cap o : Nat} (hsz : cur.size = cap * sz) (hx : xs.length = n * sz) (hz : z.length = sz) (hc : c.length = sz) (hcap : n + 1 ≤ cap) (hi : i ≤ n)
    (ho : o = if cap = i + 1 then 0 else (i + 1) * sz) (htk : cur.toList.take ((n + 1) * sz) = xs ++ z) :
    (splice (splice cur o (xs.drop (i * sz))) (i * sz) c).toList.take ((n + 1) * sz) = xs.take (i * sz) ++ c ++ xs.drop (i * sz) := by
  have h1 : (n + 1) * sz ≤ cap * sz := Nat.mul_le_mul_right _ hcap
  have h2 : i * sz ≤ n * sz := Nat.mul_le_mul_right _ hi
  have e1 : (n + 1) * sz = n * sz + sz := Nat.succ_mul n sz
  have e2 : (i + 1) * sz = i * sz + sz := Nat.succ_mul i sz
  have hl : (xs.drop (i * sz)).length = n * sz - i * sz := by rw [List.length_drop, hx]
  have ho2 : o + (xs.drop (i * sz)).length ≤ cur.size := by
    rw [hl, hsz, ho]; split <;> omega
  have hoz : (xs.drop (i * sz)).length ≠ 0 → o = (i + 1) * sz := by
    intro hne
    rw [ho]; split
    · rename_i hh
      have : n = i := by omega
      subst this; omega
    · rfl
  have hs1 : (splice cur o (xs.drop (i * sz))).size = cur.size := splice_size ho2
  have ho3 : i * sz + c.length ≤ (splice cur o (xs.drop (i * sz))).size := by rw [hs1, hsz, hc]; omega
  have hlen : cur.toList.length = cap * sz := by rw [Array.length_toList, hsz]
  apply List.ext_getElem?
  intro j
  rw [List.getElem?_take]
  by_cases hj : j < (n + 1) * sz
  · rw [if_pos hj, splice_get ho3, hc]
    by_cases a1 : j < i * sz
    · have g1 := take_get htk j hj
      rw [List.getElem?_append_left (by omega)] at g1
      rw [if_pos a1, splice_get ho2, hl, List.append_assoc, List.getElem?_append_left (by rw [List.length_take]; omega), List.getElem?_take, if_pos a1]
      by_cases a2 : j < o
      · rw [if_pos a2, g1]
      · rw [if_neg a2]
        by_cases a3 : n * sz - i * sz = 0
        · rw [if_neg (by omega), g1]
        · have := hoz (by omega)
          exfalso; omega
    · rw [if_neg a1]
      by_cases a2 : j < i * sz + sz
      · rw [if_pos a2, List.append_assoc, List.getElem?_append_right (by rw [List.length_take]; omega), List.getElem?_append_left (by rw [List.length_take]; omega), List.length_take]
        congr 1; omega
      · rw [if_neg a2, splice_get ho2, hl]
        have a3 : (xs.drop (i * sz)).length ≠ 0 := by omega
        have a4 := hoz a3
        rw [if_neg (by omega), if_pos (by omega), List.getElem?_append_right (by simp; omega)]
        congr 1
        simp; omega
  · rw [if_neg hj, List.getElem?_eq_none]
    simp; omega
/-- the cells behind taking place i out, by a move down, and a cut -/
theorem del_cells {cur : Array Value} {xs c : List Value} {i n sz cap : Nat} (hsz : cur.size = cap * sz) (hx : xs.length = (n + 1) * sz) (hc : c.length = sz) (hcap : n + 1 ≤ cap) (hi : i ≤ n)
    (htk : cur.toList.take ((n + 1) * sz) = xs) :
    (splice (splice cur (i * sz) (xs.drop ((i + 1) * sz))) (n * sz) c).toList.take (n * sz) = xs.take (i * sz) ++ xs.drop ((i + 1) * sz) := by
  have h1 : (n + 1) * sz ≤ cap * sz := Nat.mul_le_mul_right _ hcap
  have h2 : i * sz ≤ n * sz := Nat.mul_le_mul_right _ hi
  have e1 : (n + 1) * sz = n * sz + sz := Nat.succ_mul n sz
  have e2 : (i + 1) * sz = i * sz + sz := Nat.succ_mul i sz
  have hl : (xs.drop ((i + 1) * sz)).length = n * sz - i * sz := by rw [List.length_drop, hx]; omega
  have ho2 : i * sz + (xs.drop ((i + 1) * sz)).length ≤ cur.size := by rw [hl, hsz]; omega
  have hs1 : (splice cur (i * sz) (xs.drop ((i + 1) * sz))).size = cur.size := splice_size ho2
  have ho3 : n * sz + c.length ≤ (splice cur (i * sz) (xs.drop ((i + 1) * sz))).size := by rw [hs1, hsz, hc]; omega
  have hlen : cur.toList.length = cap * sz := by rw [Array.length_toList, hsz]
  apply List.ext_getElem?
  intro j
  rw [List.getElem?_take]
  by_cases hj : j < n * sz
  · rw [if_pos hj, splice_get ho3, if_pos hj, splice_get ho2, hl]
    by_cases a1 : j < i * sz
    · rw [if_pos a1, take_get htk j (by omega), List.getElem?_append_left (by rw [List.length_take]; omega), List.getElem?_take, if_pos a1]
    · rw [if_neg a1, if_pos (by omega), List.getElem?_append_right (by rw [List.length_take]; omega), List.length_take]
      congr 1; omega
  · rw [if_neg hj, List.getElem?_eq_none]
    simp; omega
/-- the cells behind a pop -/
theorem pop_cells {cur : Array Value} {xs c : List Value} {n sz cap : Nat} (hsz : cur.size = cap * sz) (hc : c.length = sz) (hcap : n + 1 ≤ cap)
    (htk : cur.toList.take ((n + 1) * sz) = xs) : (splice cur (n * sz) c).toList.take (n * sz) = xs.take (n * sz) := by
  have h1 : (n + 1) * sz ≤ cap * sz := Nat.mul_le_mul_right _ hcap
  have e1 : (n + 1) * sz = n * sz + sz := Nat.succ_mul n sz
  have ho : n * sz + c.length ≤ cur.size := by omega
  have hlen : cur.toList.length = cap * sz := by rw [Array.length_toList, hsz]
  apply List.ext_getElem?
  intro j
  rw [List.getElem?_take, List.getElem?_take]
  by_cases hj : j < n * sz
  · rw [if_pos hj, if_pos hj, splice_get ho, if_pos hj, take_get htk j (by omega)]
  · rw [if_neg hj, if_neg hj]
/-- one element is turned -/
theorem set_cells {cur : Array Value} {xs c : List Value} {i n sz cap : Nat} (hsz : cur.size = cap * sz) (hx : xs.length = n * sz) (hc : c.length = sz) (hcap : n ≤ cap) (hi : i < n)
    (htk : cur.toList.take (n * sz) = xs) : (splice cur (i * sz) c).toList.take (n * sz) = xs.take (i * sz) ++ c ++ xs.drop ((i + 1) * sz) := by
  have h1 : n * sz ≤ cap * sz := Nat.mul_le_mul_right _ hcap
  have h2 : (i + 1) * sz ≤ n * sz := Nat.mul_le_mul_right _ hi
  have e2 : (i + 1) * sz = i * sz + sz := Nat.succ_mul i sz
  have ho : i * sz + c.length ≤ cur.size := by omega
  have hlen : cur.toList.length = cap * sz := by rw [Array.length_toList, hsz]
  apply List.ext_getElem?
  intro j
  rw [List.getElem?_take]
  by_cases hj : j < n * sz
  · rw [if_pos hj, splice_get ho, hc]
    by_cases a1 : j < i * sz
    · rw [if_pos a1, take_get htk j hj, List.append_assoc, List.getElem?_append_left (by rw [List.length_take]; omega), List.getElem?_take, if_pos a1]
    · rw [if_neg a1]
      by_cases a2 : j < i * sz + sz
      · rw [if_pos a2, List.append_assoc, List.getElem?_append_right (by rw [List.length_take]; omega), List.getElem?_append_left (by rw [List.length_take]; omega), List.length_take]
        congr 1; omega
      · rw [if_neg a2, take_get htk j hj, List.getElem?_append_right (by simp; omega), List.getElem?_drop]
        congr 1
        simp; omega
  · rw [if_neg hj, List.getElem?_eq_none]
    simp; omega

theorem splice_one {cs : Array Value} {o : Nat} {v : Value} (h : o < cs.size) : splice cs o [v] = cs.setIfInBounds o v := by
  apply Array.toList_inj.1
  apply List.ext_getElem?
  intro j
  rw [splice_get (by simp; omega)]
  simp only [List.length_singleton, Array.toList_setIfInBounds, List.getElem?_set, Array.length_toList]
  by_cases h1 : j < o
  · rw [if_pos h1, if_neg (by omega)]
  · by_cases h2 : j = o
    · subst h2; simp [h]
    · rw [if_neg h1, if_neg (by omega), if_neg (by omega)]
/-- zeros written behind a place: what is ahead of it stands -/
theorem head_cells {cur : Array Value} {xs c : List Value} {k o m : Nat} (hk : k ≤ o) (hm : k ≤ m) (ho : o + c.length ≤ cur.size) (htk : cur.toList.take m = xs) : (splice cur o c).toList.take k = xs.take k := by
  apply List.ext_getElem?
  intro j
  rw [List.getElem?_take, List.getElem?_take]
  by_cases hj : j < k
  · rw [if_pos hj, if_pos hj, splice_get ho, if_pos (by omega), take_get htk j (by omega)]
  · rw [if_neg hj, if_neg hj]

/-! ### items as cells -/
theorem encs_nil : encs [] = [] := rfl
theorem encs_cons (x : It) (l : List It) : encs (x :: l) = enc x ++ encs l := by simp [encs]
theorem encs_append (a b : List It) : encs (a ++ b) = encs a ++ encs b := by simp [encs]
theorem encs_len (l : List It) : (encs l).length = l.length * 2 := by
  induction l with
  | nil => rfl
  | cons x l ih => rw [encs_cons, List.length_append, ih]; simp [enc]; omega
theorem encs_take (l : List It) (k : Nat) : encs (l.take k) = (encs l).take (k * 2) := by
  induction l generalizing k with
  | nil => simp [encs]
  | cons x l ih =>
    cases k with
    | zero => simp [encs]
    | succ k => rw [List.take_succ_cons, encs_cons, encs_cons, ih, Nat.succ_mul, enc]; simp
theorem encs_drop (l : List It) (k : Nat) : encs (l.drop k) = (encs l).drop (k * 2) := by
  induction l generalizing k with
  | nil => simp [encs]
  | cons x l ih =>
    cases k with
    | zero => simp
    | succ k => rw [List.drop_succ_cons, encs_cons, ih, Nat.succ_mul, enc]; simp
theorem encs_one (l : List It) : ∀ u ∈ encs l, u.oneCell' = true := by
  intro u hu
  simp only [encs, List.mem_flatMap] at hu
  obtain ⟨x, _, hx⟩ := hu
  simp [enc] at hx
  rcases hx with rfl | rfl <;> rfl
theorem ptrs_one (l : List Nat) : ∀ u ∈ l.map ptr, u.oneCell' = true := by
  intro u hu
  simp only [List.mem_map] at hu
  obtain ⟨x, _, rfl⟩ := hu
  rfl
theorem insertIdx_eq {α : Type} (l : List α) (i : Nat) (x : α) (h : i ≤ l.length) : l.insertIdx i x = l.take i ++ x :: l.drop i := by
  induction l generalizing i with
  | nil => cases i <;> simp_all
  | cons y l ih =>
    cases i with
    | zero => simp
    | succ i => simp [ih i (by simpa using h)]
theorem eraseIdx_eq {α : Type} (l : List α) (i : Nat) : l.eraseIdx i = l.take i ++ l.drop (i + 1) := List.eraseIdx_eq_take_drop_succ l i
theorem set_eq {α : Type} (l : List α) (i : Nat) (x : α) (h : i < l.length) : l.set i x = l.take i ++ x :: l.drop (i + 1) := List.set_eq_take_append_cons_drop.trans (by rw [if_pos h])
theorem encs_insert (l : List It) (i : Nat) (x : It) (h : i ≤ l.length) : encs (l.insertIdx i x) = (encs l).take (i * 2) ++ enc x ++ (encs l).drop (i * 2) := by
  rw [insertIdx_eq l i x h, encs_append, encs_cons, encs_take, encs_drop, List.append_assoc]
theorem encs_erase (l : List It) (i : Nat) : encs (l.eraseIdx i) = (encs l).take (i * 2) ++ (encs l).drop ((i + 1) * 2) := by
  rw [eraseIdx_eq, encs_append, encs_take, encs_drop]
theorem encs_set (l : List It) (i : Nat) (x : It) (h : i < l.length) : encs (l.set i x) = (encs l).take (i * 2) ++ enc x ++ (encs l).drop ((i + 1) * 2) := by
  rw [set_eq l i x h, encs_append, encs_cons, encs_take, encs_drop, List.append_assoc]
theorem encs_get (l : List It) (i : Nat) (x : It) (h : l[i]? = some x) : (encs l)[i * 2]? = some (.int .i64 x.key) ∧ (encs l)[i * 2 + 1]? = some (.int .i64 x.val) := by
  induction l generalizing i with
  | nil => simp at h
  | cons y l ih =>
    cases i with
    | zero => simp at h; subst h; simp [encs_cons, enc]
    | succ i =>
      simp at h
      have := ih i h
      rw [encs_cons, enc, Nat.succ_mul]
      simpa using this
theorem ptrs_insert (l : List Nat) (i x : Nat) (h : i ≤ l.length) : (l.insertIdx i x).map ptr = (l.map ptr).take (i * 1) ++ [ptr x] ++ (l.map ptr).drop (i * 1) := by
  rw [insertIdx_eq l i x h]; simp
theorem ptrs_erase (l : List Nat) (i : Nat) : (l.eraseIdx i).map ptr = (l.map ptr).take (i * 1) ++ (l.map ptr).drop ((i + 1) * 1) := by
  rw [eraseIdx_eq]; simp
theorem ptrs_set (l : List Nat) (i x : Nat) (h : i < l.length) : (l.set i x).map ptr = (l.map ptr).take (i * 1) ++ [ptr x] ++ (l.map ptr).drop ((i + 1) * 1) := by
  rw [set_eq l i x h]; simp
/-! ### what cells of an opened slice hold -/
section
variable {w w0 : World} {H : HProp} {g : Nat} {cur : Array Value} {E : TypeId} {fr : Nat × Nat}
theorem row_cells (hs : St w0 H w) [AtP g (.cells cur E fr) H] {m : Nat} {xs : List Value} (htk : cur.toList.take m = xs) (o k : Nat) {vs : List Value} (hv : (xs.drop o).take k = vs) : Cells w ⟨g, 0 + o, none⟩ vs := by
  intro j u hj
  subst hv
  rw [List.getElem?_take] at hj
  split at hj
  · rw [List.getElem?_drop] at hj
    rw [add_plain, hs.c g _]
    rw [← htk, List.getElem?_take] at hj
    split at hj
    · rw [Nat.zero_add]; simpa using hj
    · cases hj
  · cases hj
theorem it_cells (hs : St w0 H w) [AtP g (.cells cur E fr) H] {m : Nat} {its : List It} (htk : cur.toList.take m = encs its) (i : Nat) {x : It} (h : its[i]? = some x) : Cells w ⟨g, 0 + i * 2, none⟩ [.int .i64 x.key, .int .i64 x.val] := by
  refine row_cells (g := g) (cur := cur) (E := E) (fr := fr) hs htk (i * 2) 2 ?_
  have := encs_get its i x h
  apply List.ext_getElem?
  intro j
  rw [List.getElem?_take]
  match j with
  | 0 => simpa using this.1
  | 1 => simpa using this.2
  | j + 2 => simp; omega
theorem ptr_cell (hs : St w0 H w) [AtP g (.cells cur E fr) H] {m : Nat} {bs : List Nat} (htk : cur.toList.take m = bs.map ptr) (i : Nat) {x : Nat} (h : bs[i]? = some x) : w.cell? ⟨g, 0 + i * 1, none⟩ = some (ptr x) := by
  have := row_cells (g := g) (cur := cur) (E := E) (fr := fr) hs htk (i * 1) 1 (vs := [ptr x]) (by
    apply List.ext_getElem?
    intro j
    rw [List.getElem?_take]
    match j with
    | 0 => simp [h]
    | j + 1 => simp)
  simpa [add_plain] using this 0 (ptr x) rfl
theorem drop_cells (hs : St w0 H w) [AtP g (.cells cur E fr) H] {m : Nat} {xs : List Value} (htk : cur.toList.take m = xs) {cap sz : Nat} (hx : xs.length ≤ cap * sz) (i : Nat) : Cells w ⟨g, 0 + (if cap = i then 0 else i * sz), none⟩ (xs.drop (i * sz)) := by
  by_cases e : cap = i
  · subst e
    intro j u hj
    rw [List.drop_eq_nil_of_le hx] at hj
    simp at hj
  · rw [if_neg e]
    exact row_cells (g := g) (cur := cur) (E := E) (fr := fr) hs htk (i * sz) xs.length (List.take_of_length_le (by simp))
end
end Go.Proofs.Ytnnembkganlbpaa
/- The walks of the free list and of the context: a node is handed out, a node is taken back. -/
namespace Go.Proofs.Ytnnembkganlbpaa
open Go Go.Sl Go.Net Go.Wk Go.Bt Go.RowKit

theorem free_new (b : Nat) : Ent (pts b (.cells #[.slice none 0 0, .slice none 0 0, .pointer none] 103 (0, 0))) (FreeP b) := fun h hp => by
  refine ⟨(.slice none 0 0, .slice none 0 0), ?_⟩
  show (_ * (Arr 45 2 (.slice none 0 0) 0 [] * Arr 85 1 (.slice none 0 0) 0 [])) h
  rw [Arr.nil, Arr.nil, one_mul', mul_one']
  exact hp
theorem fl_fold (fl : Nat) (v : Value) (l : List Nat) : Ent (pts fl (.cells #[.int .i32 0, .int .u32 0, v] 81 (0, 0)) * (PArr v l * stars (l.map FreeP))) (FLP fl) := fun _ hp => ⟨(v, l), hp⟩
theorem free_fold (b : Nat) (v1 v2 : Value) : Ent (pts b (.cells #[v1, v2, .pointer none] 103 (0, 0)) * (IArr v1 [] * PArr v2 [])) (FreeP b) := fun _ hp => ⟨(v1, v2), hp⟩
theorem node_fold (c b : Nat) (v1 v2 : Value) (its : List It) (bs : List Nat) : Ent (pts b (.cells #[v1, v2, ptr c] 103 (0, 0)) * (IArr v1 its * PArr v2 bs)) (NodeP c b its bs) := fun _ hp => ⟨(v1, v2), hp⟩
theorem f80_ok (fl : Nat) : Tri Try.prog 80 #[ptr fl] (FLP fl) fun v => ex fun b => pu (v = ptr b) * (FreeP b * FLP fl) := by
  intro w0 F w hs
  obtain ⟨⟨vf, free⟩, hs⟩ := hs.ex
  simp only [mul_assoc'] at hs
  obtain ⟨a, c, rfl, hc, hcm⟩ := (hs.foc (PArr vf free)).arr_form
  simp only [maxLen] at hcm
  refine calls_WP 47 #[.tmp 2] Try.func80 rfl Try.ntmps80 rfl (Nat.le_of_ble_eq_true rfl) ?_
  refine WP_seq ?_
  -- R0
  refine WP_seqr [⟨0, 0, []⟩] (by kernel_rfl) ?_
  refine ns_asg rfl rfl ?_
  refine ns_done ?_
  refine WP_seq ?_
  -- R1
  refine WP_seqr [⟨0, 0, []⟩, ⟨1, 0, []⟩, ⟨2, 0, []⟩, ⟨3, 2, []⟩] (by kernel_rfl) ?_
  refine ns_move rfl rfl ?_
  refine ns_nil rfl rfl rfl ?_
  refine ns_fld fo_81_0 rfl rfl rfl ?_
  refine ns_call (lock_ok fl _ _) ck_90 hs rfl rfl rfl rfl ?_
  intro v7 w hs
  refine ns_done ?_
  refine WP_seq ?_
  -- R2
  refine WP_seqr [⟨0, 0, []⟩, ⟨1, 0, []⟩, ⟨2, 0, []⟩, ⟨3, 1, []⟩, ⟨4, 0, []⟩, ⟨5, 0, []⟩, ⟨6, 0, []⟩] (by kernel_rfl) ?_
  refine ns_move rfl rfl ?_
  refine ns_nil rfl rfl rfl ?_
  refine ns_fld fo_81_1 rfl rfl rfl ?_
  refine ns_ldB pl_72 hs rfl rfl rfl (by rfl) ?_
  refine ns_len sl_72 rfl rfl rfl ?_
  refine ns_sub rfl rfl rfl rfl (by omega) (by omega) ?_
  refine ns_asg rfl rfl ?_
  refine ns_done ?_
  refine WP_seq ?_ -- S1
  refine WP_seq ?_
  -- R3
  refine WP_seqr [⟨0, 0, []⟩, ⟨1, 0, []⟩] (by kernel_rfl) ?_
  refine ns_move rfl rfl ?_
  refine ns_cmp _ rfl rfl rfl rfl rfl ?_
  refine ns_done ?_
  refine WP_if rfl (fun hif1 => ?_) (fun hif1 => ?_)
  · refine WP_seq ?_
    -- R4
    refine WP_seqr [⟨0, 0, []⟩, ⟨1, 0, []⟩, ⟨2, 0, []⟩, ⟨3, 2, []⟩] (by kernel_rfl) ?_
    refine ns_move rfl rfl ?_
    refine ns_nil rfl rfl rfl ?_
    refine ns_fld fo_81_0 rfl rfl rfl ?_
    refine ns_call (unlock_ok fl _ _) ck_91 hs rfl rfl rfl rfl ?_
    intro v19 w hs
    refine ns_done ?_
    refine WP_seq ?_
    -- R5
    refine WP_seqr [⟨0, 2, []⟩, ⟨1, 0, []⟩] (by kernel_rfl) ?_
    refine ns_alloc zc_103 hs rfl rfl ?_
    intro b20 w hs
    refine ns_asg rfl rfl ?_
    refine ns_done ?_
    refine WP_ret ?_
    have hs := hs.fold (free_new b20)
    have hs := hs.fold (fl_fold fl (.slice a free.length c) free)
    exact ⟨_, res1 _, St.mk_ex b20 (St.mk_pu rfl (hs.foc (FreeP b20 * FLP fl)))⟩
  have hne : free.length ≠ 0 := by simp only [decide_eq_false_iff_not] at hif1; omega
  obtain ⟨g, c, e, hc2, hcm2, hcell⟩ := (hs.foc (PArr (.slice a free.length c) free)).arr_slice hne
  cases e
  obtain ⟨k, hk⟩ : ∃ k, free.length = k + 1 := ⟨free.length - 1, by omega⟩
  obtain ⟨l, x, rfl⟩ : ∃ l x, free = l ++ [x] := ⟨free.dropLast, free.getLast (by intro h; simp [h] at hne), (List.dropLast_concat_getLast _).symm⟩
  have hkl : k = l.length := by simp at hk; omega
  subst hkl
  have ek : (((l ++ [x]).length : Int) - 1) = (l.length : Int) := by simp
  refine WP_skip ?_
  refine WP_seq ?_
  -- R6
  refine WP_seqr [⟨0, 0, []⟩, ⟨1, 0, []⟩, ⟨2, 0, []⟩, ⟨3, 1, []⟩, ⟨4, 0, []⟩, ⟨5, 0, []⟩, ⟨6, 1, []⟩, ⟨7, 0, []⟩] (by kernel_rfl) ?_
  refine ns_move rfl rfl ?_
  refine ns_nil rfl rfl rfl ?_
  refine ns_fld fo_81_1 rfl rfl rfl ?_
  refine ns_ldB pl_72 hs rfl rfl rfl (by rfl) ?_
  refine ns_move rfl rfl ?_
  refine ns_idx l.length sl_72 rfl rfl rfl rfl ek (by simp) ?_
  refine ns_ld pl_85 rfl rfl rfl (hcell (0 + l.length * 1) (ptr x) (by simp)) ?_
  refine ns_asg rfl rfl ?_
  refine ns_done ?_
  refine WP_seq ?_
  -- R7
  refine WP_seqr [⟨0, 0, []⟩, ⟨1, 0, []⟩, ⟨2, 0, []⟩, ⟨3, 1, []⟩, ⟨4, 0, []⟩, ⟨5, 0, []⟩, ⟨6, 2, []⟩] (by kernel_rfl) ?_
  refine ns_move rfl rfl ?_
  refine ns_nil rfl rfl rfl ?_
  refine ns_fld fo_81_1 rfl rfl rfl ?_
  refine ns_ldB pl_72 hs rfl rfl rfl (by rfl) ?_
  refine ns_move rfl rfl ?_
  refine ns_idx l.length sl_72 rfl rfl rfl rfl ek (by simp) ?_
  obtain ⟨h0, g2, c2, cur, e, _, _, hsz, htk, hs⟩ | ⟨g2, c2, cur, e, _, _, hsz, htk, hs⟩ := (hs.foc (PArr (.slice (some ⟨g, 0, none⟩) (l ++ [x]).length c) (l ++ [x]))).arr
  · cases h0
  cases e
  have hlt : l.length < cur.size := by rw [hsz]; simp at hc2; omega
  refine ns_st (.pointer none) pl_85 hs rfl rfl rfl rfl rfl (by simpa using hlt) ?_
  refine fun w hs => ⟨trivial, ?_⟩
  have hs := hs.mk_arr' (n := l.length) (xs := l.map ptr) (by simp at hc2; omega) hcm2 (sz := 1) (E := 85) (cap := c) (by simpa using hsz) (by
    have := congrArg (List.take l.length) htk
    rw [List.take_take] at this
    simp at this
    simpa [List.take_set_of_le] using this)
  refine ns_done ?_
  refine WP_seq ?_
  -- R8
  refine WP_seqr [⟨0, 0, []⟩, ⟨1, 0, []⟩, ⟨2, 0, []⟩, ⟨3, 0, []⟩, ⟨4, 1, []⟩, ⟨5, 0, []⟩, ⟨6, 0, []⟩, ⟨7, 0, []⟩, ⟨8, 0, []⟩, ⟨9, 2, []⟩] (by kernel_rfl) ?_
  refine ns_move rfl rfl ?_
  refine ns_move rfl rfl ?_
  refine ns_nil rfl rfl rfl ?_
  refine ns_fld fo_81_1 rfl rfl rfl ?_
  refine ns_ldB pl_72 hs rfl rfl rfl (by rfl) ?_
  refine ns_move rfl rfl ?_
  refine ns_sliceHi l.length sl_72 rfl rfl rfl rfl ek (by simp at hc2; omega) ?_
  refine ns_nil rfl rfl rfl ?_
  refine ns_fld fo_81_1 rfl rfl rfl ?_
  refine ns_st (.slice (some ⟨g, 0, none⟩) l.length c) pl_72 hs rfl rfl rfl rfl rfl (by simp) ?_
  refine fun w hs => ⟨trivial, ?_⟩
  try simp only [List.setIfInBounds_toArray, List.set_cons_zero, List.set_cons_succ, Nat.zero_add] at hs
  refine ns_done ?_
  refine WP_seq ?_
  -- R9
  refine WP_seqr [⟨0, 0, []⟩, ⟨1, 0, []⟩, ⟨2, 0, []⟩, ⟨3, 2, []⟩] (by kernel_rfl) ?_
  refine ns_move rfl rfl ?_
  refine ns_nil rfl rfl rfl ?_
  refine ns_fld fo_81_0 rfl rfl rfl ?_
  refine ns_call (unlock_ok fl (.int .u32 0) (.slice (some ⟨g, 0, none⟩) l.length c)) ck_91 (hs.foc _) rfl rfl rfl rfl ?_
  intro v46 w hs
  refine ns_done ?_
  refine WP_ret ?_
  rw [List.map_append, stars_append] at hs
  simp only [mul_assoc'] at hs
  have hs := hs.fold (fl_fold fl (.slice (some ⟨g, 0, none⟩) l.length c) l)
  refine ⟨_, res1 _, St.mk_ex x (St.mk_pu rfl ?_)⟩
  exact hs.mono (Ent.of_eq (by simp only [List.map_cons, List.map_nil, stars_cons, stars_nil, mul_one']; ac_rfl))
end Go.Proofs.Ytnnembkganlbpaa
/- The walks of the lists within a node: inserting, taking out, the last one, cutting off. -/
namespace Go.Proofs.Ytnnembkganlbpaa
open Go Go.Sl Go.Net Go.Wk Go.Bt Go.RowKit
theorem f84_ok (c b i : Nat) (x : It) (its : List It) (bs : List Nat) (hi : i ≤ its.length) (hn : its.length < 1000000) :
    Tri Try.prog 84 #[.pointer (some ⟨b, 0, none⟩), .int .i64 i, itV x] (NodeP c b its bs) fun _ => NodeP c b (its.insertIdx i x) bs := by
  intro w0 F w hs
  obtain ⟨⟨v1, v2⟩, hs⟩ := hs.ex
  simp only [mul_assoc'] at hs
  obtain ⟨a, cp, rfl, hc, hcm⟩ := (hs.foc (IArr v1 its)).arr_form
  refine calls_WP 39 #[] Try.func84 rfl Try.ntmps84 rfl (Nat.le_of_ble_eq_true rfl) ?_
  refine WP_seq ?_
  -- R0
  refine WP_seqr [⟨0, 2, []⟩] (by kernel_rfl) ?_
  refine ns_box (#[.int .i64 x.key, .int .i64 x.val]) hs rfl rfl rfl rfl ?_
  intro b5 w hs
  refine ns_done ?_
  refine WP_seq ?_
  -- R1
  refine WP_seqr [⟨0, 2, []⟩] (by kernel_rfl) ?_
  refine ns_alloc zc_45 hs rfl rfl ?_
  intro b6 w hs
  refine ns_done ?_
  refine WP_seq ?_
  -- R2
  refine WP_net hs mix [0, 0, 2, 6, 0, 16, 62, 127, 255] [⟨0, 0, []⟩, ⟨1, 0, []⟩, ⟨2, 0, []⟩, ⟨3, 1, []⟩, ⟨4, 1, []⟩, ⟨5, 2, [3]⟩, ⟨6, 2, []⟩, ⟨7, 0, []⟩, ⟨8, 2, []⟩] (by kernel_rfl) ?_
  intro w hs
  refine ns_move rfl rfl ?_
  refine ns_move rfl rfl ?_
  refine ns_nil rfl rfl rfl ?_
  have hk3 := hs.c b 0
  refine ns_ldB pl_100 hs rfl rfl rfl (by rfl) ?_
  refine ns_ldAB [.int .i64 0, .int .i64 0] ag_45 hs rfl rfl rfl (by rfl) (by rfl) (by decide) ?_
  refine ns_lit [.agg #[.int .i64 0, .int .i64 0]] [.int .i64 0, .int .i64 0] sl_100 zr_45 (by decide) (by decide) hs rfl rfl rfl rfl (by simp [Value.cells]) rfl ?_
  refine fun b12 w hs hx => ⟨⟨hx _ _ hk3, trivial⟩, ?_⟩
  refine ns_app [.int .i64 0, .int .i64 0] sl_100 zr_45 by_45 rfl (by decide) (hs.foc (IArr (.slice a its.length cp) its)) rfl rfl rfl rfl rfl (St.cells (n := 2) hs (by rfl)) (by intro u hu; simp at hu; rcases hu with rfl | rfl <;> rfl) (by simp only [maxLen]; omega) (by omega) ?_
  refine fun v13 w hs hv => ⟨trivial, ?_⟩
  refine ns_nil rfl rfl rfl ?_
  obtain ⟨_, h0, _⟩ | ⟨g, cap, cur, rfl, hcap, hcm2, hsz, htk, hs⟩ := hs.arr
  · omega
  refine ns_st (.slice (some ⟨g, 0, none⟩) (its.length + 1) cap) pl_100 hs rfl rfl rfl rfl rfl (by simp) ?_
  refine fun w hs => ⟨trivial, ?_⟩
  try simp only [Nat.zero_add] at hs
  try simp only [List.setIfInBounds_toArray] at hs
  try simp only [List.set_cons_succ] at hs
  try simp only [List.set_cons_zero] at hs
  refine ns_done ?_
  refine WP_seq ?_ -- S1
  refine WP_seq ?_
  -- R3
  refine WP_seqr [⟨0, 0, []⟩, ⟨1, 0, []⟩, ⟨2, 0, []⟩, ⟨3, 1, []⟩, ⟨4, 0, []⟩, ⟨5, 0, []⟩] (by kernel_rfl) ?_
  refine ns_move rfl rfl ?_
  refine ns_move rfl rfl ?_
  refine ns_nil rfl rfl rfl ?_
  refine ns_ldB pl_100 hs rfl rfl rfl (by rfl) ?_
  refine ns_len sl_100 rfl rfl rfl ?_
  refine ns_cmp true rfl rfl rfl rfl (by simp [cmpI]; omega) ?_
  refine ns_done ?_
  refine WP_true rfl ?_ -- if1
  -- R4
  refine WP_net hs mix [0, 1, 3, 0, 8, 31, 0, 64, 192, 0, 960, 2047] [⟨0, 0, []⟩, ⟨1, 0, []⟩, ⟨2, 1, []⟩, ⟨3, 0, []⟩, ⟨4, 0, []⟩, ⟨5, 0, []⟩, ⟨6, 0, []⟩, ⟨7, 0, []⟩, ⟨8, 1, []⟩, ⟨9, 0, []⟩, ⟨10, 0, []⟩, ⟨11, 2, []⟩] (by kernel_rfl) ?_
  intro w hs
  refine ns_move rfl rfl ?_
  refine ns_nil rfl rfl rfl ?_
  refine ns_ldB pl_100 hs rfl rfl rfl (by rfl) ?_
  refine ns_move rfl rfl ?_
  refine ns_add rfl rfl rfl rfl (by omega) (by omega) ?_
  refine ns_sliceLo' (i + 1) sl_100 rfl rfl rfl rfl (by omega) (by omega) ?_
  refine ns_move rfl rfl ?_
  refine ns_nil rfl rfl rfl ?_
  refine ns_ldB pl_100 hs rfl rfl rfl (by rfl) ?_
  refine ns_move rfl rfl ?_
  refine ns_sliceLo' _ sl_100 rfl rfl rfl rfl rfl (by omega) ?_
  have hne : ¬ cap = i := by omega
  have hlen := encs_len its
  refine ns_copy ((encs its).drop (i * 2)) sl_100 hs rfl rfl rfl rfl (by rw [List.length_drop, encs_len]; simp only [Nat.min_def]; split <;> omega) ?hcl (fun u hu => encs_one its u (List.mem_of_mem_drop hu)) ?hfit ?_
  case hcl =>
    rw [if_neg hne]
    intro j u hj
    rw [List.getElem?_drop] at hj
    have hjl : i * 2 + j < its.length * 2 := by
      rcases Nat.lt_or_ge (i * 2 + j) (its.length * 2) with h | h
      · exact h
      · rw [List.getElem?_eq_none (by omega)] at hj; cases hj
    rw [add_plain, hs.c g _]
    have g1 := take_get htk (i * 2 + j) (by omega)
    rw [List.getElem?_append_left (by omega), hj] at g1
    simpa using g1
  case hfit =>
    rw [List.length_drop, hlen, hsz]; split <;> omega
  refine fun w hs => ⟨trivial, ?_⟩
  refine ns_done ?_
  -- R5
  refine WP_net hs mix [0, 1, 3, 0, 0, 31, 63] [⟨0, 0, []⟩, ⟨1, 0, []⟩, ⟨2, 1, []⟩, ⟨3, 0, []⟩, ⟨4, 1, []⟩, ⟨5, 0, []⟩, ⟨6, 2, []⟩] (by kernel_rfl) ?_
  intro w hs
  refine ns_move rfl rfl ?_
  refine ns_nil rfl rfl rfl ?_
  refine ns_ldB pl_100 hs rfl rfl rfl (by rfl) ?_
  refine ns_move rfl rfl ?_
  refine ns_ldAB _ ag_45 hs rfl rfl rfl (by rfl) (by rfl) (by decide) ?_
  refine ns_idx _ sl_100 rfl rfl rfl rfl rfl (by omega) ?_
  refine ns_stA (#[.int .i64 x.key, .int .i64 x.val]) ag_45 rfl (by decide) hs rfl rfl rfl rfl (by intro u hu; simp at hu; rcases hu with rfl | rfl <;> rfl) ?hfit2 ?_
  case hfit2 =>
    rw [splice_size (by rw [List.length_drop, hlen, hsz]; split <;> omega), hsz]; omega
  refine fun w hs => ⟨trivial, ?_⟩
  refine ns_done ?_
  have hins := ins_cells (z := [.int .i64 0, .int .i64 0]) (c := enc x) (o := 0 + if cap = i + 1 then 0 else (i + 1) * 2) hsz (encs_len its) rfl rfl hcap hi (by simp) htk
  rw [← encs_insert its i x hi] at hins
  simp only [Nat.zero_add] at hs hins
  have hsz2 : (splice (splice cur (if cap = i + 1 then 0 else (i + 1) * 2) ((encs its).drop (i * 2))) (i * 2) (enc x)).size = cap * 2 := by
    have e1 : (splice cur (if cap = i + 1 then 0 else (i + 1) * 2) ((encs its).drop (i * 2))).size = cur.size := splice_size (by rw [List.length_drop, hlen, hsz]; split <;> omega)
    rw [splice_size (by rw [e1, hsz]; simp [enc]; omega), e1, hsz]
  have hs := hs.mk_arr' hcap hcm2 hsz2 hins
  have e : its.length + 1 = (its.insertIdx i x).length := (List.length_insertIdx_of_le_length hi _).symm
  rw [e] at hs
  exact ⟨_, res0, (hs.fold (node_fold c b (.slice (some ⟨g, 0, none⟩) (its.insertIdx i x).length cap) v2 (its.insertIdx i x) bs)).out⟩
theorem f94_ok (c b i x : Nat) (its : List It) (bs : List Nat) (hi : i ≤ bs.length) (hn : bs.length < 1000000) :
    Tri Try.prog 94 #[.pointer (some ⟨b, 1, none⟩), .int .i64 i, ptr x] (NodeP c b its bs) fun _ => NodeP c b its (bs.insertIdx i x) := by
  intro w0 F w hs
  obtain ⟨⟨v1, v2⟩, hs⟩ := hs.ex
  simp only [mul_assoc'] at hs
  obtain ⟨a, cp, rfl, hc, hcm⟩ := (hs.foc (PArr v2 bs)).arr_form
  have hlen : (bs.map ptr).length = bs.length := List.length_map ..
  refine calls_WP 39 #[] Try.func94 rfl Try.ntmps94 rfl (Nat.le_of_ble_eq_true rfl) ?_
  refine WP_seq ?_
  -- R0
  refine WP_seqr [⟨0, 0, []⟩] (by kernel_rfl) ?_
  refine ns_asg rfl rfl ?_
  refine ns_done ?_
  refine WP_seq ?_
  -- R1
  refine WP_seqr [⟨0, 0, []⟩, ⟨1, 0, []⟩, ⟨2, 0, []⟩, ⟨3, 1, []⟩, ⟨4, 0, []⟩, ⟨5, 2, []⟩, ⟨6, 2, []⟩, ⟨7, 0, []⟩, ⟨8, 2, []⟩] (by kernel_rfl) ?_
  refine ns_move rfl rfl ?_
  refine ns_move rfl rfl ?_
  refine ns_nil rfl rfl rfl ?_
  refine ns_ldB pl_101 hs rfl rfl rfl (by rfl) ?_
  refine ns_move rfl rfl ?_
  refine ns_lit [.pointer none] [.pointer none] sl_101 zr_85 (by decide) (by decide) hs rfl rfl rfl rfl (by simp [Value.cells]) rfl ?_
  refine fun b12 w hs hx => ⟨trivial, ?_⟩
  refine ns_app [.pointer none] sl_101 zr_85 by_85 rfl (by decide) (hs.foc (PArr (.slice a bs.length cp) bs)) rfl rfl rfl rfl rfl (St.cells (n := 1) hs (by rfl)) (by intro u hu; simp at hu; rcases hu with rfl; rfl) (by simp only [maxLen]; omega) (by omega) ?_
  refine fun v13 w hs hv => ⟨trivial, ?_⟩
  refine ns_nil rfl rfl rfl ?_
  obtain ⟨_, h0, _⟩ | ⟨g, cap, cur, rfl, hcap, hcm2, hsz, htk, hs⟩ := hs.arr
  · omega
  refine ns_st (.slice (some ⟨g, 0, none⟩) (bs.length + 1) cap) pl_101 hs rfl rfl rfl rfl rfl (by simp) ?_
  refine fun w hs => ⟨trivial, ?_⟩
  try simp only [Nat.zero_add] at hs
  try simp only [List.setIfInBounds_toArray] at hs
  try simp only [List.set_cons_succ] at hs
  try simp only [List.set_cons_zero] at hs
  refine ns_done ?_
  refine WP_seq ?_ -- S1
  refine WP_seq ?_
  -- R2
  refine WP_seqr [⟨0, 0, []⟩, ⟨1, 0, []⟩, ⟨2, 0, []⟩, ⟨3, 1, []⟩, ⟨4, 0, []⟩, ⟨5, 0, []⟩] (by kernel_rfl) ?_
  refine ns_move rfl rfl ?_
  refine ns_move rfl rfl ?_
  refine ns_nil rfl rfl rfl ?_
  refine ns_ldB pl_101 hs rfl rfl rfl (by rfl) ?_
  refine ns_len sl_101 rfl rfl rfl ?_
  refine ns_cmp true rfl rfl rfl rfl (by simp [cmpI]; omega) ?_
  refine ns_done ?_
  refine WP_true rfl ?_ -- if1
  -- R3
  refine WP_net hs mix [0, 1, 3, 0, 8, 31, 0, 64, 192, 0, 960, 2047] [⟨0, 0, []⟩, ⟨1, 0, []⟩, ⟨2, 1, []⟩, ⟨3, 0, []⟩, ⟨4, 0, []⟩, ⟨5, 0, []⟩, ⟨6, 0, []⟩, ⟨7, 0, []⟩, ⟨8, 1, []⟩, ⟨9, 0, []⟩, ⟨10, 0, []⟩, ⟨11, 2, []⟩] (by kernel_rfl) ?_
  intro w hs
  refine ns_move rfl rfl ?_
  refine ns_nil rfl rfl rfl ?_
  refine ns_ldB pl_101 hs rfl rfl rfl (by rfl) ?_
  refine ns_move rfl rfl ?_
  refine ns_add rfl rfl rfl rfl (by omega) (by omega) ?_
  refine ns_sliceLo' (i + 1) sl_101 rfl rfl rfl rfl (by omega) (by omega) ?_
  refine ns_move rfl rfl ?_
  refine ns_nil rfl rfl rfl ?_
  refine ns_ldB pl_101 hs rfl rfl rfl (by rfl) ?_
  refine ns_move rfl rfl ?_
  refine ns_sliceLo' _ sl_101 rfl rfl rfl rfl rfl (by omega) ?_
  have hne : ¬ cap = i := by omega
  refine ns_copy ((bs.map ptr).drop (i * 1)) sl_101 hs rfl rfl rfl rfl (by rw [List.length_drop, hlen]; simp only [Nat.min_def]; split <;> omega) ?hcl (fun u hu => ptrs_one bs u (List.mem_of_mem_drop hu)) ?hfit ?_
  case hcl =>
    rw [if_neg hne]
    intro j u hj
    rw [List.getElem?_drop] at hj
    have hjl : i * 1 + j < bs.length := by
      rcases Nat.lt_or_ge (i * 1 + j) bs.length with h | h
      · exact h
      · rw [List.getElem?_eq_none (by omega)] at hj; cases hj
    rw [add_plain, hs.c g _]
    have g1 := take_get htk (i * 1 + j) (by omega)
    rw [List.getElem?_append_left (by omega), hj] at g1
    simpa using g1
  case hfit =>
    rw [List.length_drop, hlen, hsz]; split <;> omega
  refine fun w hs => ⟨trivial, ?_⟩
  refine ns_done ?_
  -- R4
  refine WP_seqr [⟨0, 0, []⟩, ⟨1, 0, []⟩, ⟨2, 1, []⟩, ⟨3, 0, []⟩, ⟨4, 0, []⟩, ⟨5, 0, []⟩, ⟨6, 2, []⟩] (by kernel_rfl) ?_
  refine ns_move rfl rfl ?_
  refine ns_nil rfl rfl rfl ?_
  refine ns_ldB pl_101 hs rfl rfl rfl (by rfl) ?_
  refine ns_move rfl rfl ?_
  refine ns_move rfl rfl ?_
  refine ns_idx _ sl_101 rfl rfl rfl rfl rfl (by omega) ?_
  have e1 : (splice cur (0 + if cap = i + 1 then 0 else (i + 1) * 1) ((bs.map ptr).drop (i * 1))).size = cur.size := splice_size (by rw [List.length_drop, hlen, hsz]; split <;> omega)
  refine ns_st (ptr x) pl_85 hs rfl rfl rfl rfl rfl (by rw [e1, hsz]; omega) ?_
  refine fun w hs => ⟨trivial, ?_⟩
  refine ns_done ?_
  have hins := ins_cells (z := [.pointer none]) (c := [ptr x]) (o := 0 + if cap = i + 1 then 0 else (i + 1) * 1) hsz (hlen.trans (Nat.mul_one _).symm) rfl rfl hcap hi (by simp) htk
  rw [← ptrs_insert bs i x hi] at hins
  rw [← splice_one (by rw [e1, hsz]; omega)] at hs
  simp only [Nat.zero_add] at hs hins e1
  have hsz2 : (splice (splice cur (if cap = i + 1 then 0 else (i + 1) * 1) ((bs.map ptr).drop (i * 1))) (i * 1) [ptr x]).size = cap * 1 := by
    rw [splice_size (by rw [e1, hsz]; simp; omega), e1, hsz]
  have hs := hs.mk_arr' hcap hcm2 hsz2 hins
  have e : bs.length + 1 = (bs.insertIdx i x).length := (List.length_insertIdx_of_le_length hi _).symm
  rw [e] at hs
  exact ⟨_, res0, (hs.fold (node_fold c b v1 (.slice (some ⟨g, 0, none⟩) (bs.insertIdx i x).length cap) its (bs.insertIdx i x))).out⟩
theorem f95_ok (c b : Nat) (x : It) (its : List It) (bs : List Nat) :
    Tri Try.prog 95 #[.pointer (some ⟨b, 0, none⟩)] (NodeP c b (its ++ [x]) bs) fun v => pu (v = itV x) * NodeP c b its bs := by
  intro w0 F w hs
  obtain ⟨⟨v1, v2⟩, hs⟩ := hs.ex
  simp only [mul_assoc'] at hs
  obtain ⟨_, h0, _⟩ | ⟨g, cap, cur, rfl, hcap, hcm2, hsz, htk, hs⟩ := (hs.foc (IArr v1 (its ++ [x]))).arr
  · simp at h0
  have hl1 : (its ++ [x]).length = its.length + 1 := by simp
  rw [hl1] at hs htk hcap
  have hm := hcm2
  simp only [maxLen] at hm
  have ek : ((its.length + 1 : Nat) : Int) - 1 = (its.length : Int) := by omega
  refine calls_WP 29 #[.cell 2 45] Try.func95 rfl Try.ntmps95 rfl (Nat.le_of_ble_eq_true rfl) ?_
  refine WP_seq ?_
  -- R0
  refine WP_seqr [⟨0, 2, []⟩] (by kernel_rfl) ?_
  refine ns_alloc zc_45 hs rfl rfl ?_
  intro b2 w hs
  refine ns_done ?_
  refine WP_seq ?_
  -- R1
  refine WP_seqr [⟨0, 0, []⟩, ⟨1, 0, []⟩, ⟨2, 1, []⟩, ⟨3, 0, []⟩, ⟨4, 0, []⟩, ⟨5, 0, []⟩] (by kernel_rfl) ?_
  refine ns_move rfl rfl ?_
  refine ns_nil rfl rfl rfl ?_
  refine ns_ldB pl_100 hs rfl rfl rfl (by rfl) ?_
  refine ns_len sl_100 rfl rfl rfl ?_
  refine ns_sub rfl rfl rfl rfl (by omega) (by omega) ?_
  refine ns_asg rfl rfl ?_
  refine ns_done ?_
  refine WP_seq ?_
  -- R2
  refine WP_seqr [⟨0, 0, []⟩, ⟨1, 0, []⟩, ⟨2, 1, []⟩, ⟨3, 0, []⟩, ⟨4, 0, []⟩, ⟨5, 1, []⟩, ⟨6, 2, []⟩] (by kernel_rfl) ?_
  refine ns_move rfl rfl ?_
  refine ns_nil rfl rfl rfl ?_
  refine ns_ldB pl_100 hs rfl rfl rfl (by rfl) ?_
  refine ns_move rfl rfl ?_
  refine ns_idx its.length sl_100 rfl rfl rfl rfl ek (by omega) ?_
  refine ns_ldA [.int .i64 x.key, .int .i64 x.val] ag_45 rfl rfl rfl rfl (by decide) (it_cells hs htk its.length (by simp)) ?_
  refine ns_stA (#[.int .i64 x.key, .int .i64 x.val]) ag_45 rfl (by decide) hs rfl rfl rfl rfl (by intro u hu; simp at hu; rcases hu with rfl | rfl <;> rfl) (by simp) ?_
  refine fun w hs => ⟨trivial, ?_⟩
  refine ns_done ?_
  refine WP_seq ?_
  -- R3
  refine WP_seqr [⟨0, 2, []⟩] (by kernel_rfl) ?_
  refine ns_alloc zc_45 hs rfl rfl ?_
  intro b4 w hs
  refine ns_done ?_
  refine WP_seq ?_
  -- R4
  refine WP_net hs mix [0, 1, 3, 0, 0, 31, 63] [⟨0, 0, []⟩, ⟨1, 0, []⟩, ⟨2, 1, []⟩, ⟨3, 0, []⟩, ⟨4, 1, []⟩, ⟨5, 0, []⟩, ⟨6, 2, []⟩] (by kernel_rfl) ?_
  intro w hs
  refine ns_move rfl rfl ?_
  refine ns_nil rfl rfl rfl ?_
  refine ns_ldB pl_100 hs rfl rfl rfl (by rfl) ?_
  refine ns_move rfl rfl ?_
  refine ns_ldAB _ ag_45 hs rfl rfl rfl (by rfl) (by rfl) (by decide) ?_
  refine ns_idx its.length sl_100 rfl rfl rfl rfl ek (by omega) ?_
  refine ns_stA (#[.int .i64 0, .int .i64 0]) ag_45 rfl (by decide) hs rfl rfl rfl rfl (by intro u hu; simp at hu; rcases hu with rfl | rfl <;> rfl) (by rw [hsz]; omega) ?_
  refine fun w hs => ⟨trivial, ?_⟩
  refine ns_done ?_
  refine WP_seq ?_
  -- R5
  refine WP_seqr [⟨0, 0, []⟩, ⟨1, 0, []⟩, ⟨2, 0, []⟩, ⟨3, 1, []⟩, ⟨4, 0, []⟩, ⟨5, 0, []⟩, ⟨6, 0, []⟩, ⟨7, 2, []⟩] (by kernel_rfl) ?_
  refine ns_move rfl rfl ?_
  refine ns_move rfl rfl ?_
  refine ns_nil rfl rfl rfl ?_
  refine ns_ldB pl_100 hs rfl rfl rfl (by rfl) ?_
  refine ns_move rfl rfl ?_
  refine ns_sliceHi its.length sl_100 rfl rfl rfl rfl ek (by omega) ?_
  refine ns_nil rfl rfl rfl ?_
  refine ns_st (.slice (some ⟨g, 0, none⟩) its.length cap) pl_100 hs rfl rfl rfl rfl rfl (by simp) ?_
  refine fun w hs => ⟨trivial, ?_⟩
  try simp only [Nat.zero_add] at hs
  try simp only [List.setIfInBounds_toArray] at hs
  try simp only [List.set_cons_succ] at hs
  try simp only [List.set_cons_zero] at hs
  refine ns_done ?_
  refine WP_ret ?_
  have hpop := pop_cells (n := its.length) (c := [.int .i64 0, .int .i64 0]) hsz rfl hcap htk
  rw [← encs_take, List.take_left] at hpop
  have hload := run_loadVarA (P := Try.prog) (t := 45) (n := 2) (ad := ⟨b2, 0, none⟩) (vs := [.int .i64 x.key, .int .i64 x.val]) ag_45 rfl (by decide) w (St.cells (n := 2) hs (by rfl))
  have hs := (hs.foc (pts g (.cells (splice cur (its.length * 2) [.int .i64 0, .int .i64 0]) 45 (0, 0)))).mk_arr' (n := its.length) (by omega) hcm2 (by rw [splice_size (by simp; omega), hsz]) hpop
  exact ⟨_, resC 2 45 rfl hload, St.mk_pu rfl (hs.fold (node_fold c b (.slice (some ⟨g, 0, none⟩) its.length cap) v2 its bs)).out⟩
theorem f101_ok (c b x : Nat) (its : List It) (bs : List Nat) :
    Tri Try.prog 101 #[.pointer (some ⟨b, 1, none⟩)] (NodeP c b its (bs ++ [x])) fun v => pu (v = ptr x) * NodeP c b its bs := by
  intro w0 F w hs
  obtain ⟨⟨v1, v2⟩, hs⟩ := hs.ex
  simp only [mul_assoc'] at hs
  obtain ⟨_, h0, _⟩ | ⟨g, cap, cur, rfl, hcap, hcm2, hsz, htk, hs⟩ := (hs.foc (PArr v2 (bs ++ [x]))).arr
  · simp at h0
  have hl1 : (bs ++ [x]).length = bs.length + 1 := by simp
  rw [hl1] at hs htk hcap
  have hm := hcm2
  simp only [maxLen] at hm
  have ek : ((bs.length + 1 : Nat) : Int) - 1 = (bs.length : Int) := by omega
  refine calls_WP 29 #[.tmp 2] Try.func101 rfl Try.ntmps101 rfl (Nat.le_of_ble_eq_true rfl) ?_
  refine WP_seq ?_
  -- R0
  refine WP_seqr [⟨0, 0, []⟩] (by kernel_rfl) ?_
  refine ns_asg rfl rfl ?_
  refine ns_done ?_
  refine WP_seq ?_
  -- R1
  refine WP_seqr [⟨0, 0, []⟩, ⟨1, 0, []⟩, ⟨2, 1, []⟩, ⟨3, 0, []⟩, ⟨4, 0, []⟩, ⟨5, 0, []⟩] (by kernel_rfl) ?_
  refine ns_move rfl rfl ?_
  refine ns_nil rfl rfl rfl ?_
  refine ns_ldB pl_101 hs rfl rfl rfl (by rfl) ?_
  refine ns_len sl_101 rfl rfl rfl ?_
  refine ns_sub rfl rfl rfl rfl (by omega) (by omega) ?_
  refine ns_asg rfl rfl ?_
  refine ns_done ?_
  refine WP_seq ?_
  -- R2
  refine WP_seqr [⟨0, 0, []⟩, ⟨1, 0, []⟩, ⟨2, 1, []⟩, ⟨3, 0, []⟩, ⟨4, 0, []⟩, ⟨5, 1, []⟩, ⟨6, 0, []⟩] (by kernel_rfl) ?_
  refine ns_move rfl rfl ?_
  refine ns_nil rfl rfl rfl ?_
  refine ns_ldB pl_101 hs rfl rfl rfl (by rfl) ?_
  refine ns_move rfl rfl ?_
  refine ns_idx bs.length sl_101 rfl rfl rfl rfl ek (by omega) ?_
  refine ns_ld pl_85 rfl rfl rfl (ptr_cell hs htk bs.length (x := x) (by simp)) ?_
  refine ns_asg rfl rfl ?_
  refine ns_done ?_
  refine WP_seq ?_
  -- R3
  refine WP_seqr [⟨0, 0, []⟩] (by kernel_rfl) ?_
  refine ns_asg rfl rfl ?_
  refine ns_done ?_
  refine WP_seq ?_
  -- R4
  refine WP_seqr [⟨0, 0, []⟩, ⟨1, 0, []⟩, ⟨2, 1, []⟩, ⟨3, 0, []⟩, ⟨4, 0, []⟩, ⟨5, 0, []⟩, ⟨6, 2, []⟩] (by kernel_rfl) ?_
  refine ns_move rfl rfl ?_
  refine ns_nil rfl rfl rfl ?_
  refine ns_ldB pl_101 hs rfl rfl rfl (by rfl) ?_
  refine ns_move rfl rfl ?_
  refine ns_move rfl rfl ?_
  refine ns_idx bs.length sl_101 rfl rfl rfl rfl ek (by omega) ?_
  refine ns_st (.pointer none) pl_85 hs rfl rfl rfl rfl rfl (by rw [hsz]; omega) ?_
  refine fun w hs => ⟨trivial, ?_⟩
  rw [← splice_one (by rw [hsz]; omega), Nat.zero_add] at hs
  refine ns_done ?_
  refine WP_seq ?_
  -- R5
  refine WP_seqr [⟨0, 0, []⟩, ⟨1, 0, []⟩, ⟨2, 0, []⟩, ⟨3, 1, []⟩, ⟨4, 0, []⟩, ⟨5, 0, []⟩, ⟨6, 0, []⟩, ⟨7, 2, []⟩] (by kernel_rfl) ?_
  refine ns_move rfl rfl ?_
  refine ns_move rfl rfl ?_
  refine ns_nil rfl rfl rfl ?_
  refine ns_ldB pl_101 hs rfl rfl rfl (by rfl) ?_
  refine ns_move rfl rfl ?_
  refine ns_sliceHi bs.length sl_101 rfl rfl rfl rfl ek (by omega) ?_
  refine ns_nil rfl rfl rfl ?_
  refine ns_st (.slice (some ⟨g, 0, none⟩) bs.length cap) pl_101 hs rfl rfl rfl rfl rfl (by simp) ?_
  refine fun w hs => ⟨trivial, ?_⟩
  try simp only [Nat.zero_add] at hs
  try simp only [List.setIfInBounds_toArray] at hs
  try simp only [List.set_cons_succ] at hs
  try simp only [List.set_cons_zero] at hs
  refine ns_done ?_
  refine WP_ret ?_
  have hpop := pop_cells (n := bs.length) (c := [.pointer none]) hsz rfl hcap htk
  rw [← List.map_take, Nat.mul_one, List.take_left] at hpop
  have hs := (hs.foc (pts g (.cells (splice cur (bs.length * 1) [.pointer none]) 85 (0, 0)))).mk_arr' (n := bs.length) (xs := bs.map ptr) (sz := 1) (by omega) hcm2 (by rw [splice_size (by simp; omega), hsz]) (by simpa using hpop)
  exact ⟨_, res1 _, St.mk_pu rfl (hs.fold (node_fold c b v1 (.slice (some ⟨g, 0, none⟩) bs.length cap) its bs)).out⟩
theorem f96_ok (c b i : Nat) (x : It) (its : List It) (bs : List Nat) (hx : its[i]? = some x) :
    Tri Try.prog 96 #[.pointer (some ⟨b, 0, none⟩), .int .i64 i] (NodeP c b its bs) fun v => pu (v = itV x) * NodeP c b (its.eraseIdx i) bs := by
  have hi : i < its.length := (List.getElem?_eq_some_iff.1 hx).1
  intro w0 F w hs
  obtain ⟨⟨v1, v2⟩, hs⟩ := hs.ex
  simp only [mul_assoc'] at hs
  obtain ⟨_, h0, _⟩ | ⟨g, cap, cur, rfl, hcap, hcm2, hsz, htk, hs⟩ := (hs.foc (IArr v1 its)).arr
  · omega
  obtain ⟨n, hn⟩ : ∃ n, its.length = n + 1 := ⟨its.length - 1, by omega⟩
  have hm := hcm2
  simp only [maxLen] at hm
  have hl := encs_len its
  have ek : ((its.length : Nat) : Int) - 1 = (n : Int) := by omega
  have hne : ¬ cap = i := by omega
  refine calls_WP 47 #[.cell 4 45] Try.func96 rfl Try.ntmps96 rfl (Nat.le_of_ble_eq_true rfl) ?_
  refine WP_seq ?_
  -- R0
  refine WP_seqr [⟨0, 2, []⟩] (by kernel_rfl) ?_
  refine ns_alloc zc_45 hs rfl rfl ?_
  intro b4 w hs
  refine ns_done ?_
  refine WP_seq ?_
  -- R1
  refine WP_seqr [⟨0, 0, []⟩, ⟨1, 0, []⟩, ⟨2, 1, []⟩, ⟨3, 0, []⟩, ⟨4, 0, []⟩, ⟨5, 1, []⟩, ⟨6, 2, []⟩, ⟨7, 2, []⟩] (by kernel_rfl) ?_
  refine ns_move rfl rfl ?_
  refine ns_nil rfl rfl rfl ?_
  refine ns_ldB pl_100 hs rfl rfl rfl (by rfl) ?_
  refine ns_move rfl rfl ?_
  refine ns_idx i sl_100 rfl rfl rfl rfl rfl hi ?_
  refine ns_ldA [.int .i64 x.key, .int .i64 x.val] ag_45 rfl rfl rfl rfl (by decide) (it_cells hs htk i hx) ?_
  refine ns_alloc zc_45 hs rfl rfl ?_
  intro b5 w hs
  refine ns_stA (#[.int .i64 x.key, .int .i64 x.val]) ag_45 rfl (by decide) hs rfl rfl rfl rfl (by intro u hu; simp at hu; rcases hu with rfl | rfl <;> rfl) (by simp) ?_
  refine fun w hs => ⟨trivial, ?_⟩
  refine ns_done ?_
  refine WP_seq ?_
  -- R2
  refine WP_net hs mix [0, 1, 3, 0, 15, 0, 32, 96, 0, 256, 992, 2047] [⟨0, 0, []⟩, ⟨1, 0, []⟩, ⟨2, 1, []⟩, ⟨3, 0, []⟩, ⟨4, 0, []⟩, ⟨5, 0, []⟩, ⟨6, 0, []⟩, ⟨7, 1, []⟩, ⟨8, 0, []⟩, ⟨9, 0, []⟩, ⟨10, 0, []⟩, ⟨11, 2, []⟩] (by kernel_rfl) ?_
  intro w hs
  refine ns_move rfl rfl ?_
  refine ns_nil rfl rfl rfl ?_
  refine ns_ldB pl_100 hs rfl rfl rfl (by rfl) ?_
  refine ns_move rfl rfl ?_
  refine ns_sliceLo' i sl_100 rfl rfl rfl rfl rfl (by omega) ?_
  refine ns_move rfl rfl ?_
  refine ns_nil rfl rfl rfl ?_
  refine ns_ldB pl_100 hs rfl rfl rfl (by rfl) ?_
  refine ns_move rfl rfl ?_
  refine ns_add rfl rfl rfl rfl (by omega) (by omega) ?_
  refine ns_sliceLo' (i + 1) sl_100 rfl rfl rfl rfl (by omega) (by omega) ?_
  refine ns_copy ((encs its).drop ((i + 1) * 2)) sl_100 hs rfl rfl rfl rfl (by rw [List.length_drop, encs_len]; simp only [Nat.min_def]; split <;> omega) (drop_cells hs htk (by omega) (i + 1)) (fun u hu => encs_one its u (List.mem_of_mem_drop hu)) (by rw [List.length_drop, hl, hsz, if_neg hne]; omega) ?_
  refine fun w hs => ⟨trivial, ?_⟩
  rw [if_neg hne, Nat.zero_add] at hs
  refine ns_done ?_
  refine WP_seq ?_
  -- R3
  refine WP_seqr [⟨0, 2, []⟩] (by kernel_rfl) ?_
  refine ns_alloc zc_45 hs rfl rfl ?_
  intro b6 w hs
  refine ns_done ?_
  refine WP_seq ?_
  -- R4
  refine WP_net hs mix [0, 1, 3, 0, 8, 24, 56, 120, 0, 511, 1023] [⟨0, 0, []⟩, ⟨1, 0, []⟩, ⟨2, 1, []⟩, ⟨3, 0, []⟩, ⟨4, 0, []⟩, ⟨5, 1, []⟩, ⟨6, 0, []⟩, ⟨7, 0, []⟩, ⟨8, 1, []⟩, ⟨9, 0, []⟩, ⟨10, 2, []⟩] (by kernel_rfl) ?_
  intro w hs
  refine ns_move rfl rfl ?_
  refine ns_nil rfl rfl rfl ?_
  refine ns_ldB pl_100 hs rfl rfl rfl (by rfl) ?_
  refine ns_move rfl rfl ?_
  refine ns_nil rfl rfl rfl ?_
  refine ns_ldB pl_100 hs rfl rfl rfl (by rfl) ?_
  refine ns_len sl_100 rfl rfl rfl ?_
  refine ns_sub rfl rfl rfl rfl (by omega) (by omega) ?_
  refine ns_ldAB [.int .i64 0, .int .i64 0] ag_45 hs rfl rfl rfl (by rfl) (by rfl) (by decide) ?_
  refine ns_idx n sl_100 rfl rfl rfl rfl ek (by omega) ?_
  have e1 : (splice cur (i * 2) ((encs its).drop ((i + 1) * 2))).size = cur.size := splice_size (by rw [List.length_drop, hl, hsz]; omega)
  refine ns_stA (#[.int .i64 0, .int .i64 0]) ag_45 rfl (by decide) hs rfl rfl rfl rfl (by intro u hu; simp at hu; rcases hu with rfl | rfl <;> rfl) (by rw [e1, hsz]; omega) ?_
  refine fun w hs => ⟨trivial, ?_⟩
  rw [Nat.zero_add] at hs
  refine ns_done ?_
  refine WP_seq ?_
  -- R5
  refine WP_net hs mix [0, 0, 2, 6, 0, 16, 48, 112, 240, 510, 1023, 2047] [⟨0, 0, []⟩, ⟨1, 0, []⟩, ⟨2, 0, []⟩, ⟨3, 1, []⟩, ⟨4, 0, []⟩, ⟨5, 0, []⟩, ⟨6, 1, []⟩, ⟨7, 0, []⟩, ⟨8, 0, []⟩, ⟨9, 0, []⟩, ⟨10, 0, []⟩, ⟨11, 2, []⟩] (by kernel_rfl) ?_
  intro w hs
  refine ns_move rfl rfl ?_
  refine ns_move rfl rfl ?_
  refine ns_nil rfl rfl rfl ?_
  refine ns_ldB pl_100 hs rfl rfl rfl (by rfl) ?_
  refine ns_move rfl rfl ?_
  refine ns_nil rfl rfl rfl ?_
  refine ns_ldB pl_100 hs rfl rfl rfl (by rfl) ?_
  refine ns_len sl_100 rfl rfl rfl ?_
  refine ns_sub rfl rfl rfl rfl (by omega) (by omega) ?_
  refine ns_sliceHi n sl_100 rfl rfl rfl rfl ek (by omega) ?_
  refine ns_nil rfl rfl rfl ?_
  refine ns_st (.slice (some ⟨g, 0, none⟩) n cap) pl_100 hs rfl rfl rfl rfl rfl (by simp) ?_
  refine fun w hs => ⟨trivial, ?_⟩
  try simp only [List.setIfInBounds_toArray] at hs
  try simp only [List.set_cons_succ] at hs
  try simp only [List.set_cons_zero] at hs
  refine ns_done ?_
  refine WP_seq ?_
  -- R6
  refine WP_seqr [⟨0, 1, []⟩, ⟨1, 2, []⟩] (by kernel_rfl) ?_
  refine ns_ldAB _ ag_45 hs rfl rfl rfl (by rfl) (by rfl) (by decide) ?_
  refine ns_stA (#[.int .i64 x.key, .int .i64 x.val]) ag_45 rfl (by decide) hs rfl rfl rfl rfl (by intro u hu; simp at hu; rcases hu with rfl | rfl <;> rfl) (by simp) ?_
  refine fun w hs => ⟨trivial, ?_⟩
  refine ns_done ?_
  refine WP_ret ?_
  have hdel := del_cells (i := i) (n := n) (c := [.int .i64 0, .int .i64 0]) hsz (hl.trans (by rw [hn])) rfl (by omega) (by omega) (by rw [← hn]; exact htk)
  rw [← encs_erase] at hdel
  have hload := run_loadVarA (P := Try.prog) (t := 45) (n := 2) (ad := ⟨b4, 0, none⟩) (vs := [.int .i64 x.key, .int .i64 x.val]) ag_45 rfl (by decide) w (St.cells (n := 2) hs (by rfl))
  have en : (its.eraseIdx i).length = n := by rw [List.length_eraseIdx, if_pos hi]; omega
  have hs := (hs.foc (pts g (.cells (splice (splice cur (i * 2) ((encs its).drop ((i + 1) * 2))) (n * 2) [.int .i64 0, .int .i64 0]) 45 (0, 0)))).mk_arr' (n := n) (cap := cap) (by omega) hcm2 (by rw [splice_size (by rw [e1, hsz]; simp; omega), e1, hsz]) hdel
  rw [← en] at hs
  exact ⟨_, resC 4 45 rfl hload, St.mk_pu rfl (hs.fold (node_fold c b (.slice (some ⟨g, 0, none⟩) (its.eraseIdx i).length cap) v2 (its.eraseIdx i) bs)).out⟩
theorem f102_ok (c b i x : Nat) (its : List It) (bs : List Nat) (hx : bs[i]? = some x) :
    Tri Try.prog 102 #[.pointer (some ⟨b, 1, none⟩), .int .i64 i] (NodeP c b its bs) fun v => pu (v = ptr x) * NodeP c b its (bs.eraseIdx i) := by
  have hi : i < bs.length := (List.getElem?_eq_some_iff.1 hx).1
  intro w0 F w hs
  obtain ⟨⟨v1, v2⟩, hs⟩ := hs.ex
  simp only [mul_assoc'] at hs
  obtain ⟨_, h0, _⟩ | ⟨g, cap, cur, rfl, hcap, hcm2, hsz, htk, hs⟩ := (hs.foc (PArr v2 bs)).arr
  · omega
  obtain ⟨n, hn⟩ : ∃ n, bs.length = n + 1 := ⟨bs.length - 1, by omega⟩
  have hm := hcm2
  simp only [maxLen] at hm
  have hl : (bs.map ptr).length = bs.length := List.length_map ..
  have ek : ((bs.length : Nat) : Int) - 1 = (n : Int) := by omega
  have hne : ¬ cap = i := by omega
  refine calls_WP 47 #[.tmp 4] Try.func102 rfl Try.ntmps102 rfl (Nat.le_of_ble_eq_true rfl) ?_
  refine WP_seq ?_
  -- R0
  refine WP_seqr [⟨0, 0, []⟩] (by kernel_rfl) ?_
  refine ns_asg rfl rfl ?_
  refine ns_done ?_
  refine WP_seq ?_
  -- R1
  refine WP_seqr [⟨0, 0, []⟩, ⟨1, 0, []⟩, ⟨2, 1, []⟩, ⟨3, 0, []⟩, ⟨4, 0, []⟩, ⟨5, 1, []⟩, ⟨6, 0, []⟩] (by kernel_rfl) ?_
  refine ns_move rfl rfl ?_
  refine ns_nil rfl rfl rfl ?_
  refine ns_ldB pl_101 hs rfl rfl rfl (by rfl) ?_
  refine ns_move rfl rfl ?_
  refine ns_idx i sl_101 rfl rfl rfl rfl rfl hi ?_
  refine ns_ld pl_85 rfl rfl rfl (ptr_cell hs htk i hx) ?_
  refine ns_asg rfl rfl ?_
  refine ns_done ?_
  refine WP_seq ?_
  -- R2
  refine WP_net hs mix [0, 1, 3, 0, 15, 0, 32, 96, 0, 256, 992, 2047] [⟨0, 0, []⟩, ⟨1, 0, []⟩, ⟨2, 1, []⟩, ⟨3, 0, []⟩, ⟨4, 0, []⟩, ⟨5, 0, []⟩, ⟨6, 0, []⟩, ⟨7, 1, []⟩, ⟨8, 0, []⟩, ⟨9, 0, []⟩, ⟨10, 0, []⟩, ⟨11, 2, []⟩] (by kernel_rfl) ?_
  intro w hs
  refine ns_move rfl rfl ?_
  refine ns_nil rfl rfl rfl ?_
  refine ns_ldB pl_101 hs rfl rfl rfl (by rfl) ?_
  refine ns_move rfl rfl ?_
  refine ns_sliceLo' i sl_101 rfl rfl rfl rfl rfl (by omega) ?_
  refine ns_move rfl rfl ?_
  refine ns_nil rfl rfl rfl ?_
  refine ns_ldB pl_101 hs rfl rfl rfl (by rfl) ?_
  refine ns_move rfl rfl ?_
  refine ns_add rfl rfl rfl rfl (by omega) (by omega) ?_
  refine ns_sliceLo' (i + 1) sl_101 rfl rfl rfl rfl (by omega) (by omega) ?_
  refine ns_copy ((bs.map ptr).drop ((i + 1) * 1)) sl_101 hs rfl rfl rfl rfl (by rw [List.length_drop, hl]; simp only [Nat.min_def]; split <;> omega) (drop_cells hs htk (by omega) (i + 1)) (fun u hu => ptrs_one bs u (List.mem_of_mem_drop hu)) (by rw [List.length_drop, hl, hsz, if_neg hne]; omega) ?_
  refine fun w hs => ⟨trivial, ?_⟩
  rw [if_neg hne, Nat.zero_add] at hs
  refine ns_done ?_
  refine WP_seq ?_
  -- R3
  refine WP_seqr [⟨0, 0, []⟩] (by kernel_rfl) ?_
  refine ns_asg rfl rfl ?_
  refine ns_done ?_
  refine WP_seq ?_
  -- R4
  refine WP_net hs mix [0, 1, 3, 0, 8, 24, 56, 120, 0, 511, 1023] [⟨0, 0, []⟩, ⟨1, 0, []⟩, ⟨2, 1, []⟩, ⟨3, 0, []⟩, ⟨4, 0, []⟩, ⟨5, 1, []⟩, ⟨6, 0, []⟩, ⟨7, 0, []⟩, ⟨8, 0, []⟩, ⟨9, 0, []⟩, ⟨10, 2, []⟩] (by kernel_rfl) ?_
  intro w hs
  refine ns_move rfl rfl ?_
  refine ns_nil rfl rfl rfl ?_
  refine ns_ldB pl_101 hs rfl rfl rfl (by rfl) ?_
  refine ns_move rfl rfl ?_
  refine ns_nil rfl rfl rfl ?_
  refine ns_ldB pl_101 hs rfl rfl rfl (by rfl) ?_
  refine ns_len sl_101 rfl rfl rfl ?_
  refine ns_sub rfl rfl rfl rfl (by omega) (by omega) ?_
  refine ns_move rfl rfl ?_
  refine ns_idx n sl_101 rfl rfl rfl rfl ek (by omega) ?_
  have e1 : (splice cur (i * 1) ((bs.map ptr).drop ((i + 1) * 1))).size = cur.size := splice_size (by rw [List.length_drop, hl, hsz]; omega)
  refine ns_st (.pointer none) pl_85 hs rfl rfl rfl rfl rfl (by rw [e1, hsz]; omega) ?_
  refine fun w hs => ⟨trivial, ?_⟩
  rw [← splice_one (o := 0 + n * 1) (by rw [e1, hsz]; omega), Nat.zero_add] at hs
  refine ns_done ?_
  refine WP_seq ?_
  -- R5
  refine WP_net hs mix [0, 0, 2, 6, 0, 16, 48, 112, 240, 510, 1023, 2047] [⟨0, 0, []⟩, ⟨1, 0, []⟩, ⟨2, 0, []⟩, ⟨3, 1, []⟩, ⟨4, 0, []⟩, ⟨5, 0, []⟩, ⟨6, 1, []⟩, ⟨7, 0, []⟩, ⟨8, 0, []⟩, ⟨9, 0, []⟩, ⟨10, 0, []⟩, ⟨11, 2, []⟩] (by kernel_rfl) ?_
  intro w hs
  refine ns_move rfl rfl ?_
  refine ns_move rfl rfl ?_
  refine ns_nil rfl rfl rfl ?_
  refine ns_ldB pl_101 hs rfl rfl rfl (by rfl) ?_
  refine ns_move rfl rfl ?_
  refine ns_nil rfl rfl rfl ?_
  refine ns_ldB pl_101 hs rfl rfl rfl (by rfl) ?_
  refine ns_len sl_101 rfl rfl rfl ?_
  refine ns_sub rfl rfl rfl rfl (by omega) (by omega) ?_
  refine ns_sliceHi n sl_101 rfl rfl rfl rfl ek (by omega) ?_
  refine ns_nil rfl rfl rfl ?_
  refine ns_st (.slice (some ⟨g, 0, none⟩) n cap) pl_101 hs rfl rfl rfl rfl rfl (by simp) ?_
  refine fun w hs => ⟨trivial, ?_⟩
  try simp only [Nat.zero_add] at hs
  try simp only [List.setIfInBounds_toArray] at hs
  try simp only [List.set_cons_succ] at hs
  try simp only [List.set_cons_zero] at hs
  refine ns_done ?_
  refine WP_seq ?_
  -- R6
  refine WP_seqr [⟨0, 0, []⟩, ⟨1, 0, []⟩] (by kernel_rfl) ?_
  refine ns_move rfl rfl ?_
  refine ns_asg rfl rfl ?_
  refine ns_done ?_
  refine WP_ret ?_
  have hdel := del_cells (i := i) (n := n) (c := [.pointer none]) hsz (hl.trans (by rw [hn]; omega)) rfl (by omega) (by omega) (by rw [← hn]; exact htk)
  rw [← ptrs_erase] at hdel
  have en : (bs.eraseIdx i).length = n := by rw [List.length_eraseIdx, if_pos hi]; omega
  have hs := (hs.foc (pts g (.cells (splice (splice cur (i * 1) ((bs.map ptr).drop ((i + 1) * 1))) (n * 1) [.pointer none]) 85 (0, 0)))).mk_arr' (n := n) (cap := cap) (by omega) hcm2 (by rw [splice_size (by rw [e1, hsz]; simp; omega), e1, hsz]) hdel
  rw [← en] at hs
  exact ⟨_, res1 _, St.mk_pu rfl (hs.fold (node_fold c b v1 (.slice (some ⟨g, 0, none⟩) (bs.eraseIdx i).length cap) its (bs.eraseIdx i))).out⟩
theorem f81_ok (c b k : Nat) (its : List It) (bs : List Nat) (hk : k ≤ its.length) :
    Tri Try.prog 81 #[.pointer (some ⟨b, 0, none⟩), .int .i64 k] (NodeP c b its bs) fun _ => NodeP c b (its.take k) bs := by
  intro w0 F w hs
  obtain ⟨⟨v1, v2⟩, hs⟩ := hs.ex
  simp only [mul_assoc'] at hs
  obtain ⟨a, cap, rfl, hc, hcm⟩ := (hs.foc (IArr v1 its)).arr_form
  have ht : (its.take k).length = k := by rw [List.length_take]; omega
  have hm := hcm
  simp only [maxLen] at hm
  refine calls_WP 29 #[] Try.func81 rfl Try.ntmps81 rfl (Nat.le_of_ble_eq_true rfl) ?_
  refine WP_seq ?_
  -- R0
  refine WP_seqr [⟨0, 0, []⟩] (by kernel_rfl) ?_
  refine ns_asg rfl rfl ?_
  refine ns_done ?_
  refine WP_seq ?_
  -- R1
  refine WP_net hs mix [0, 0, 2, 6, 0, 30, 0, 64, 192, 0, 960, 511, 2559, 8191] [⟨0, 0, []⟩, ⟨1, 0, []⟩, ⟨2, 0, []⟩, ⟨3, 1, []⟩, ⟨4, 0, []⟩, ⟨5, 0, []⟩, ⟨6, 0, []⟩, ⟨7, 0, []⟩, ⟨8, 1, []⟩, ⟨9, 0, []⟩, ⟨10, 0, []⟩, ⟨11, 0, []⟩, ⟨12, 2, []⟩, ⟨13, 0, []⟩] (by kernel_rfl) ?_
  intro w hs
  refine ns_move rfl rfl ?_
  refine ns_move rfl rfl ?_
  refine ns_nil rfl rfl rfl ?_
  refine ns_ldB pl_100 hs rfl rfl rfl (by rfl) ?_
  refine ns_move rfl rfl ?_
  refine ns_sliceHi k sl_100 rfl rfl rfl rfl rfl (by omega) ?_
  refine ns_move rfl rfl ?_
  refine ns_nil rfl rfl rfl ?_
  refine ns_ldB pl_100 hs rfl rfl rfl (by rfl) ?_
  refine ns_move rfl rfl ?_
  refine ns_sliceLo k sl_100 rfl rfl rfl rfl rfl (by omega) ?_
  refine ns_nil rfl rfl rfl ?_
  refine ns_st (.slice a k cap) pl_100 hs rfl rfl rfl rfl rfl (by simp) ?_
  refine fun w hs => ⟨trivial, ?_⟩
  try simp only [Nat.zero_add] at hs
  try simp only [List.setIfInBounds_toArray] at hs
  try simp only [List.set_cons_succ] at hs
  try simp only [List.set_cons_zero] at hs
  refine ns_asg rfl rfl ?_
  refine ns_done ?_
  have hs : St w0 (Arr 45 2 (.slice a k cap) k (encs (its.take k)) * (pts b (.cells #[.slice a k cap, v2, ptr c] 103 (0, 0)) * (PArr v2 bs * F))) w := by
    rcases (hs.foc (IArr (.slice a its.length cap) its)).arr with ⟨h0, h1, h2, hs⟩ | ⟨g, cap2, cur, h0, h1, h2, h3, h4, hs⟩
    · have : its = [] := List.eq_nil_of_length_eq_zero h1
      subst this
      have : k = 0 := by simpa using hk
      subst this
      simp at h0
      obtain ⟨rfl, rfl⟩ := h0
      simp only [IArr, PArr, List.length_nil, List.take_nil, encs_nil, Arr.nil, one_mul'] at hs ⊢
      exact hs
    · cases h0
      refine (hs.foc (pts g (.cells cur 45 (0, 0)))).mk_arr' (by omega) h2 h3 ?_
      have := congrArg (List.take (k * 2)) h4
      rw [List.take_take, Nat.min_eq_left (by omega)] at this
      rw [this]
      rw [encs_take]
  refine WP_seq ?_
  -- R2
  refine WP_seqr [⟨0, 2, []⟩] (by kernel_rfl) ?_
  refine ns_alloc zc_45 hs rfl rfl ?_
  intro b5 w hs
  refine ns_done ?_
  refine WP_seq ?_
  -- R3
  refine WP_seqr [⟨0, 0, []⟩] (by kernel_rfl) ?_
  refine ns_asg rfl rfl ?_
  refine ns_done ?_
  refine WP_block ?_
  refine WP_loop (fun m σ w => ∃ j : Nat, m = its.length - k - j ∧ j ≤ its.length - k ∧ σ 6 = .int .i64 j ∧ σ 5 = .pointer (some ⟨b5, 0, none⟩) ∧ σ 4 = .slice (if cap = k then a else a.map (·.add (k * 2))) (its.length - k) (cap - k) ∧ St w0 (pts b5 (.cells #[.int .i64 0, .int .i64 0] 45 (0, 0)) * (Arr 45 2 (.slice a k cap) k (encs (its.take k)) * (pts b (.cells #[.slice a k cap, v2, ptr c] 103 (0, 0)) * (PArr v2 bs * F)))) w) (its.length - k) ?_ ?_ -- L1
  · exact ⟨0, by omega, by omega, rfl, rfl, rfl, hs⟩
  rintro m σ w ⟨j, rfl, hj, h6, h5, h4, hs⟩
  obtain ⟨σ, rfl⟩ := rebase h6
  obtain ⟨σ, rfl⟩ := rebase (σ := σ) h5
  obtain ⟨σ, rfl⟩ := rebase (σ := σ) h4
  clear h4 h5 h6
  refine WP_seq ?_ -- S1
  refine WP_seq ?_
  -- R4
  refine WP_seqr [⟨0, 0, []⟩, ⟨1, 0, []⟩, ⟨2, 0, []⟩, ⟨3, 0, []⟩] (by kernel_rfl) ?_
  have hu := hs
  refine ns_move rfl rfl ?_
  refine ns_move rfl rfl ?_
  refine ns_len sl_100 rfl rfl rfl ?_
  refine ns_cmp _ rfl rfl rfl rfl rfl ?_
  refine ns_done ?_
  refine WP_if' rfl (fun hif1 => ?_) (fun hif1 => ?_)
  · refine WP_exit ?_
    have hs := (hs.foc (Arr 45 2 (.slice a k cap) k (encs (its.take k))))
    rw [show Arr 45 2 (.slice a k cap) k (encs (its.take k)) = IArr (.slice a k cap) (its.take k) from by simp only [IArr, ht]] at hs
    exact ⟨_, res0, (hs.fold (node_fold c b (.slice a k cap) v2 (its.take k) bs)).out⟩
  refine WP_skip ?_
  refine WP_seq ?_ -- S2
  refine WP_block ?_
  have hj2 : j < its.length - k := by simpa using hif1
  obtain ⟨h0, h1, _⟩ | ⟨g, cap2, cur, h0, h1, h2, h3, hq, hs⟩ := (hs.foc (Arr 45 2 (.slice a k cap) k (encs (its.take k)))).arr
  · simp at h0; omega
  cases h0
  have hz : (if cap = k then (some ⟨g, 0, none⟩ : Option Addr) else (some (⟨g, 0, none⟩ : Addr)).map (·.add (k * 2))) = some ⟨g, k * 2, none⟩ := by
    rw [if_neg (by omega)]; simp [add_plain]
  -- R6
  refine WP_seqr [⟨0, 0, []⟩, ⟨1, 0, []⟩, ⟨2, 1, []⟩, ⟨3, 0, []⟩, ⟨4, 2, []⟩] (by kernel_rfl) ?_
  refine ns_move rfl rfl ?_
  refine ns_move rfl rfl ?_
  refine ns_ldAB [.int .i64 0, .int .i64 0] ag_45 hs rfl rfl rfl (by rfl) (by rfl) (by decide) ?_
  refine ns_idx j sl_100 rfl rfl (show _ = Value.slice (some ⟨g, k * 2, none⟩) _ _ from congrArg (fun a => Value.slice a (its.length - k) (cap - k)) hz) rfl rfl hj2 ?_
  refine ns_stA (#[.int .i64 0, .int .i64 0]) ag_45 rfl (by decide) hs rfl rfl rfl rfl (by intro u hu; simp at hu; rcases hu with rfl | rfl <;> rfl) (by rw [h3]; omega) ?_
  refine fun w hs => ⟨trivial, ?_⟩
  refine ns_done ?_
  have hs := (hs.foc (pts g (.cells (splice cur (k * 2 + j * 2) [.int .i64 0, .int .i64 0]) 45 (0, 0)))).mk_arr' (n := k) (sz := 2) (xs := encs (its.take k)) h1 h2 (by rw [splice_size (by rw [h3]; simp; omega), h3]) (by rw [head_cells (m := k * 2) (by omega) (Nat.le_refl _) (by rw [h3]; simp; omega) hq, List.take_of_length_le (by rw [encs_len, ht]; exact Nat.le_refl _)])
  -- R5
  refine WP_seqr [⟨0, 0, []⟩, ⟨1, 0, []⟩, ⟨2, 0, []⟩] (by kernel_rfl) ?_
  refine ns_move rfl rfl ?_
  refine ns_add rfl rfl rfl rfl (by omega) (by omega) ?_
  refine ns_asg rfl rfl ?_
  refine ns_done ?_
  exact ⟨its.length - k - (j + 1), by omega, j + 1, rfl, by omega, congrArg (Value.int .i64) (by omega : ((j : Int) + 1) = ((j + 1 : Nat) : Int)), rfl, rfl, by first | exact hs | exact hs.eq (by ac_rfl)⟩
theorem f82_ok (c b k : Nat) (its : List It) (bs : List Nat) (hk : k ≤ bs.length) :
    Tri Try.prog 82 #[.pointer (some ⟨b, 1, none⟩), .int .i64 k] (NodeP c b its bs) fun _ => NodeP c b its (bs.take k) := by
  intro w0 F w hs
  obtain ⟨⟨v1, v2⟩, hs⟩ := hs.ex
  simp only [mul_assoc'] at hs
  obtain ⟨a, cap, rfl, hc, hcm⟩ := (hs.foc (PArr v2 bs)).arr_form
  have ht : (bs.take k).length = k := by rw [List.length_take]; omega
  have hm := hcm
  simp only [maxLen] at hm
  refine calls_WP 29 #[] Try.func82 rfl Try.ntmps82 rfl (Nat.le_of_ble_eq_true rfl) ?_
  refine WP_seq ?_
  -- R0
  refine WP_seqr [⟨0, 0, []⟩] (by kernel_rfl) ?_
  refine ns_asg rfl rfl ?_
  refine ns_done ?_
  refine WP_seq ?_
  -- R1
  refine WP_net hs mix [0, 0, 2, 6, 0, 30, 0, 64, 192, 0, 960, 511, 2559, 8191] [⟨0, 0, []⟩, ⟨1, 0, []⟩, ⟨2, 0, []⟩, ⟨3, 1, []⟩, ⟨4, 0, []⟩, ⟨5, 0, []⟩, ⟨6, 0, []⟩, ⟨7, 0, []⟩, ⟨8, 1, []⟩, ⟨9, 0, []⟩, ⟨10, 0, []⟩, ⟨11, 0, []⟩, ⟨12, 2, []⟩, ⟨13, 0, []⟩] (by kernel_rfl) ?_
  intro w hs
  refine ns_move rfl rfl ?_
  refine ns_move rfl rfl ?_
  refine ns_nil rfl rfl rfl ?_
  refine ns_ldB pl_101 hs rfl rfl rfl (by rfl) ?_
  refine ns_move rfl rfl ?_
  refine ns_sliceHi k sl_101 rfl rfl rfl rfl rfl (by omega) ?_
  refine ns_move rfl rfl ?_
  refine ns_nil rfl rfl rfl ?_
  refine ns_ldB pl_101 hs rfl rfl rfl (by rfl) ?_
  refine ns_move rfl rfl ?_
  refine ns_sliceLo k sl_101 rfl rfl rfl rfl rfl (by omega) ?_
  refine ns_nil rfl rfl rfl ?_
  refine ns_st (.slice a k cap) pl_101 hs rfl rfl rfl rfl rfl (by simp) ?_
  refine fun w hs => ⟨trivial, ?_⟩
  try simp only [Nat.zero_add] at hs
  try simp only [List.setIfInBounds_toArray] at hs
  try simp only [List.set_cons_succ] at hs
  try simp only [List.set_cons_zero] at hs
  refine ns_asg rfl rfl ?_
  refine ns_done ?_
  have hs : St w0 (Arr 85 1 (.slice a k cap) k ((bs.take k).map ptr) * (pts b (.cells #[v1, .slice a k cap, ptr c] 103 (0, 0)) * (IArr v1 its * F))) w := by
    rcases (hs.foc (PArr (.slice a bs.length cap) bs)).arr with ⟨h0, h1, h2, hs⟩ | ⟨g, cap2, cur, h0, h1, h2, h3, h4, hs⟩
    · have : bs = [] := List.eq_nil_of_length_eq_zero h1
      subst this
      have : k = 0 := by simpa using hk
      subst this
      simp at h0
      obtain ⟨rfl, rfl⟩ := h0
      simp only [IArr, PArr, List.length_nil, List.take_nil, List.map_nil, Arr.nil, one_mul'] at hs ⊢
      exact hs
    · cases h0
      refine (hs.foc (pts g (.cells cur 85 (0, 0)))).mk_arr' (by omega) h2 h3 ?_
      have := congrArg (List.take (k * 1)) h4
      rw [List.take_take, Nat.min_eq_left (by omega)] at this
      rw [this]
      rw [Nat.mul_one, List.map_take]
  refine WP_seq ?_
  -- R2
  refine WP_seqr [⟨0, 0, []⟩] (by kernel_rfl) ?_
  refine ns_asg rfl rfl ?_
  refine ns_done ?_
  refine WP_seq ?_
  -- R3
  refine WP_seqr [⟨0, 0, []⟩] (by kernel_rfl) ?_
  refine ns_asg rfl rfl ?_
  refine ns_done ?_
  refine WP_block ?_
  refine WP_loop (fun m σ w => ∃ j : Nat, m = bs.length - k - j ∧ j ≤ bs.length - k ∧ σ 6 = .int .i64 j ∧ σ 5 = .pointer none ∧ σ 4 = .slice (if cap = k then a else a.map (·.add (k * 1))) (bs.length - k) (cap - k) ∧ St w0 ((Arr 85 1 (.slice a k cap) k ((bs.take k).map ptr) * (pts b (.cells #[v1, .slice a k cap, ptr c] 103 (0, 0)) * (IArr v1 its * F)))) w) (bs.length - k) ?_ ?_ -- L1
  · exact ⟨0, by omega, by omega, rfl, rfl, rfl, hs⟩
  rintro m σ w ⟨j, rfl, hj, h6, h5, h4, hs⟩
  obtain ⟨σ, rfl⟩ := rebase h6
  obtain ⟨σ, rfl⟩ := rebase (σ := σ) h5
  obtain ⟨σ, rfl⟩ := rebase (σ := σ) h4
  clear h4 h5 h6
  refine WP_seq ?_ -- S1
  refine WP_seq ?_
  -- R4
  refine WP_seqr [⟨0, 0, []⟩, ⟨1, 0, []⟩, ⟨2, 0, []⟩, ⟨3, 0, []⟩] (by kernel_rfl) ?_
  have hu := hs
  refine ns_move rfl rfl ?_
  refine ns_move rfl rfl ?_
  refine ns_len sl_101 rfl rfl rfl ?_
  refine ns_cmp _ rfl rfl rfl rfl rfl ?_
  refine ns_done ?_
  refine WP_if' rfl (fun hif1 => ?_) (fun hif1 => ?_)
  · refine WP_exit ?_
    have hs := (hs.foc (Arr 85 1 (.slice a k cap) k ((bs.take k).map ptr)))
    rw [show Arr 85 1 (.slice a k cap) k ((bs.take k).map ptr) = PArr (.slice a k cap) (bs.take k) from by simp only [PArr, ht]] at hs
    exact ⟨_, res0, (hs.fold (node_fold c b v1 (.slice a k cap) its (bs.take k))).out⟩
  refine WP_skip ?_
  refine WP_seq ?_ -- S2
  refine WP_block ?_
  have hj2 : j < bs.length - k := by simpa using hif1
  obtain ⟨h0, h1, _⟩ | ⟨g, cap2, cur, h0, h1, h2, h3, hq, hs⟩ := (hs.foc (Arr 85 1 (.slice a k cap) k ((bs.take k).map ptr))).arr
  · simp at h0; omega
  cases h0
  have hz : (if cap = k then (some ⟨g, 0, none⟩ : Option Addr) else (some (⟨g, 0, none⟩ : Addr)).map (·.add (k * 1))) = some ⟨g, k * 1, none⟩ := by
    rw [if_neg (by omega)]; simp [add_plain]
  -- R6
  refine WP_seqr [⟨0, 0, []⟩, ⟨1, 0, []⟩, ⟨2, 0, []⟩, ⟨3, 0, []⟩, ⟨4, 2, []⟩] (by kernel_rfl) ?_
  refine ns_move rfl rfl ?_
  refine ns_move rfl rfl ?_
  refine ns_move rfl rfl ?_
  refine ns_idx j sl_101 rfl rfl (show _ = Value.slice (some ⟨g, k * 1, none⟩) _ _ from congrArg (fun a => Value.slice a (bs.length - k) (cap - k)) hz) rfl rfl hj2 ?_
  refine ns_st (.pointer none) pl_85 hs rfl rfl rfl rfl rfl (by rw [h3]; omega) ?_
  refine fun w hs => ⟨trivial, ?_⟩
  rw [← splice_one (o := k * 1 + j * 1) (by rw [h3]; omega)] at hs
  refine ns_done ?_
  have hs := (hs.foc (pts g (.cells (splice cur (k * 1 + j * 1) [.pointer none]) 85 (0, 0)))).mk_arr' (n := k) (sz := 1) (xs := (bs.take k).map ptr) h1 h2 (by rw [splice_size (by rw [h3]; simp; omega), h3]) (by rw [head_cells (m := k * 1) (by omega) (Nat.le_refl _) (by rw [h3]; simp; omega) hq, List.take_of_length_le (by rw [List.length_map, ht]; omega)])
  -- R5
  refine WP_seqr [⟨0, 0, []⟩, ⟨1, 0, []⟩, ⟨2, 0, []⟩] (by kernel_rfl) ?_
  refine ns_move rfl rfl ?_
  refine ns_add rfl rfl rfl rfl (by omega) (by omega) ?_
  refine ns_asg rfl rfl ?_
  refine ns_done ?_
  exact ⟨bs.length - k - (j + 1), by omega, j + 1, rfl, by omega, congrArg (Value.int .i64) (by omega : ((j : Int) + 1) = ((j + 1 : Nat) : Int)), rfl, rfl, by first | exact hs | exact hs.eq (by ac_rfl)⟩
end Go.Proofs.Ytnnembkganlbpaa
/- The walks of the nodes' coming and going: the free list takes one, the context makes one and takes one back; a node of its own, a child of its own; the bounds. -/
namespace Go.Proofs.Ytnnembkganlbpaa
open Go Go.Sl Go.Net Go.Wk Go.Bt Go.RowKit

theorem ctx_fold (c fl : Nat) : Ent (pts c (.cells #[ptr fl, lessV] 84 (0, 0)) * FLP fl) (Ctx c fl) := Ent.refl _
theorem f98_ok (fl n : Nat) : Tri Try.prog 98 #[ptr fl, ptr n] (FreeP n * FLP fl) fun v => ex fun t : Bool => pu (v = .bool t) * FLP fl := by
  intro w0 F w hs
  simp only [mul_assoc'] at hs
  obtain ⟨⟨vf, free⟩, hs⟩ := (hs.foc (FLP fl)).ex
  simp only [mul_assoc'] at hs
  obtain ⟨a, c, rfl, hc, hcm⟩ := (hs.foc (PArr vf free)).arr_form
  have hm := hcm
  simp only [maxLen] at hm
  refine calls_WP 34 #[.tmp 4] Try.func98 rfl Try.ntmps98 rfl (Nat.le_of_ble_eq_true rfl) ?_
  refine WP_seq ?_
  -- R0
  refine WP_seqr [⟨0, 0, []⟩] (by kernel_rfl) ?_
  refine ns_asg rfl rfl ?_
  refine ns_done ?_
  refine WP_seq ?_
  -- R1
  refine WP_seqr [⟨0, 0, []⟩, ⟨1, 0, []⟩, ⟨2, 0, []⟩, ⟨3, 2, []⟩] (by kernel_rfl) ?_
  refine ns_move rfl rfl ?_
  refine ns_nil rfl rfl rfl ?_
  refine ns_fld fo_81_0 rfl rfl rfl ?_
  refine ns_call (lock_ok fl _ _) ck_90 hs rfl rfl rfl rfl ?_
  intro v8 w hs
  refine ns_done ?_
  refine WP_seq_cut (fun σ w => ∃ (t : Bool) (v : Value) (l : List Nat), σ 0 = ptr fl ∧ σ 4 = .bool t ∧ St w0 (pts fl (.cells #[.int .i32 1, .int .u32 0, v] 81 (0, 0)) * (PArr v l * (stars (l.map FreeP) * F))) w) ?_ ?_ -- S1
  · refine WP_seq ?_
    -- R2
    refine WP_net hs mix [0, 1, 3, 7, 15, 0, 32, 96, 224, 480, 1023] [⟨0, 0, []⟩, ⟨1, 0, []⟩, ⟨2, 0, []⟩, ⟨3, 1, []⟩, ⟨4, 0, []⟩, ⟨5, 0, []⟩, ⟨6, 0, []⟩, ⟨7, 0, []⟩, ⟨8, 1, []⟩, ⟨9, 0, []⟩, ⟨10, 0, []⟩] (by kernel_rfl) ?_
    intro w hs
    refine ns_move rfl rfl ?_
    refine ns_nil rfl rfl rfl ?_
    refine ns_fld fo_81_1 rfl rfl rfl ?_
    refine ns_ldB pl_72 hs rfl rfl rfl (by rfl) ?_
    refine ns_len sl_72 rfl rfl rfl ?_
    refine ns_move rfl rfl ?_
    refine ns_nil rfl rfl rfl ?_
    refine ns_fld fo_81_1 rfl rfl rfl ?_
    refine ns_ldB pl_72 hs rfl rfl rfl (by rfl) ?_
    refine ns_cap sl_72 rfl rfl rfl ?_
    refine ns_cmp _ rfl rfl rfl rfl rfl ?_
    refine ns_done ?_
    refine WP_if rfl (fun hif1 => ?_) (fun hif1 => ?_)
    · refine WP_seq ?_
      have hlt : free.length < c := by simpa using hif1
      obtain ⟨h0, _⟩ | ⟨g, cap, cur, h0, h1, h2, h3, h4, hs⟩ := (hs.foc (PArr (.slice a free.length c) free)).arr
      · simp at h0; omega
      cases h0
      -- R3
      refine WP_seqr [⟨0, 0, []⟩, ⟨1, 0, []⟩, ⟨2, 0, []⟩, ⟨3, 0, []⟩, ⟨4, 1, []⟩, ⟨5, 0, []⟩, ⟨6, 2, []⟩, ⟨7, 2, []⟩, ⟨8, 0, []⟩, ⟨9, 0, []⟩, ⟨10, 2, []⟩] (by kernel_rfl) ?_
      refine ns_move rfl rfl ?_
      refine ns_move rfl rfl ?_
      refine ns_nil rfl rfl rfl ?_
      refine ns_fld fo_81_1 rfl rfl rfl ?_
      refine ns_ldB pl_72 hs rfl rfl rfl (by rfl) ?_
      refine ns_move rfl rfl ?_
      refine ns_lit [ptr n] [ptr n] sl_72 zr_85 (by decide) (by decide) hs rfl rfl rfl rfl (by simp [Value.cells, ptr]) rfl ?_
      refine fun b26 w hs hx => ⟨trivial, ?_⟩
      refine ns_appR [ptr n] sl_72 (hs.foc (pts g (.cells cur 85 (0, 0)))) rfl rfl rfl rfl rfl (St.cells (n := 1) hs (by rfl)) (by intro u hu; simp at hu; subst hu; rfl) (by omega) (by rw [h3]; simp; omega) ?_
      refine fun w hs => ⟨trivial, ?_⟩
      refine ns_nil rfl rfl rfl ?_
      refine ns_fld fo_81_1 rfl rfl rfl ?_
      refine ns_st (.slice (some ⟨g, 0, none⟩) (free.length + 1) c) pl_72 hs rfl rfl rfl rfl rfl (by simp) ?_
      refine fun w hs => ⟨trivial, ?_⟩
      try simp only [Nat.zero_add] at hs
      try simp only [List.setIfInBounds_toArray] at hs
      try simp only [List.set_cons_succ] at hs
      try simp only [List.set_cons_zero] at hs
      refine ns_done ?_
      -- R4
      refine WP_seqr [⟨0, 0, []⟩] (by kernel_rfl) ?_
      refine ns_asg rfl rfl ?_
      refine ns_done ?_
      have htk : (splice cur (free.length * 1) [ptr n]).toList.take ((free.length + 1) * 1) = (free ++ [n]).map ptr := by
        apply List.ext_getElem?
        intro j
        rw [List.getElem?_take]
        by_cases hj : j < (free.length + 1) * 1
        · rw [if_pos hj, splice_get (by rw [h3]; simp; omega), List.map_append]
          by_cases hj2 : j < free.length * 1
          · rw [if_pos hj2, take_get h4 j hj2, List.getElem?_append_left (by simpa using hj2)]
          · have e : j = free.length := by omega
            subst e
            simp
        · rw [if_neg hj, List.getElem?_eq_none]
          simp; omega
      have hs := (hs.foc (pts g (.cells (splice cur (free.length * 1) [ptr n]) 85 (0, 0)))).mk_arr' (cap := c) (by omega) h2 (by rw [splice_size (by rw [h3]; simp; omega), h3]) htk
      have el : free.length + 1 = (free ++ [n]).length := by simp
      rw [el] at hs
      refine ⟨true, .slice (some ⟨g, 0, none⟩) (free ++ [n]).length c, free ++ [n], rfl, rfl, St.eq (hs.foc (pts fl (.cells #[.int .i32 1, .int .u32 0, .slice (some ⟨g, 0, none⟩) (free ++ [n]).length c] 81 (0, 0)) * (PArr (.slice (some ⟨g, 0, none⟩) (free ++ [n]).length c) (free ++ [n]) * (stars (free.map FreeP) * (FreeP n * F))))).fst ?_⟩
      rw [List.map_append, stars_append]
      simp only [List.map_cons, List.map_nil, stars_cons, stars_nil, mul_one', mul_assoc']
    refine WP_skip ?_
    exact ⟨false, _, free, rfl, rfl, (hs.foc (FreeP n)).drop⟩
  rintro σ w ⟨t, v, l, h0, h4, hs⟩
  obtain ⟨σ, rfl⟩ := rebase h0
  obtain ⟨σ, rfl⟩ := rebase (σ := σ) h4
  refine WP_seq ?_
  -- R5
  refine WP_seqr [⟨0, 0, []⟩, ⟨1, 0, []⟩, ⟨2, 0, []⟩, ⟨3, 2, []⟩] (by kernel_rfl) ?_
  refine ns_move rfl rfl ?_
  refine ns_nil rfl rfl rfl ?_
  refine ns_fld fo_81_0 rfl rfl rfl ?_
  refine ns_call (unlock_ok fl _ _) ck_91 hs rfl rfl rfl rfl ?_
  intro v33 w hs
  refine ns_done ?_
  refine WP_ret ?_
  exact ⟨_, res1 _, St.mk_ex t (St.mk_pu rfl (hs.fold (fl_fold fl v l)))⟩
theorem f67_ok (c fl : Nat) : Tri Try.prog 67 #[ptr c] (Ctx c fl) fun v => ex fun b => pu (v = ptr b) * (NodeP c b [] [] * Ctx c fl) := by
  intro w0 F w hs
  unfold Ctx CowP at hs
  simp only [mul_assoc'] at hs
  refine calls_WP 12 #[.tmp 2] Try.func67 rfl Try.ntmps67 rfl (Nat.le_of_ble_eq_true rfl) ?_
  refine WP_seq ?_
  -- R0
  refine WP_seqr [⟨0, 0, []⟩] (by kernel_rfl) ?_
  refine ns_asg rfl rfl ?_
  refine ns_done ?_
  refine WP_seq ?_
  -- R1
  refine WP_seqr [⟨0, 0, []⟩, ⟨1, 0, []⟩, ⟨2, 0, []⟩, ⟨3, 1, []⟩, ⟨4, 2, []⟩, ⟨5, 0, []⟩] (by kernel_rfl) ?_
  refine ns_move rfl rfl ?_
  refine ns_nil rfl rfl rfl ?_
  refine ns_fld fo_84_0 rfl rfl rfl ?_
  refine ns_ldB pl_66 hs rfl rfl rfl (by rfl) ?_
  refine ns_call (f80_ok fl) ck_80 (hs.foc (FLP fl)) rfl rfl rfl rfl ?_
  intro v7 w hs
  replace hs := hs.ex
  obtain ⟨b, hs⟩ := hs
  replace hs := hs.pu
  obtain ⟨rfl, hs⟩ := hs
  simp only [mul_assoc'] at hs
  obtain ⟨⟨v1, v2⟩, hs⟩ := hs.ex
  simp only [mul_assoc'] at hs
  refine ns_asg rfl rfl ?_
  refine ns_done ?_
  refine WP_seq ?_
  -- R2
  refine WP_seqr [⟨0, 0, []⟩, ⟨1, 0, []⟩, ⟨2, 0, []⟩, ⟨3, 0, []⟩, ⟨4, 2, []⟩] (by kernel_rfl) ?_
  refine ns_move rfl rfl ?_
  refine ns_move rfl rfl ?_
  refine ns_nil rfl rfl rfl ?_
  refine ns_fld fo_103_2 rfl rfl rfl ?_
  refine ns_st (ptr c) pl_82 hs rfl rfl rfl rfl rfl (by simp) ?_
  refine fun w hs => ⟨trivial, ?_⟩
  try simp only [Nat.zero_add] at hs
  try simp only [List.setIfInBounds_toArray] at hs
  try simp only [List.set_cons_succ] at hs
  try simp only [List.set_cons_zero] at hs
  refine ns_done ?_
  refine WP_ret ?_
  have hs := hs.fold (node_fold c b v1 v2 [] [])
  have hs := hs.fold (ctx_fold c fl)
  exact ⟨_, res1 _, St.mk_ex b (St.mk_pu rfl (hs.foc (NodeP c b [] [] * Ctx c fl)))⟩
theorem f89_ok (c fl n : Nat) (its : List It) (bs : List Nat) : Tri Try.prog 89 #[ptr c, ptr n] (NodeP c n its bs * Ctx c fl) fun v => ex fun k : Int => pu (v = .int .i64 k) * Ctx c fl := by
  intro w0 F w hs
  unfold Ctx CowP at hs
  simp only [mul_assoc'] at hs
  obtain ⟨⟨v1, v2⟩, hs⟩ := hs.ex
  simp only [mul_assoc'] at hs
  refine calls_WP 28 #[.tmp 4] Try.func89 rfl Try.ntmps89 rfl (Nat.le_of_ble_eq_true rfl) ?_
  refine WP_seq ?_
  -- R0
  refine WP_seqr [⟨0, 0, []⟩] (by kernel_rfl) ?_
  refine ns_asg rfl rfl ?_
  refine ns_done ?_
  refine WP_seq ?_
  -- R1
  refine WP_seqr [⟨0, 0, []⟩, ⟨1, 0, []⟩, ⟨2, 0, []⟩, ⟨3, 1, []⟩, ⟨4, 0, []⟩, ⟨5, 0, []⟩] (by kernel_rfl) ?_
  refine ns_move rfl rfl ?_
  refine ns_nil rfl rfl rfl ?_
  refine ns_fld fo_103_2 rfl rfl rfl ?_
  refine ns_ldB pl_82 hs rfl rfl rfl (by rfl) ?_
  refine ns_move rfl rfl ?_
  refine ns_peq true pt_82 rfl rfl rfl rfl (by simp [cmpP]) ?_
  refine ns_done ?_
  refine WP_true rfl ?_ -- if1
  refine WP_seq ?_
  have hs := hs.fold (node_fold c n v1 v2 its bs)
  -- R2
  refine WP_seqr [⟨0, 0, []⟩, ⟨1, 0, []⟩, ⟨2, 0, []⟩, ⟨3, 2, []⟩] (by kernel_rfl) ?_
  refine ns_move rfl rfl ?_
  refine ns_nil rfl rfl rfl ?_
  refine ns_fld fo_103_0 rfl rfl rfl ?_
  refine ns_call (f81_ok c n 0 its bs (Nat.zero_le _)) ck_81 (hs.foc (NodeP c n its bs)) rfl rfl rfl rfl ?_
  intro v14 w hs
  refine ns_done ?_
  refine WP_seq ?_
  -- R3
  refine WP_seqr [⟨0, 0, []⟩, ⟨1, 0, []⟩, ⟨2, 0, []⟩, ⟨3, 2, []⟩] (by kernel_rfl) ?_
  refine ns_move rfl rfl ?_
  refine ns_nil rfl rfl rfl ?_
  refine ns_fld fo_103_1 rfl rfl rfl ?_
  refine ns_call (f82_ok c n 0 (its.take 0) bs (Nat.zero_le _)) ck_82 (hs.foc (NodeP c n (its.take 0) bs)) rfl rfl rfl rfl ?_
  intro v18 w hs
  refine ns_done ?_
  refine WP_seq ?_
  obtain ⟨⟨u1, u2⟩, hs⟩ := hs.ex
  simp only [mul_assoc'] at hs
  -- R4
  refine WP_seqr [⟨0, 0, []⟩, ⟨1, 0, []⟩, ⟨2, 0, []⟩, ⟨3, 2, []⟩] (by kernel_rfl) ?_
  refine ns_move rfl rfl ?_
  refine ns_nil rfl rfl rfl ?_
  refine ns_fld fo_103_2 rfl rfl rfl ?_
  refine ns_st (.pointer none) pl_82 hs rfl rfl rfl rfl rfl (by simp) ?_
  refine fun w hs => ⟨trivial, ?_⟩
  try simp only [Nat.zero_add] at hs
  try simp only [List.setIfInBounds_toArray] at hs
  try simp only [List.set_cons_succ] at hs
  try simp only [List.set_cons_zero] at hs
  refine ns_done ?_
  refine WP_seq ?_
  simp only [List.take_zero] at hs
  have hs := hs.fold (free_fold n u1 u2)
  -- R5
  refine WP_seqr [⟨0, 0, []⟩, ⟨1, 0, []⟩, ⟨2, 0, []⟩, ⟨3, 1, []⟩, ⟨4, 0, []⟩, ⟨5, 2, []⟩] (by kernel_rfl) ?_
  refine ns_move rfl rfl ?_
  refine ns_nil rfl rfl rfl ?_
  refine ns_fld fo_84_0 rfl rfl rfl ?_
  refine ns_ldB pl_66 hs rfl rfl rfl (by rfl) ?_
  refine ns_move rfl rfl ?_
  refine ns_call (f98_ok fl n) ck_98 (hs.foc (FreeP n * FLP fl)) rfl rfl rfl rfl ?_
  intro v27 w hs
  replace hs := hs.ex
  obtain ⟨t, hs⟩ := hs
  replace hs := hs.pu
  obtain ⟨rfl, hs⟩ := hs
  refine ns_done ?_
  refine WP_if rfl (fun hif2 => ?_) (fun hif2 => ?_)
  · refine WP_seq ?_
    -- R6
    refine WP_seqr [⟨0, 0, []⟩] (by kernel_rfl) ?_
    refine ns_asg rfl rfl ?_
    refine ns_done ?_
    refine WP_ret ?_
    exact ⟨_, res1 _, St.mk_ex _ (St.mk_pu rfl (hs.fold (ctx_fold c fl)))⟩
  refine WP_seq ?_
  -- R7
  refine WP_seqr [⟨0, 0, []⟩] (by kernel_rfl) ?_
  refine ns_asg rfl rfl ?_
  refine ns_done ?_
  refine WP_ret ?_
  exact ⟨_, res1 _, St.mk_ex _ (St.mk_pu rfl (hs.fold (ctx_fold c fl)))⟩
theorem f68_ok (c n : Nat) (its : List It) (bs : List Nat) : Tri Try.prog 68 #[ptr n, ptr c] (NodeP c n its bs) fun v => pu (v = ptr n) * NodeP c n its bs := by
  intro w0 F w hs
  obtain ⟨⟨v1, v2⟩, hs⟩ := hs.ex
  simp only [mul_assoc'] at hs
  refine calls_WP 110 #[.tmp 4] Try.func68 rfl Try.ntmps68 rfl (Nat.le_of_ble_eq_true rfl) ?_
  refine WP_seq ?_
  -- R0
  refine WP_seqr [⟨0, 0, []⟩] (by kernel_rfl) ?_
  refine ns_asg rfl rfl ?_
  refine ns_done ?_
  refine WP_seq ?_ -- S1
  refine WP_seq ?_
  -- R1
  refine WP_seqr [⟨0, 0, []⟩, ⟨1, 0, []⟩, ⟨2, 0, []⟩, ⟨3, 1, []⟩, ⟨4, 0, []⟩, ⟨5, 0, []⟩] (by kernel_rfl) ?_
  refine ns_move rfl rfl ?_
  refine ns_nil rfl rfl rfl ?_
  refine ns_fld fo_103_2 rfl rfl rfl ?_
  refine ns_ldB pl_82 hs rfl rfl rfl (by rfl) ?_
  refine ns_move rfl rfl ?_
  refine ns_peq true pt_82 rfl rfl rfl rfl (by simp [cmpP]) ?_
  refine ns_done ?_
  refine WP_true rfl ?_ -- if1
  refine WP_seq ?_
  -- R2
  refine WP_seqr [⟨0, 0, []⟩, ⟨1, 0, []⟩] (by kernel_rfl) ?_
  refine ns_move rfl rfl ?_
  refine ns_asg rfl rfl ?_
  refine ns_done ?_
  refine WP_ret ?_
  exact ⟨_, res1 _, St.mk_pu rfl (hs.fold (node_fold c n v1 v2 its bs)).out⟩
theorem f86_ok (c n i x : Nat) (its its' : List It) (bs bs' : List Nat) (hx : bs[i]? = some x) : Tri Try.prog 86 #[ptr n, .int .i64 i] (NodeP c n its bs * NodeP c x its' bs') fun v => pu (v = ptr x) * (NodeP c n its bs * NodeP c x its' bs') := by
  have hi : i < bs.length := (List.getElem?_eq_some_iff.1 hx).1
  intro w0 F w hs
  simp only [mul_assoc'] at hs
  obtain ⟨⟨v1, v2⟩, hs⟩ := hs.ex
  simp only [mul_assoc'] at hs
  obtain ⟨h0, h1, _⟩ | ⟨g, cap, cur, rfl, hc, hcm, hsz, htk, hs⟩ := (hs.foc (PArr v2 bs)).arr
  · omega
  refine calls_WP 26 #[.tmp 4] Try.func86 rfl Try.ntmps86 rfl (Nat.le_of_ble_eq_true rfl) ?_
  refine WP_seq ?_
  -- R0
  refine WP_seqr [⟨0, 0, []⟩] (by kernel_rfl) ?_
  refine ns_asg rfl rfl ?_
  refine ns_done ?_
  refine WP_seq ?_
  -- R1
  refine WP_net hs mix [0, 1, 3, 7, 0, 31, 63, 0, 128, 384, 896, 2047, 4095] [⟨0, 0, []⟩, ⟨1, 0, []⟩, ⟨2, 0, []⟩, ⟨3, 1, []⟩, ⟨4, 0, []⟩, ⟨5, 0, []⟩, ⟨6, 1, []⟩, ⟨7, 0, []⟩, ⟨8, 0, []⟩, ⟨9, 0, []⟩, ⟨10, 1, []⟩, ⟨11, 2, []⟩, ⟨12, 0, []⟩] (by kernel_rfl) ?_
  intro w hs
  refine ns_move rfl rfl ?_
  refine ns_nil rfl rfl rfl ?_
  refine ns_fld fo_103_1 rfl rfl rfl ?_
  refine ns_ldB pl_101 hs rfl rfl rfl (by rfl) ?_
  refine ns_move rfl rfl ?_
  refine ns_idx i sl_101 rfl rfl rfl rfl rfl hi ?_
  refine ns_ld pl_85 rfl rfl rfl (ptr_cell hs htk i hx) ?_
  refine ns_move rfl rfl ?_
  refine ns_nil rfl rfl rfl ?_
  refine ns_fld fo_103_2 rfl rfl rfl ?_
  refine ns_ldB pl_82 hs rfl rfl rfl (by rfl) ?_
  refine ns_call (f68_ok c x its' bs') ck_68 (hs.foc (NodeP c x its' bs')) rfl rfl rfl rfl ?_
  intro v17 w hs
  replace hs := hs.pu
  obtain ⟨rfl, hs⟩ := hs
  refine ns_asg rfl rfl ?_
  refine ns_done ?_
  refine WP_seq ?_
  -- R2
  refine WP_seqr [⟨0, 0, []⟩, ⟨1, 0, []⟩, ⟨2, 0, []⟩, ⟨3, 1, []⟩, ⟨4, 0, []⟩, ⟨5, 0, []⟩, ⟨6, 0, []⟩, ⟨7, 2, []⟩] (by kernel_rfl) ?_
  refine ns_move rfl rfl ?_
  refine ns_nil rfl rfl rfl ?_
  refine ns_fld fo_103_1 rfl rfl rfl ?_
  refine ns_ldB pl_101 hs rfl rfl rfl (by rfl) ?_
  refine ns_move rfl rfl ?_
  refine ns_move rfl rfl ?_
  refine ns_idx i sl_101 rfl rfl rfl rfl rfl hi ?_
  refine ns_st (ptr x) pl_85 hs rfl rfl rfl rfl rfl (by rw [hsz]; omega) ?_
  refine fun w hs => ⟨trivial, ?_⟩
  rw [← splice_one (o := 0 + i * 1) (by rw [hsz]; omega), Nat.zero_add] at hs
  refine ns_done ?_
  refine WP_seq ?_
  -- R3
  refine WP_seqr [⟨0, 0, []⟩, ⟨1, 0, []⟩] (by kernel_rfl) ?_
  refine ns_move rfl rfl ?_
  refine ns_asg rfl rfl ?_
  refine ns_done ?_
  refine WP_ret ?_
  have hset := set_cells (i := i) (c := [ptr x]) hsz (List.length_map .. |>.trans (Nat.mul_one _).symm) rfl hc hi htk
  rw [← ptrs_set bs i x hi] at hset
  have e : bs.set i x = bs := by
    apply List.ext_getElem?
    intro j
    rw [List.getElem?_set]
    split
    · rename_i h; subst h; simp [hi]; exact ((List.getElem?_eq_some_iff.1 hx).2).symm
    · rfl
  rw [e] at hset
  have hs := (hs.foc (pts g (.cells (splice cur (i * 1) [ptr x]) 85 (0, 0)))).mk_arr' (cap := cap) hc hcm (by rw [splice_size (by rw [hsz]; simp; omega), hsz]) hset
  have hs := hs.fold (node_fold c n v1 (.slice (some ⟨g, 0, none⟩) bs.length cap) its bs)
  exact ⟨_, res1 _, St.mk_pu rfl (hs.foc (NodeP c n its bs * NodeP c x its' bs'))⟩
theorem f69_ok (t d : Nat) (v1 v2 v3 : Value) (h1 : 1 ≤ d) (h2 : d ≤ 1000) : Tri Try.prog 69 #[ptr t] (pts t (.cells #[.int .i64 d, v1, v2, v3] 87 (0, 0))) fun v => pu (v = .int .i64 (2 * d - 1 : Nat)) * pts t (.cells #[.int .i64 d, v1, v2, v3] 87 (0, 0)) := by
  intro w0 F w hs
  refine calls_WP 9 #[.tmp 2] Try.func69 rfl Try.ntmps69 rfl (Nat.le_of_ble_eq_true rfl) ?_
  refine WP_seq ?_
  -- R0
  refine WP_seqr [⟨0, 0, []⟩] (by kernel_rfl) ?_
  refine ns_asg rfl rfl ?_
  refine ns_done ?_
  refine WP_seq ?_
  -- R1
  refine WP_seqr [⟨0, 0, []⟩, ⟨1, 0, []⟩, ⟨2, 0, []⟩, ⟨3, 1, []⟩, ⟨4, 0, []⟩, ⟨5, 0, []⟩, ⟨6, 0, []⟩] (by kernel_rfl) ?_
  refine ns_move rfl rfl ?_
  refine ns_nil rfl rfl rfl ?_
  refine ns_fld fo_87_0 rfl rfl rfl ?_
  refine ns_ldB pl_3 hs rfl rfl rfl (by rfl) ?_
  refine ns_mul rfl rfl rfl rfl (by omega) (by omega) ?_
  refine ns_sub rfl rfl rfl rfl (by omega) (by omega) ?_
  refine ns_asg rfl rfl ?_
  refine ns_done ?_
  refine WP_ret ?_
  exact ⟨_, res1 _, St.mk_pu (congrArg (Value.int .i64) (by omega)) hs⟩
theorem f88_ok (t d : Nat) (v1 v2 v3 : Value) (h1 : 1 ≤ d) (h2 : d ≤ 1000) : Tri Try.prog 88 #[ptr t] (pts t (.cells #[.int .i64 d, v1, v2, v3] 87 (0, 0))) fun v => pu (v = .int .i64 (d - 1 : Nat)) * pts t (.cells #[.int .i64 d, v1, v2, v3] 87 (0, 0)) := by
  intro w0 F w hs
  refine calls_WP 8 #[.tmp 2] Try.func88 rfl Try.ntmps88 rfl (Nat.le_of_ble_eq_true rfl) ?_
  refine WP_seq ?_
  -- R0
  refine WP_seqr [⟨0, 0, []⟩] (by kernel_rfl) ?_
  refine ns_asg rfl rfl ?_
  refine ns_done ?_
  refine WP_seq ?_
  -- R1
  refine WP_seqr [⟨0, 0, []⟩, ⟨1, 0, []⟩, ⟨2, 0, []⟩, ⟨3, 1, []⟩, ⟨4, 0, []⟩, ⟨5, 0, []⟩] (by kernel_rfl) ?_
  refine ns_move rfl rfl ?_
  refine ns_nil rfl rfl rfl ?_
  refine ns_fld fo_87_0 rfl rfl rfl ?_
  refine ns_ldB pl_3 hs rfl rfl rfl (by rfl) ?_
  refine ns_sub rfl rfl rfl rfl (by omega) (by omega) ?_
  refine ns_asg rfl rfl ?_
  refine ns_done ?_
  refine WP_ret ?_
  exact ⟨_, res1 _, St.mk_pu (congrArg (Value.int .i64) (by omega)) hs⟩
end Go.Proofs.Ytnnembkganlbpaa
/- The walks of the search: the order of two items, the bisection, a key's place among a node's items. -/
namespace Go.Proofs.Ytnnembkganlbpaa
open Go Go.Sl Go.Net Go.Wk Go.Bt Go.RowKit

/-- what the search's closure holds: the items, the item that is looked for, the order -/
abbrev FindP (v : Value) (its : List It) (x : It) (b3 b4 b5 : Nat) : HProp :=
  pts b3 (.cells #[v] 100 (0, 0)) * (pts b4 (.cells #[.int .i64 x.key, .int .i64 x.val] 45 (0, 0)) * (pts b5 (.cells #[lessV] 62 (0, 0)) * IArr v its))
theorem fdiv2 (i j : Nat) : ((i : Int) + (j : Int)).fdiv 2 = (((i + j) / 2 : Nat) : Int) := by
  rw [Int.fdiv_eq_ediv_of_nonneg _ (by decide)]; omega
theorem f40_ok (x y : It) : Tri Try.prog 40 #[itV x, itV y] 1 fun v => pu (v = .bool (decide (x.key < y.key))) := by
  intro w0 F w hs
  rw [one_mul'] at hs
  refine calls_WP 10 #[.tmp 4] Try.func40 rfl Try.ntmps40 rfl (Nat.le_of_ble_eq_true rfl) ?_
  refine WP_seq ?_
  -- R0
  refine WP_seqr [⟨0, 2, []⟩, ⟨1, 2, []⟩, ⟨2, 0, []⟩] (by kernel_rfl) ?_
  refine ns_box (#[.int .i64 x.key, .int .i64 x.val]) hs rfl rfl rfl rfl ?_
  intro b2 w hs
  refine ns_box (#[.int .i64 y.key, .int .i64 y.val]) hs rfl rfl rfl rfl ?_
  intro b3 w hs
  refine ns_asg rfl rfl ?_
  refine ns_done ?_
  refine WP_seq ?_
  -- R1
  refine WP_seqr [⟨0, 0, []⟩, ⟨1, 1, []⟩, ⟨2, 0, []⟩, ⟨3, 1, []⟩, ⟨4, 0, []⟩, ⟨5, 0, []⟩] (by kernel_rfl) ?_
  refine ns_fld fo_45_0 rfl rfl rfl ?_
  refine ns_ldB pl_2 hs rfl rfl rfl (by rfl) ?_
  refine ns_fld fo_45_0 rfl rfl rfl ?_
  refine ns_ldB pl_2 hs rfl rfl rfl (by rfl) ?_
  refine ns_cmp _ rfl rfl rfl rfl rfl ?_
  refine ns_asg rfl rfl ?_
  refine ns_done ?_
  refine WP_ret ?_
  exact ⟨_, res1 _, St.mk_pure rfl (hs.out (P := F))⟩
theorem f93_ok (v : Value) (its : List It) (x y : It) (b3 b4 b5 j : Nat) (hy : its[j]? = some y) :
    Tri Try.prog 93 #[.int .i64 j, ptr b5, ptr b4, ptr b3] (FindP v its x b3 b4 b5) fun r => pu (r = .bool (decide (x.key < y.key))) * FindP v its x b3 b4 b5 := by
  have hj : j < its.length := (List.getElem?_eq_some_iff.1 hy).1
  intro w0 F w hs
  unfold FindP at hs
  simp only [mul_assoc'] at hs
  obtain ⟨h0, h1, _⟩ | ⟨g, cap, cur, rfl, hc, hcm, hsz, htk, hs⟩ := (hs.foc (IArr v its)).arr
  · omega
  refine calls_WP 13 #[.tmp 5] Try.func93 rfl Try.ntmps93 rfl (Nat.le_of_ble_eq_true rfl) ?_
  refine WP_seq ?_
  -- R0
  refine WP_seqr [⟨0, 0, []⟩] (by kernel_rfl) ?_
  refine ns_asg rfl rfl ?_
  refine ns_done ?_
  refine WP_seq ?_
  -- R1
  refine WP_net hs mix [0, 0, 0, 0, 12, 28, 63, 127] [⟨0, 1, []⟩, ⟨1, 1, []⟩, ⟨2, 1, []⟩, ⟨3, 0, []⟩, ⟨4, 0, []⟩, ⟨5, 1, []⟩, ⟨6, 2, []⟩, ⟨7, 0, []⟩] (by kernel_rfl) ?_
  intro w hs
  refine ns_ldB pl_62 hs rfl rfl rfl (by rfl) ?_
  refine ns_ldAB _ ag_45 hs rfl rfl rfl (by rfl) (by rfl) (by decide) ?_
  refine ns_ldB pl_100 hs rfl rfl rfl (by rfl) ?_
  refine ns_move rfl rfl ?_
  refine ns_idx j sl_100 rfl rfl rfl rfl rfl hj ?_
  refine ns_ldA [.int .i64 y.key, .int .i64 y.val] ag_45 rfl rfl rfl rfl (by decide) (it_cells hs htk j hy) ?_
  refine ns_call (f40_ok x y) ck_40 (hs.foc 1) rfl rfl rfl rfl ?_
  intro v12 w hs
  obtain ⟨hv, hs⟩ := hs.pure
  refine ns_asg rfl rfl ?_
  refine ns_done ?_
  refine WP_ret ?_
  have hs := (hs.foc (pts g (.cells cur 45 (0, 0)))).mk_arr' hc hcm hsz htk
  exact ⟨_, res1 _, St.mk_pu hv (hs.foc (FindP (.slice (some ⟨g, 0, none⟩) its.length cap) its x b3 b4 b5))⟩
theorem f92_ok (v : Value) (its : List It) (x : It) (b3 b4 b5 : Nat) (hS : Srt its) (hl : its.length < 1000000) :
    Tri Try.prog 92 #[.int .i64 its.length, .func (.func 93) #[] #[ptr b5, ptr b4, ptr b3]] (FindP v its x b3 b4 b5) fun r => pu (r = .int .i64 (ub its x.key)) * FindP v its x b3 b4 b5 := by
  intro w0 F w hs
  have hu := ub_le its x.key
  refine calls_WP 26 #[.tmp 4] Try.func92 rfl Try.ntmps92 rfl (Nat.le_of_ble_eq_true rfl) ?_
  refine WP_seq ?_
  -- R0
  refine WP_seqr [⟨0, 0, []⟩] (by kernel_rfl) ?_
  refine ns_asg rfl rfl ?_
  refine ns_done ?_
  refine WP_seq ?_
  -- R1
  refine WP_seqr [⟨0, 0, []⟩, ⟨1, 0, []⟩, ⟨2, 0, []⟩] (by kernel_rfl) ?_
  refine ns_move rfl rfl ?_
  refine ns_asg rfl rfl ?_
  refine ns_asg rfl rfl ?_
  refine ns_done ?_
  refine WP_seq_cut (fun σ w => σ 5 = .int .i64 (ub its x.key) ∧ St w0 (FindP v its x b3 b4 b5 * F) w) ?_ ?_ -- S1
  · refine WP_block ?_
    refine WP_loop (fun m σ w => ∃ i j : Nat, m = j - i ∧ i ≤ ub its x.key ∧ ub its x.key ≤ j ∧ j ≤ its.length ∧ σ 5 = .int .i64 i ∧ σ 6 = .int .i64 j ∧ σ 1 = .func (.func 93) #[] #[ptr b5, ptr b4, ptr b3] ∧ St w0 (FindP v its x b3 b4 b5 * F) w) its.length ?_ ?_ -- L1
    · exact ⟨0, its.length, by omega, by omega, by omega, by omega, rfl, rfl, rfl, hs⟩
    rintro m σ w ⟨i, j, rfl, h1, h2, h3, h5, h6, h7, hs⟩
    obtain ⟨σ, rfl⟩ := rebase h5
    obtain ⟨σ, rfl⟩ := rebase (σ := σ) h6
    obtain ⟨σ, rfl⟩ := rebase (σ := σ) h7
    clear h5 h6 h7
    refine WP_seq ?_ -- S2
    refine WP_seq ?_
    -- R2
    refine WP_seqr [⟨0, 0, []⟩, ⟨1, 0, []⟩, ⟨2, 0, []⟩] (by kernel_rfl) ?_
    refine ns_move rfl rfl ?_
    refine ns_move rfl rfl ?_
    refine ns_cmp _ rfl rfl rfl rfl rfl ?_
    refine ns_done ?_
    refine WP_if' rfl (fun hif1 => ?_) (fun hif1 => ?_)
    · refine WP_exit ?_
      have e : ub its x.key = i := by simp at hif1; omega
      exact ⟨congrArg (Value.int .i64) (congrArg Int.ofNat e.symm), hs⟩
    refine WP_skip ?_
    refine WP_block ?_
    refine WP_seq ?_
    have hij : i < j := by simpa using hif1
    obtain ⟨y, hy⟩ : ∃ y, its[(i + j) / 2]? = some y := ⟨its[(i + j) / 2]'(by omega), List.getElem?_eq_getElem (by omega)⟩
    have hul := ub_lt hS (k := x.key) hy
    -- R3
    refine WP_seqr [⟨0, 0, []⟩, ⟨1, 0, []⟩, ⟨2, 0, []⟩, ⟨3, 0, []⟩, ⟨4, 0, []⟩, ⟨5, 0, []⟩, ⟨6, 0, []⟩] (by kernel_rfl) ?_
    refine ns_move rfl rfl ?_
    refine ns_move rfl rfl ?_
    refine ns_add rfl rfl rfl rfl (by omega) (by omega) ?_
    refine ns_conv Try.underlying140 Try.underlying3 rfl rfl rfl (wrapU64_in (by omega) (by omega)) ?_
    refine ns_shr1 (((i + j) / 2 : Nat) : Int) rfl rfl rfl rfl (fdiv2 i j) ?_
    refine ns_conv Try.underlying3 Try.underlying140 rfl rfl rfl (wrap64_in (by omega) (by omega)) ?_
    refine ns_asg rfl rfl ?_
    refine ns_done ?_
    refine WP_seq ?_
    -- R4
    refine WP_seqr [⟨0, 0, []⟩, ⟨1, 0, []⟩, ⟨2, 2, []⟩, ⟨3, 0, []⟩] (by kernel_rfl) ?_
    refine ns_move rfl rfl ?_
    refine ns_move rfl rfl ?_
    refine ns_call (f93_ok v its x y b3 b4 b5 ((i + j) / 2) hy) ck_93 hs rfl rfl rfl rfl ?_
    intro v20 w hs
    replace hs := hs.pu
    obtain ⟨rfl, hs⟩ := hs
    refine ns_not rfl rfl rfl ?_
    refine ns_done ?_
    refine WP_if rfl (fun hif2 => ?_) (fun hif2 => ?_)
    · -- R5
      refine WP_seqr [⟨0, 0, []⟩, ⟨1, 0, []⟩, ⟨2, 0, []⟩] (by kernel_rfl) ?_
      refine ns_move rfl rfl ?_
      refine ns_add rfl rfl rfl rfl (by omega) (by omega) ?_
      refine ns_asg rfl rfl ?_
      refine ns_done ?_
      have hx : y.key ≤ x.key := by simpa using hif2
      exact ⟨j - ((i + j) / 2 + 1), by omega, (i + j) / 2 + 1, j, rfl, hul.1 hx, h2, h3, congrArg (Value.int .i64) (by omega), rfl, rfl, hs⟩
    -- R6
    refine WP_seqr [⟨0, 0, []⟩, ⟨1, 0, []⟩] (by kernel_rfl) ?_
    refine ns_move rfl rfl ?_
    refine ns_asg rfl rfl ?_
    refine ns_done ?_
    have hx : x.key < y.key := by simpa using hif2
    exact ⟨(i + j) / 2 - i, by omega, i, (i + j) / 2, rfl, h1, by omega, by omega, rfl, rfl, rfl, hs⟩
    
  rintro σ w ⟨h5, hs⟩
  obtain ⟨σ, rfl⟩ := rebase h5
  refine WP_seq ?_
  -- R7
  refine WP_seqr [⟨0, 0, []⟩, ⟨1, 0, []⟩] (by kernel_rfl) ?_
  refine ns_move rfl rfl ?_
  refine ns_asg rfl rfl ?_
  refine ns_done ?_
  refine WP_ret ?_
  exact ⟨_, res1 _, St.mk_pu rfl hs⟩
theorem f83_ok (v : Value) (its : List It) (x : It) (hS : Srt its) (hl : its.length < 1000000) :
    Tri Try.prog 83 #[v, itV x, lessV] (IArr v its) fun r => pu (r = .tuple #[.int .i64 (lb its x.key), .bool (fnd its x.key)]) * IArr v its := by
  intro w0 F w hs
  have hu := ub_le its x.key
  have hub := ub_eq hS x.key
  obtain ⟨a, c, rfl, hc, hcm⟩ := hs.arr_form
  refine calls_WP 29 #[.tmp 6, .tmp 7] Try.func83 rfl Try.ntmps83 rfl (Nat.le_of_ble_eq_true rfl) ?_
  refine WP_seq ?_
  -- R0
  refine WP_seqr [⟨0, 2, []⟩, ⟨1, 2, []⟩, ⟨2, 2, []⟩, ⟨3, 0, []⟩, ⟨4, 0, []⟩] (by kernel_rfl) ?_
  refine ns_box (#[.slice a its.length c]) hs rfl rfl rfl rfl ?_
  intro b3 w hs
  refine ns_box (#[.int .i64 x.key, .int .i64 x.val]) hs rfl rfl rfl rfl ?_
  intro b4 w hs
  refine ns_box (#[lessV]) hs rfl rfl rfl rfl ?_
  intro b5 w hs
  refine ns_asg rfl rfl ?_
  refine ns_asg rfl rfl ?_
  refine ns_done ?_
  refine WP_seq ?_
  -- R1
  refine WP_seqr [⟨0, 1, []⟩, ⟨1, 0, []⟩, ⟨2, 0, []⟩, ⟨3, 2, []⟩, ⟨4, 0, []⟩] (by kernel_rfl) ?_
  refine ns_ldB pl_100 hs rfl rfl rfl (by rfl) ?_
  refine ns_len sl_100 rfl rfl rfl ?_
  refine ns_fun' (#[]) (#[ptr b5, ptr b4, ptr b3]) rfl rfl rfl rfl ?_
  refine ns_call (f92_ok (.slice a its.length c) its x b3 b4 b5 hS hl) ck_92 (hs.foc (FindP (.slice a its.length c) its x b3 b4 b5)) rfl rfl rfl rfl ?_
  intro v12 w hs
  replace hs := hs.pu
  obtain ⟨rfl, hs⟩ := hs
  unfold FindP at hs
  simp only [mul_assoc'] at hs
  refine ns_asg rfl rfl ?_
  refine ns_done ?_
  refine WP_seq_cut (fun σ w => fnd its x.key = false ∧ σ 8 = .int .i64 (ub its x.key) ∧ St w0 (IArr (.slice a its.length c) its * F) w) ?_ ?_ -- S1
  · rcases Nat.eq_zero_or_pos (ub its x.key) with h0 | h0
    · refine WP_seq ?_
      -- R2
      refine WP_net hs mix [0, 1, 3, 7, 7, 7, 39, 119, 247, 7, 1023, 2047, 4095] [⟨0, 0, []⟩, ⟨1, 0, []⟩, ⟨2, 0, []⟩, ⟨3, 0, []⟩, ⟨4, 0, []⟩, ⟨5, 0, []⟩, ⟨6, 0, []⟩, ⟨7, 0, []⟩, ⟨8, 0, []⟩, ⟨9, 0, []⟩, ⟨10, 0, []⟩, ⟨11, 0, []⟩, ⟨12, 0, []⟩] (by kernel_rfl) ?_
      intro w hs
      refine ns_move rfl rfl ?_
      refine ns_cmp false rfl rfl rfl rfl (by simp [cmpI]; omega) ?_
      refine ns_move rfl rfl ?_
      refine ns_no rfl rfl ?_
      refine ns_no rfl rfl ?_
      refine ns_no rfl rfl ?_
      refine ns_no rfl rfl ?_
      refine ns_no rfl rfl ?_
      refine ns_no rfl rfl ?_
      refine ns_no rfl rfl ?_
      refine ns_no rfl rfl ?_
      refine ns_no rfl rfl ?_
      refine ns_pick rfl rfl rfl ?_
      refine ns_done ?_
      refine WP_false rfl ?_ -- if1
      refine WP_skip ?_
      refine ⟨?_, rfl, hs.foc (IArr (.slice a its.length c) its * F) |>.fst⟩
      cases hf : fnd its x.key
      · rfl
      · rw [hf] at hub; simp at hub; omega
    · refine WP_seq ?_
      obtain ⟨y, hy⟩ : ∃ y, its[ub its x.key - 1]? = some y := ⟨its[ub its x.key - 1]'(by omega), List.getElem?_eq_getElem (by omega)⟩
      have hle := (ub_lt hS (k := x.key) hy).2 (by omega)
      have hlb := lb_lt hS (k := x.key) hy
      have e1 : ((ub its x.key : Int) - 1) = ((ub its x.key - 1 : Nat) : Int) := by omega
      obtain ⟨_, h1, _⟩ | ⟨g, cap, cur, h1, h2, h3, hsz, htk, hs⟩ := (hs.foc (IArr (.slice a its.length c) its)).arr
      · omega
      cases h1
      -- R2
      refine WP_net hs mix [0, 1, 3, 7, 7, 7, 39, 119, 247, 7, 1023, 2047, 4095] [⟨0, 0, []⟩, ⟨1, 0, []⟩, ⟨2, 0, []⟩, ⟨3, 1, []⟩, ⟨4, 1, []⟩, ⟨5, 0, []⟩, ⟨6, 0, []⟩, ⟨7, 0, []⟩, ⟨8, 1, []⟩, ⟨9, 1, []⟩, ⟨10, 2, []⟩, ⟨11, 0, []⟩, ⟨12, 0, []⟩] (by kernel_rfl) ?_
      intro w hs
      refine ns_move rfl rfl ?_
      refine ns_cmp true rfl rfl rfl rfl (by simp [cmpI]; omega) ?_
      refine ns_move rfl rfl ?_
      refine ns_ldB pl_62 hs rfl rfl rfl (by rfl) ?_
      refine ns_ldB pl_100 hs rfl rfl rfl (by rfl) ?_
      refine ns_move rfl rfl ?_
      refine ns_sub rfl rfl rfl rfl (by omega) (by omega) ?_
      refine ns_idx (ub its x.key - 1) sl_100 rfl rfl rfl rfl e1 (by omega) ?_
      refine ns_ldA [.int .i64 y.key, .int .i64 y.val] ag_45 rfl rfl rfl rfl (by decide) (it_cells hs htk _ hy) ?_
      refine ns_ldAB _ ag_45 hs rfl rfl rfl (by rfl) (by rfl) (by decide) ?_
      refine ns_call (f40_ok y x) ck_40 (hs.foc 1) rfl rfl rfl rfl ?_
      intro v23 w hs
      replace hs := hs.pure
      obtain ⟨rfl, hs⟩ := hs
      refine ns_not rfl rfl rfl ?_
      refine ns_pick rfl rfl rfl ?_
      refine ns_done ?_
      have hs := (hs.foc (pts g (.cells cur 45 (0, 0)))).mk_arr' h2 h3 hsz htk
      refine WP_if rfl (fun hif1 => ?_) (fun hif1 => ?_)
      · refine WP_seq ?_
        -- R3
        refine WP_seqr [⟨0, 0, []⟩, ⟨1, 0, []⟩, ⟨2, 0, []⟩, ⟨3, 0, []⟩] (by kernel_rfl) ?_
        refine ns_move rfl rfl ?_
        refine ns_sub rfl rfl rfl rfl (by omega) (by omega) ?_
        refine ns_asg rfl rfl ?_
        refine ns_asg rfl rfl ?_
        refine ns_done ?_
        refine WP_ret ?_
        have hnl : ¬ y.key < x.key := by simpa [evS, updO, upd] using hif1
        have hf : fnd its x.key = true := by
          cases hf : fnd its x.key
          · rw [hf] at hub; simp at hub
            exact absurd (hlb.2 (by omega)) hnl
          · rfl
        rw [hf] at hub ⊢
        simp only [if_true] at hub
        refine ⟨_, res2 _ _, St.mk_pu ?_ (hs.foc (IArr (.slice (some ⟨g, 0, none⟩) its.length c) its * F)).fst⟩
        have e2 : ((ub its x.key : Int) - 1) = (lb its x.key : Int) := by omega
        exact congrArg (fun z : Int => Value.tuple #[.int .i64 z, .bool true]) e2
      refine WP_skip ?_
      have hnl : y.key < x.key := by simpa [evS, updO, upd] using hif1
      refine ⟨?_, rfl, (hs.foc (IArr (.slice (some ⟨g, 0, none⟩) its.length c) its * F)).fst⟩
      cases hf : fnd its x.key
      · rfl
      · rw [hf] at hub; simp at hub
        have := hlb.1 hnl
        omega
  rintro σ w ⟨hf, h8, hs⟩
  rw [hf] at hub
  simp only [Bool.false_eq_true, if_false] at hub
  obtain ⟨σ, rfl⟩ := rebase h8
  refine WP_seq ?_
  -- R4
  refine WP_seqr [⟨0, 0, []⟩, ⟨1, 0, []⟩, ⟨2, 0, []⟩] (by kernel_rfl) ?_
  refine ns_move rfl rfl ?_
  refine ns_asg rfl rfl ?_
  refine ns_asg rfl rfl ?_
  refine ns_done ?_
  refine WP_ret ?_
  rw [hf, ← hub]
  exact ⟨_, res2 _ _, St.mk_pu rfl hs⟩
end Go.Proofs.Ytnnembkganlbpaa
/- The walks of splitting: a node is cut in two, a full child is split. -/
namespace Go.Proofs.Ytnnembkganlbpaa
open Go Go.Sl Go.Net Go.Wk Go.Bt Go.RowKit

theorem IArr_eq {v : Value} {n : Nat} {xs : List Value} {l : List It} (h1 : n = l.length) (h2 : xs = encs l) : Arr 45 2 v n xs = IArr v l := by subst h1; subst h2; rfl
theorem splice2 (a b c d : Value) : splice #[a, b] 0 (#[c, d] : Array Value).toList = #[c, d] := rfl
theorem PArr_eq {v : Value} {n : Nat} {xs : List Value} {l : List Nat} (h1 : n = l.length) (h2 : xs = l.map ptr) : Arr 85 1 v n xs = PArr v l := by subst h1; subst h2; rfl
theorem f70_ok (c fl n i : Nat) (x : It) (its : List It) (bs : List Nat) (hx : its[i]? = some x) (hn : its.length < 1000000) (hb : bs.length ≠ 0 → i + 1 ≤ bs.length ∧ bs.length < 1000000) :
    Tri Try.prog 70 #[ptr n, .int .i64 i] (NodeP c n its bs * Ctx c fl) fun v => ex fun r : Nat => pu (v = .tuple #[itV x, ptr r]) * (NodeP c n (its.take i) (bs.take (i + 1)) * (NodeP c r (its.drop (i + 1)) (bs.drop (i + 1)) * Ctx c fl)) := by
  have hi : i < its.length := (List.getElem?_eq_some_iff.1 hx).1
  have hl := encs_len its
  intro w0 F w hs
  simp only [mul_assoc'] at hs
  obtain ⟨⟨v1, v2⟩, hs⟩ := hs.ex
  simp only [mul_assoc'] at hs
  obtain ⟨_, hz, _⟩ | ⟨g, cap, cur, hv, hc, hcm, hsz, htk, hs⟩ := (hs.foc (IArr (v1) (its))).arr
  · omega
  cases hv
  refine calls_WP 69 #[.cell 4 45, .tmp 5] Try.func70 rfl Try.ntmps70 rfl (Nat.le_of_ble_eq_true rfl) ?_
  refine WP_seq ?_
  -- R0
  refine WP_seqr [⟨0, 2, []⟩, ⟨1, 0, []⟩] (by kernel_rfl) ?_
  refine ns_alloc zc_45 hs rfl rfl ?_
  intro b4 w hs
  refine ns_asg rfl rfl ?_
  refine ns_done ?_
  refine WP_seq ?_
  -- R1
  refine WP_seqr [⟨0, 0, []⟩, ⟨1, 0, []⟩, ⟨2, 0, []⟩, ⟨3, 1, []⟩, ⟨4, 0, []⟩, ⟨5, 0, []⟩, ⟨6, 1, []⟩, ⟨7, 2, []⟩, ⟨8, 2, []⟩] (by kernel_rfl) ?_
  refine ns_move rfl rfl ?_
  refine ns_nil rfl rfl rfl ?_
  refine ns_fld fo_103_0 rfl rfl rfl ?_
  refine ns_ldB pl_100 hs rfl rfl rfl (by rfl) ?_
  refine ns_move rfl rfl ?_
  refine ns_idx i sl_100 rfl rfl rfl rfl rfl hi ?_
  refine ns_ldA [.int .i64 x.key, .int .i64 x.val] ag_45 rfl rfl rfl rfl (by decide) (it_cells hs htk i hx) ?_
  refine ns_alloc zc_45 hs rfl rfl ?_
  intro b6 w hs
  refine ns_stA (#[.int .i64 x.key, .int .i64 x.val]) ag_45 rfl (by decide) hs rfl rfl rfl rfl (by intro u hu; simp at hu; rcases hu with rfl | rfl <;> rfl) (by simp) ?_
  refine fun w hs => ⟨trivial, ?_⟩
  rw [splice2] at hs
  refine ns_done ?_
  refine WP_seq ?_
  -- R2
  refine WP_seqr [⟨0, 0, []⟩, ⟨1, 0, []⟩, ⟨2, 0, []⟩, ⟨3, 1, []⟩, ⟨4, 2, []⟩, ⟨5, 0, []⟩] (by kernel_rfl) ?_
  refine ns_move rfl rfl ?_
  refine ns_nil rfl rfl rfl ?_
  refine ns_fld fo_103_2 rfl rfl rfl ?_
  refine ns_ldB pl_82 hs rfl rfl rfl (by rfl) ?_
  refine ns_call (f67_ok c fl) ck_67 (hs.foc (Ctx c fl)) rfl rfl rfl rfl ?_
  intro v19 w hs
  replace hs := hs.ex
  obtain ⟨r, hs⟩ := hs
  replace hs := hs.pu
  obtain ⟨rfl, hs⟩ := hs
  simp only [mul_assoc'] at hs
  obtain ⟨⟨u1, u2⟩, hs⟩ := (hs.foc (NodeP c r ([]) ([]))).ex
  simp only [mul_assoc'] at hs
  refine ns_asg rfl rfl ?_
  refine ns_done ?_
  refine WP_seq ?_
  -- R3
  refine WP_net hs mix [0, 0, 2, 6, 14, 0, 32, 96, 224, 0, 512, 2016, 4094, 8191, 16383, 32767] [⟨0, 0, []⟩, ⟨1, 0, []⟩, ⟨2, 0, []⟩, ⟨3, 0, []⟩, ⟨4, 1, []⟩, ⟨5, 0, []⟩, ⟨6, 0, []⟩, ⟨7, 0, []⟩, ⟨8, 1, []⟩, ⟨9, 0, []⟩, ⟨10, 0, []⟩, ⟨11, 0, []⟩, ⟨12, 2, []⟩, ⟨13, 0, []⟩, ⟨14, 0, []⟩, ⟨15, 2, []⟩] (by kernel_rfl) ?_
  intro w hs
  refine ns_move rfl rfl ?_
  refine ns_move rfl rfl ?_
  refine ns_nil rfl rfl rfl ?_
  refine ns_fld fo_103_0 rfl rfl rfl ?_
  refine ns_ldB pl_100 hs rfl rfl rfl (by rfl) ?_
  refine ns_move rfl rfl ?_
  refine ns_nil rfl rfl rfl ?_
  refine ns_fld fo_103_0 rfl rfl rfl ?_
  refine ns_ldB pl_100 hs rfl rfl rfl (by rfl) ?_
  refine ns_move rfl rfl ?_
  refine ns_add rfl rfl rfl rfl (by omega) (by omega) ?_
  refine ns_sliceLo' (i + 1) sl_100 rfl rfl rfl rfl (by omega) (by omega) ?_
  refine ns_app ((encs its).drop ((i + 1) * 2)) sl_100 zr_45 by_45 rfl (by decide) (hs.foc (IArr u1 [])) rfl rfl rfl rfl (by rw [List.length_drop, hl]; omega) (drop_cells hs htk (by omega) (i + 1)) (fun u hu => encs_one its u (List.mem_of_mem_drop hu)) (by simp only [maxLen, List.length_nil]; omega) (by simp only [List.length_nil]; omega) ?_
  refine fun v32 w hs hv => ⟨trivial, ?_⟩
  have hs := hs.up (Ent.of_eq (IArr_eq (l := its.drop (i + 1)) (by simp) (by rw [encs_drop]; simp [encs])))
  obtain ⟨a5, c5, rfl, _, _⟩ := hs.arr_form
  refine ns_nil rfl rfl rfl ?_
  refine ns_fld fo_103_0 rfl rfl rfl ?_
  refine ns_st (.slice a5 (its.drop (i + 1)).length c5) pl_100 hs rfl rfl rfl rfl rfl (by simp) ?_
  refine fun w hs => ⟨trivial, ?_⟩
  try simp only [Nat.zero_add] at hs
  try simp only [List.setIfInBounds_toArray] at hs
  try simp only [List.set_cons_succ] at hs
  try simp only [List.set_cons_zero] at hs
  refine ns_done ?_
  have hs := hs.fold (node_fold c r (.slice a5 (its.drop (i + 1)).length c5) u2 (its.drop (i + 1)) [])
  have hs := (hs.foc (pts g (.cells cur 45 (0, 0)))).mk_arr' hc hcm hsz htk
  have hs := hs.fold (node_fold c n (.slice (some ⟨g, 0, none⟩) its.length cap) v2 its bs)
  refine WP_seq ?_
  -- R4
  refine WP_seqr [⟨0, 0, []⟩, ⟨1, 0, []⟩, ⟨2, 0, []⟩, ⟨3, 0, []⟩, ⟨4, 2, []⟩] (by kernel_rfl) ?_
  refine ns_move rfl rfl ?_
  refine ns_nil rfl rfl rfl ?_
  refine ns_fld fo_103_0 rfl rfl rfl ?_
  refine ns_move rfl rfl ?_
  refine ns_call (f81_ok c n i its bs (by omega)) ck_81 (hs.foc (NodeP c n its bs)) rfl rfl rfl rfl ?_
  intro v39 w hs
  refine ns_done ?_
  obtain ⟨⟨w1, w2⟩, hs⟩ := (hs.foc (NodeP c n (its.take i) (bs))).ex
  simp only [mul_assoc'] at hs
  obtain ⟨a2, c2, rfl, hc2, hcm2⟩ := (hs.foc (PArr w2 bs)).arr_form
  refine WP_seq_cut (fun σ w => σ 6 = .pointer (some ⟨b6, 0, none⟩) ∧ σ 4 = .pointer (some ⟨b4, 0, none⟩) ∧ σ 7 = ptr r ∧ St w0 (pts b6 (.cells #[.int .i64 x.key, .int .i64 x.val] 45 (0, 0)) * (pts b4 (.cells #[.int .i64 0, .int .i64 0] 45 (0, 0)) * (NodeP c n (its.take i) (bs.take (i + 1)) * (NodeP c r (its.drop (i + 1)) (bs.drop (i + 1)) * (Ctx c fl * F))))) w) ?_ ?_ -- S1
  · refine WP_seq ?_
    -- R5
    refine WP_seqr [⟨0, 0, []⟩, ⟨1, 0, []⟩, ⟨2, 0, []⟩, ⟨3, 1, []⟩, ⟨4, 0, []⟩, ⟨5, 0, []⟩] (by kernel_rfl) ?_
    refine ns_move rfl rfl ?_
    refine ns_nil rfl rfl rfl ?_
    refine ns_fld fo_103_1 rfl rfl rfl ?_
    refine ns_ldB pl_101 hs rfl rfl rfl (by rfl) ?_
    refine ns_len sl_101 rfl rfl rfl ?_
    refine ns_cmp _ rfl rfl rfl rfl rfl ?_
    refine ns_done ?_
    refine WP_if rfl (fun hif1 => ?_) (fun hif1 => ?_)
    · refine WP_seq ?_
      have hb0 : bs.length ≠ 0 := by simp at hif1; omega
      have hb1 := hb hb0
      obtain ⟨_, hz3, _⟩ | ⟨g3, cap3, cur3, hv3, hc3, hcm3, hsz3, htk3, hs⟩ := (hs.foc (PArr (.slice a2 bs.length c2) (bs))).arr
      · omega
      cases hv3
      obtain ⟨⟨u3, u4⟩, hs⟩ := (hs.foc (NodeP c r (its.drop (i + 1)) ([]))).ex
      simp only [mul_assoc'] at hs
      -- R6
      refine WP_net hs mix [0, 0, 2, 6, 14, 0, 32, 96, 224, 0, 512, 2016, 4094, 8191, 16383, 32767] [⟨0, 0, []⟩, ⟨1, 0, []⟩, ⟨2, 0, []⟩, ⟨3, 0, []⟩, ⟨4, 1, []⟩, ⟨5, 0, []⟩, ⟨6, 0, []⟩, ⟨7, 0, []⟩, ⟨8, 1, []⟩, ⟨9, 0, []⟩, ⟨10, 0, []⟩, ⟨11, 0, []⟩, ⟨12, 2, []⟩, ⟨13, 0, []⟩, ⟨14, 0, []⟩, ⟨15, 2, []⟩] (by kernel_rfl) ?_
      intro w hs
      refine ns_move rfl rfl ?_
      refine ns_move rfl rfl ?_
      refine ns_nil rfl rfl rfl ?_
      refine ns_fld fo_103_1 rfl rfl rfl ?_
      refine ns_ldB pl_101 hs rfl rfl rfl (by rfl) ?_
      refine ns_move rfl rfl ?_
      refine ns_nil rfl rfl rfl ?_
      refine ns_fld fo_103_1 rfl rfl rfl ?_
      refine ns_ldB pl_101 hs rfl rfl rfl (by rfl) ?_
      refine ns_move rfl rfl ?_
      refine ns_add rfl rfl rfl rfl (by omega) (by omega) ?_
      refine ns_sliceLo' (i + 1) sl_101 rfl rfl rfl rfl (by omega) (by omega) ?_
      refine ns_app ((bs.map ptr).drop ((i + 1) * 1)) sl_101 zr_85 by_85 rfl (by decide) (hs.foc (PArr u4 [])) rfl rfl rfl rfl (by rw [List.length_drop, List.length_map]; omega) (drop_cells hs htk3 (by rw [List.length_map]; omega) (i + 1)) (fun u hu => ptrs_one bs u (List.mem_of_mem_drop hu)) (by simp only [maxLen, List.length_nil]; omega) (by simp only [List.length_nil]; omega) ?_
      refine fun v58 w hs hv => ⟨trivial, ?_⟩
      have hs := hs.up (Ent.of_eq (PArr_eq (l := bs.drop (i + 1)) (by simp) (by simp)))
      obtain ⟨a6, c6, rfl, _, _⟩ := hs.arr_form
      refine ns_nil rfl rfl rfl ?_
      refine ns_fld fo_103_1 rfl rfl rfl ?_
      refine ns_st (.slice a6 (bs.drop (i + 1)).length c6) pl_101 hs rfl rfl rfl rfl rfl (by simp) ?_
      refine fun w hs => ⟨trivial, ?_⟩
      try simp only [Nat.zero_add] at hs
      try simp only [List.setIfInBounds_toArray] at hs
      try simp only [List.set_cons_succ] at hs
      try simp only [List.set_cons_zero] at hs
      refine ns_done ?_
      have hs := hs.fold (node_fold c r u3 (.slice a6 (bs.drop (i + 1)).length c6) (its.drop (i + 1)) (bs.drop (i + 1)))
      have hs := (hs.foc (pts g3 (.cells cur3 85 (0, 0)))).mk_arr' hc3 hcm3 hsz3 htk3
      have hs := hs.fold (node_fold c n w1 (.slice (some ⟨g3, 0, none⟩) bs.length c2) (its.take i) bs)
      -- R7
      refine WP_seqr [⟨0, 0, []⟩, ⟨1, 0, []⟩, ⟨2, 0, []⟩, ⟨3, 0, []⟩, ⟨4, 0, []⟩, ⟨5, 2, []⟩] (by kernel_rfl) ?_
      refine ns_move rfl rfl ?_
      refine ns_nil rfl rfl rfl ?_
      refine ns_fld fo_103_1 rfl rfl rfl ?_
      refine ns_move rfl rfl ?_
      refine ns_add rfl rfl rfl rfl (by omega) (by omega) ?_
      refine ns_call (f82_ok c n (i + 1) (its.take i) bs (by omega)) ck_82 (hs.foc (NodeP c n (its.take i) bs)) rfl rfl rfl rfl ?_
      intro v66 w hs
      refine ns_done ?_
      exact ⟨rfl, rfl, rfl, hs.out⟩
    refine WP_skip ?_
    have hb0 : bs = [] := List.eq_nil_of_length_eq_zero (by simp at hif1; simpa using hif1)
    subst hb0
    have hs := hs.fold (node_fold c n w1 (.slice a2 ([] : List Nat).length c2) (its.take i) [])
    refine ⟨rfl, rfl, rfl, ?_⟩
    rw [List.take_nil, List.drop_nil]
    exact hs.out
  rintro σ w ⟨h6, h4, h7, hs⟩
  obtain ⟨σ, rfl⟩ := rebase h6
  obtain ⟨σ, rfl⟩ := rebase (σ := σ) h4
  obtain ⟨σ, rfl⟩ := rebase (σ := σ) h7
  refine WP_seq ?_
  -- R8
  refine WP_seqr [⟨0, 1, []⟩, ⟨1, 0, []⟩, ⟨2, 2, []⟩, ⟨3, 0, []⟩] (by kernel_rfl) ?_
  refine ns_ldAB _ ag_45 hs rfl rfl rfl (by rfl) (by rfl) (by decide) ?_
  refine ns_move rfl rfl ?_
  refine ns_stA (#[.int .i64 x.key, .int .i64 x.val]) ag_45 rfl (by decide) hs rfl rfl rfl rfl (by intro u hu; simp at hu; rcases hu with rfl | rfl <;> rfl) (by simp) ?_
  refine fun w hs => ⟨trivial, ?_⟩
  refine ns_asg rfl rfl ?_
  refine ns_done ?_
  refine WP_ret ?_
  have hload := run_loadVarA (P := Try.prog) (t := 45) (n := 2) (ad := ⟨b4, 0, none⟩) (vs := [.int .i64 x.key, .int .i64 x.val]) ag_45 rfl (by decide) w (St.cells (n := 2) hs (by rfl))
  exact ⟨_, resCT 4 45 5 rfl hload, St.mk_ex r (St.mk_pu rfl hs.out)⟩
theorem f85_no (c n i x mx : Nat) (its its' : List It) (bs bs' : List Nat) (hx : bs[i]? = some x) (hm : its'.length < mx) :
    Tri Try.prog 85 #[ptr n, .int .i64 i, .int .i64 mx] (NodeP c n its bs * NodeP c x its' bs') fun v => pu (v = .bool false) * (NodeP c n its bs * NodeP c x its' bs') := by
  have hi : i < bs.length := (List.getElem?_eq_some_iff.1 hx).1
  intro w0 F w hs
  simp only [mul_assoc'] at hs
  obtain ⟨⟨v1, v2⟩, hs⟩ := hs.ex
  simp only [mul_assoc'] at hs
  obtain ⟨_, hz, _⟩ | ⟨g, cap, cur, hv, hc, hcm, hsz, htk, hs⟩ := (hs.foc (PArr (v2) (bs))).arr
  · omega
  cases hv
  obtain ⟨⟨u1, u2⟩, hs⟩ := (hs.foc (NodeP c x (its') (bs'))).ex
  simp only [mul_assoc'] at hs
  obtain ⟨a2, c2, rfl, hc2, hcm2⟩ := (hs.foc (IArr u1 its')).arr_form
  refine calls_WP 46 #[.tmp 6] Try.func85 rfl Try.ntmps85 rfl (Nat.le_of_ble_eq_true rfl) ?_
  refine WP_seq ?_
  -- R0
  refine WP_seqr [⟨0, 0, []⟩] (by kernel_rfl) ?_
  refine ns_asg rfl rfl ?_
  refine ns_done ?_
  refine WP_seq ?_ -- S1
  refine WP_seq ?_
  -- R1
  refine WP_seqr [⟨0, 0, []⟩, ⟨1, 0, []⟩, ⟨2, 0, []⟩, ⟨3, 1, []⟩, ⟨4, 0, []⟩, ⟨5, 0, []⟩, ⟨6, 1, []⟩, ⟨7, 0, []⟩, ⟨8, 0, []⟩, ⟨9, 1, []⟩, ⟨10, 0, []⟩, ⟨11, 0, []⟩, ⟨12, 0, []⟩] (by kernel_rfl) ?_
  refine ns_move rfl rfl ?_
  refine ns_nil rfl rfl rfl ?_
  refine ns_fld fo_103_1 rfl rfl rfl ?_
  refine ns_ldB pl_101 hs rfl rfl rfl (by rfl) ?_
  refine ns_move rfl rfl ?_
  refine ns_idx i sl_101 rfl rfl rfl rfl rfl hi ?_
  refine ns_ld pl_85 rfl rfl rfl (ptr_cell hs htk i hx) ?_
  refine ns_nil rfl rfl rfl ?_
  refine ns_fld fo_103_0 rfl rfl rfl ?_
  refine ns_ldB pl_100 hs rfl rfl rfl (by rfl) ?_
  refine ns_len sl_100 rfl rfl rfl ?_
  refine ns_move rfl rfl ?_
  refine ns_cmp true rfl rfl rfl rfl (by simp [cmpI]; omega) ?_
  refine ns_done ?_
  refine WP_true rfl ?_ -- if1
  refine WP_seq ?_
  -- R2
  refine WP_seqr [⟨0, 0, []⟩] (by kernel_rfl) ?_
  refine ns_asg rfl rfl ?_
  refine ns_done ?_
  refine WP_ret ?_
  have hs := (hs.foc (pts g (.cells cur 85 (0, 0)))).mk_arr' hc hcm hsz htk
  have hs := hs.fold (node_fold c x (.slice a2 its'.length c2) u2 its' bs')
  have hs := hs.fold (node_fold c n v1 (.slice (some ⟨g, 0, none⟩) bs.length cap) its bs)
  exact ⟨_, res1 _, St.mk_pu rfl (hs.foc (NodeP c n its bs * NodeP c x its' bs'))⟩
theorem f85_yes (c fl n i x mx : Nat) (y : It) (its its' : List It) (bs bs' : List Nat) (hx : bs[i]? = some x) (hm : mx ≤ its'.length) (hy : its'[mx / 2]? = some y) (hi2 : i ≤ its.length) (hn : its.length < 100000) (hn2 : bs.length < 100000) (hn3 : its'.length < 100000) (hb : bs'.length ≠ 0 → mx / 2 + 1 ≤ bs'.length ∧ bs'.length < 1000000) :
    Tri Try.prog 85 #[ptr n, .int .i64 i, .int .i64 mx] (NodeP c n its bs * (NodeP c x its' bs' * Ctx c fl)) fun v => ex fun r : Nat => pu (v = .bool true) * (NodeP c n (its.insertIdx i y) (bs.insertIdx (i + 1) r) * (NodeP c x (its'.take (mx / 2)) (bs'.take (mx / 2 + 1)) * (NodeP c r (its'.drop (mx / 2 + 1)) (bs'.drop (mx / 2 + 1)) * Ctx c fl))) := by
  have hi : i < bs.length := (List.getElem?_eq_some_iff.1 hx).1
  intro w0 F w hs
  simp only [mul_assoc'] at hs
  obtain ⟨⟨v1, v2⟩, hs⟩ := hs.ex
  simp only [mul_assoc'] at hs
  obtain ⟨_, hz, _⟩ | ⟨g, cap, cur, hv, hc, hcm, hsz, htk, hs⟩ := (hs.foc (PArr (v2) (bs))).arr
  · omega
  cases hv
  obtain ⟨⟨u1, u2⟩, hs⟩ := (hs.foc (NodeP c x (its') (bs'))).ex
  simp only [mul_assoc'] at hs
  obtain ⟨a2, c2, rfl, hc2, hcm2⟩ := (hs.foc (IArr u1 its')).arr_form
  refine calls_WP 46 #[.tmp 6] Try.func85 rfl Try.ntmps85 rfl (Nat.le_of_ble_eq_true rfl) ?_
  refine WP_seq ?_
  -- R0
  refine WP_seqr [⟨0, 0, []⟩] (by kernel_rfl) ?_
  refine ns_asg rfl rfl ?_
  refine ns_done ?_
  refine WP_seq ?_ -- S1
  refine WP_seq ?_
  -- R1
  refine WP_seqr [⟨0, 0, []⟩, ⟨1, 0, []⟩, ⟨2, 0, []⟩, ⟨3, 1, []⟩, ⟨4, 0, []⟩, ⟨5, 0, []⟩, ⟨6, 1, []⟩, ⟨7, 0, []⟩, ⟨8, 0, []⟩, ⟨9, 1, []⟩, ⟨10, 0, []⟩, ⟨11, 0, []⟩, ⟨12, 0, []⟩] (by kernel_rfl) ?_
  refine ns_move rfl rfl ?_
  refine ns_nil rfl rfl rfl ?_
  refine ns_fld fo_103_1 rfl rfl rfl ?_
  refine ns_ldB pl_101 hs rfl rfl rfl (by rfl) ?_
  refine ns_move rfl rfl ?_
  refine ns_idx i sl_101 rfl rfl rfl rfl rfl hi ?_
  refine ns_ld pl_85 rfl rfl rfl (ptr_cell hs htk i hx) ?_
  refine ns_nil rfl rfl rfl ?_
  refine ns_fld fo_103_0 rfl rfl rfl ?_
  refine ns_ldB pl_100 hs rfl rfl rfl (by rfl) ?_
  refine ns_len sl_100 rfl rfl rfl ?_
  refine ns_move rfl rfl ?_
  refine ns_cmp false rfl rfl rfl rfl (by simp [cmpI]; omega) ?_
  refine ns_done ?_
  refine WP_false rfl ?_ -- if1
  refine WP_skip ?_
  refine WP_seq ?_
  have hs := (hs.foc (pts g (.cells cur 85 (0, 0)))).mk_arr' hc hcm hsz htk
  have hs := hs.fold (node_fold c x (.slice a2 its'.length c2) u2 its' bs')
  have hs := hs.fold (node_fold c n v1 (.slice (some ⟨g, 0, none⟩) bs.length cap) its bs)
  -- R3
  refine WP_seqr [⟨0, 0, []⟩, ⟨1, 0, []⟩, ⟨2, 2, []⟩, ⟨3, 0, []⟩] (by kernel_rfl) ?_
  refine ns_move rfl rfl ?_
  refine ns_move rfl rfl ?_
  refine ns_call (f86_ok c n i x its its' bs bs' hx) ck_86 (hs.foc (NodeP c n its bs * NodeP c x its' bs')) rfl rfl rfl rfl ?_
  intro v25 w hs
  replace hs := hs.pu
  obtain ⟨rfl, hs⟩ := hs
  simp only [mul_assoc'] at hs
  refine ns_asg rfl rfl ?_
  refine ns_done ?_
  refine WP_seq ?_
  -- R4
  refine WP_seqr [⟨0, 0, []⟩, ⟨1, 0, []⟩, ⟨2, 0, []⟩, ⟨3, 2, []⟩, ⟨4, 0, []⟩, ⟨5, 0, []⟩, ⟨6, 0, []⟩, ⟨7, 2, []⟩, ⟨8, 2, []⟩, ⟨9, 0, []⟩] (by kernel_rfl) ?_
  refine ns_move rfl rfl ?_
  refine ns_move rfl rfl ?_
  refine ns_quo rfl rfl rfl rfl (by decide) (by show _ ≤ ((mx / 2 : Nat) : Int); omega) (by show ((mx / 2 : Nat) : Int) ≤ _; omega) ?_
  refine ns_call (f70_ok c fl x (mx / 2) y its' bs' hy (by omega) hb) ck_70 (hs.foc (NodeP c x its' bs' * Ctx c fl)) rfl rfl rfl rfl ?_
  intro v30 w hs
  replace hs := hs.ex
  obtain ⟨r, hs⟩ := hs
  replace hs := hs.pu
  obtain ⟨rfl, hs⟩ := hs
  simp only [mul_assoc'] at hs
  refine ns_move rfl rfl ?_
  refine ns_ext rfl rfl rfl rfl ?_
  refine ns_ext rfl rfl rfl rfl ?_
  refine ns_alloc zc_45 hs rfl rfl ?_
  intro b8 w hs
  refine ns_stA (#[.int .i64 y.key, .int .i64 y.val]) ag_45 rfl (by decide) hs rfl rfl rfl rfl (by intro u hu; simp at hu; rcases hu with rfl | rfl <;> rfl) (by simp) ?_
  refine fun w hs => ⟨trivial, ?_⟩
  refine ns_asg rfl rfl ?_
  refine ns_done ?_
  refine WP_seq ?_
  -- R5
  refine WP_net hs mix [0, 1, 3, 0, 0, 31] [⟨0, 0, []⟩, ⟨1, 0, []⟩, ⟨2, 0, []⟩, ⟨3, 0, []⟩, ⟨4, 1, []⟩, ⟨5, 2, []⟩] (by kernel_rfl) ?_
  intro w hs
  refine ns_move rfl rfl ?_
  refine ns_nil rfl rfl rfl ?_
  refine ns_fld fo_103_0 rfl rfl rfl ?_
  refine ns_move rfl rfl ?_
  refine ns_ldAB _ ag_45 hs rfl rfl rfl (by rfl) (by rfl) (by decide) ?_
  refine ns_call (f84_ok c n i y its bs hi2 (by omega)) ck_84 (hs.foc (NodeP c n its bs)) rfl rfl rfl rfl ?_
  intro v38 w hs
  refine ns_done ?_
  refine WP_seq ?_
  -- R6
  refine WP_seqr [⟨0, 0, []⟩, ⟨1, 0, []⟩, ⟨2, 0, []⟩, ⟨3, 0, []⟩, ⟨4, 0, []⟩, ⟨5, 0, []⟩, ⟨6, 2, []⟩] (by kernel_rfl) ?_
  refine ns_move rfl rfl ?_
  refine ns_nil rfl rfl rfl ?_
  refine ns_fld fo_103_1 rfl rfl rfl ?_
  refine ns_move rfl rfl ?_
  refine ns_add rfl rfl rfl rfl (by omega) (by omega) ?_
  refine ns_move rfl rfl ?_
  refine ns_call (f94_ok c n (i + 1) r (its.insertIdx i y) bs (by omega) (by omega)) ck_94 (hs.foc (NodeP c n (its.insertIdx i y) bs)) rfl rfl rfl rfl ?_
  intro v45 w hs
  refine ns_done ?_
  refine WP_seq ?_
  -- R7
  refine WP_seqr [⟨0, 0, []⟩] (by kernel_rfl) ?_
  refine ns_asg rfl rfl ?_
  refine ns_done ?_
  refine WP_ret ?_
  exact ⟨_, res1 _, St.mk_ex r (St.mk_pu rfl hs.out)⟩
end Go.Proofs.Ytnnembkganlbpaa
/- A tree in memory: its node, its kids' pointers, and the kids, each a tree one lower. -/
namespace Go.Proofs.Ytnnembkganlbpaa
open Go Go.Sl Go.Net Go.Wk Go.Bt Go.RowKit

def zero : It := ⟨0, 0⟩
def Tq (c : Nat) : Nat → Tr → Nat → HProp
  | 0 => fun _ _ => 1
  | h + 1 => fun t b => ex fun bs : List Nat => pu (bs.length = t.kids.length) * (NodeP c b t.its bs * stars (List.zipWith (Tq c h) t.kids bs))
/-- a tree of height h at block b -/
def Tp (c h : Nat) (t : Tr) (b : Nat) : HProp := Tq c (h + 1) t b
def Ks (c h : Nat) (kids : List Tr) (bs : List Nat) : HProp := stars (List.zipWith (Tq c h) kids bs)
theorem tree_fold {c h b : Nat} {its : List It} {kids : List Tr} {bs : List Nat} (hl : bs.length = kids.length) : Ent (NodeP c b its bs * Ks c h kids bs) (Tp c h (.mk its kids) b) := fun x hx => ⟨bs, by
  show (pu (bs.length = kids.length) * (NodeP c b its bs * Ks c h kids bs)) x
  rw [pu_true hl]; exact hx⟩
theorem St.tree {w0 w : World} {c h b : Nat} {t : Tr} {F : HProp} (hs : St w0 (Tp c h t b * F) w) : ∃ bs : List Nat, bs.length = t.kids.length ∧ St w0 (NodeP c b t.its bs * (Ks c h t.kids bs * F)) w := by
  obtain ⟨bs, hs⟩ := St.ex (f := fun bs : List Nat => pu (bs.length = t.kids.length) * (NodeP c b t.its bs * stars (List.zipWith (Tq c h) t.kids bs))) hs
  obtain ⟨hl, hs⟩ := hs.pu
  rw [mul_assoc'] at hs
  exact ⟨bs, hl, hs⟩
theorem Ks_nil (c h : Nat) : Ks c h [] [] = 1 := rfl
theorem Ks_at {c h : Nat} {kids : List Tr} {bs : List Nat} {i : Nat} {k : Tr} {x : Nat} (hk : kids[i]? = some k) (hx : bs[i]? = some x) : Ks c h kids bs = Tq c h k x * Ks c h (kids.eraseIdx i) (bs.eraseIdx i) := by
  induction kids generalizing bs i with
  | nil => simp at hk
  | cons k0 kids ih =>
    match bs with
    | [] => simp at hx
    | b0 :: bs =>
      cases i with
      | zero =>
        simp at hk hx; subst hk; subst hx; rfl
      | succ i =>
        simp at hk hx
        show Tq c h k0 b0 * Ks c h kids bs = Tq c h k x * (Tq c h k0 b0 * Ks c h (kids.eraseIdx i) (bs.eraseIdx i))
        rw [ih hk hx, mul_left_comm']
theorem Ks_set {c h : Nat} {kids : List Tr} {bs : List Nat} {i : Nat} (k' : Tr) {x : Nat} (hk : i < kids.length) (hx : bs[i]? = some x) : Ks c h (kids.set i k') bs = Tq c h k' x * Ks c h (kids.eraseIdx i) (bs.eraseIdx i) := by
  rw [Ks_at (i := i) (k := k') (by simp [hk]) hx, List.eraseIdx_set_eq]
theorem Ks_ins {c h : Nat} {kids : List Tr} {bs : List Nat} {i : Nat} (k' : Tr) (r : Nat) (hk : i ≤ kids.length) (hx : i ≤ bs.length) : Ks c h (kids.insertIdx i k') (bs.insertIdx i r) = Tq c h k' r * Ks c h kids bs := by
  rw [Ks_at (i := i) (k := k') (x := r) (by rw [List.getElem?_insertIdx_self]; simp [hk]) (by rw [List.getElem?_insertIdx_self]; simp [hx]), List.eraseIdx_insertIdx_self, List.eraseIdx_insertIdx_self]
theorem Ks_append {c h : Nat} {k1 k2 : List Tr} {b1 b2 : List Nat} (hl : k1.length = b1.length) : Ks c h (k1 ++ k2) (b1 ++ b2) = Ks c h k1 b1 * Ks c h k2 b2 := by
  unfold Ks
  rw [List.zipWith_append hl, stars_append]
theorem flat_mk0 (its : List It) (kids : List Tr) : flat 0 (.mk its kids) = its := rfl
theorem flat_mk (h : Nat) (its : List It) (kids : List Tr) : flat (h + 1) (.mk its kids) = weave its (kids.map (flat h)) := rfl
theorem Tr.eta (t : Tr) : Tr.mk t.its t.kids = t := by cases t; rfl
theorem flat_sub {mn mx h : Nat} {t : Tr} (hO : Ok mn mx h t) : t.its.Sublist (flat h t) := by
  cases h with
  | zero => exact List.Sublist.refl _
  | succ h => exact weave_sub (by rw [List.length_map]; exact hO.1)
theorem srt_its {mn mx h : Nat} {t : Tr} (hO : Ok mn mx h t) (hS : Srt (flat h t)) : Srt t.its := List.Pairwise.sublist (flat_sub hO) hS

/-- what a kid of a tree of height h holds -/
def flk : Nat → Tr → List It
  | 0, _ => []
  | h + 1, t => flat h t
theorem kid_place {mn mx h : Nat} {t : Tr} (hO : Ok mn mx h t) (hS : Srt (flat h t)) {i : Nat} {kid : Tr} (hk : t.kids[i]? = some kid) :
    ∃ A B, flat h t = A ++ (flk h kid ++ B) ∧ (∀ kid', flat h (.mk t.its (t.kids.set i kid')) = A ++ (flk h kid' ++ B)) ∧
      (∀ k, (∀ j y, j < i → t.its[j]? = some y → y.key < k) → ∀ a ∈ A, a.key < k) ∧ (∀ k, (∀ y, t.its[i]? = some y → k < y.key) → ∀ b ∈ B, k < b.key) ∧
      (i = 0 → A = []) ∧ (i = t.its.length → B = []) := by
  cases h with
  | zero => rw [show t.kids = [] from hO] at hk; simp at hk
  | succ h =>
    obtain ⟨A, B, e1, e2, e3, e4, e5, e6⟩ := weave_kid (its := t.its) (fs := t.kids.map (flat h)) (by rw [List.length_map]; exact hO.1) (i := i) (f := flat h kid) (by rw [List.getElem?_map, hk]; rfl)
    refine ⟨A, B, e1, fun kid' => ?_, e3 hS, e4 hS, e5, e6⟩
    rw [flat_mk, List.map_set]
    exact e2 _
theorem kid_srt {mn mx h : Nat} {t : Tr} (hO : Ok mn mx h t) (hS : Srt (flat h t)) {i : Nat} {kid : Tr} (hk : t.kids[i]? = some kid) : Srt (flk h kid) := by
  obtain ⟨A, B, e, _⟩ := kid_place hO hS hk
  rw [e] at hS
  exact (srt_append.1 (srt_append.1 hS).2.1).1
theorem kid_ok {mn mx h : Nat} {t : Tr} (hO : Ok mn mx (h + 1) t) {i : Nat} {kid : Tr} (hk : t.kids[i]? = some kid) : mn ≤ kid.its.length ∧ kid.its.length ≤ mx ∧ Ok mn mx h kid := hO.2 kid (List.mem_of_getElem? hk)
theorem kids_len {mn mx h : Nat} {t : Tr} (hO : Ok mn mx h t) (h0 : t.kids.length ≠ 0) : t.kids.length = t.its.length + 1 := by
  cases h with
  | zero => rw [show t.kids = [] from hO] at h0; exact absurd rfl h0
  | succ h => exact hO.1
theorem kids_zero {mn mx h : Nat} {t : Tr} (hO : Ok mn mx h t) (h0 : t.kids.length = 0) : h = 0 := by
  cases h with
  | zero => rfl
  | succ h => have := hO.1; omega
theorem get_found {mn mx h : Nat} {t : Tr} (hO : Ok mn mx h t) (hS : Srt (flat h t)) {k : Int} {i : Nat} {y : It} (hy : t.its[i]? = some y) (hk : y.key = k) : get (flat h t) k = some y :=
  (get_iff hS).2 ⟨(flat_sub hO).subset (List.mem_of_getElem? hy), hk⟩
theorem get_down {mn mx h : Nat} {t : Tr} (hO : Ok mn mx h t) (hS : Srt (flat h t)) {k : Int} (hf : fnd t.its k = false) {kid : Tr} (hk : t.kids[lb t.its k]? = some kid) : get (flat h t) k = get (flk h kid) k := by
  obtain ⟨A, B, e, _, h1, h2, _⟩ := kid_place hO hS hk
  have hI := srt_its hO hS
  rw [e, get_kid (h1 k fun j y hj hy => lb_below hI hj hy) (h2 k fun y hy => lb_gt hI hf hy)]
theorem get_leaf {t : Tr} (hS : Srt t.its) {k : Int} (hf : fnd t.its k = false) : get (flat 0 t) k = none := by
  rw [show flat 0 t = t.its from rfl, get_eq hS, hf]; rfl
theorem tree_step {c h b i xb : Nat} {t k : Tr} {bs : List Nat} {R : HProp} (hlen : bs.length = t.kids.length) (hk : t.kids[i]? = some k) (hxb : bs[i]? = some xb) :
    Ent (Tq c h k xb * (NodeP c b t.its bs * (Ks c h (t.kids.eraseIdx i) (bs.eraseIdx i) * R))) (Tp c h t b * R) := by
  have e : Tq c h k xb * (NodeP c b t.its bs * (Ks c h (t.kids.eraseIdx i) (bs.eraseIdx i) * R)) = NodeP c b t.its bs * Ks c h t.kids bs * R := by
    rw [Ks_at hk hxb]; ac_rfl
  rw [e]
  have := tree_fold (c := c) (h := h) (b := b) (its := t.its) hlen
  rw [Tr.eta] at this
  exact Ent.mul this (Ent.refl R)
theorem kid_ne {mn mx h : Nat} {t k : Tr} (hO : Ok mn mx (h + 1) t) (h1 : 1 ≤ mn) {i : Nat} (hk : t.kids[i]? = some k) : flat h k ≠ [] := by
  have := kid_ok hO hk
  intro e
  have hs := flat_sub this.2.2
  rw [e] at hs
  have h2 := hs.length_le
  simp only [List.length_nil] at h2
  omega
theorem head_down {mn mx h : Nat} {t k : Tr} (hO : Ok mn mx (h + 1) t) (hS : Srt (flat (h + 1) t)) (h1 : 1 ≤ mn) (hk : t.kids[0]? = some k) : (flat h k).head? = (flat (h + 1) t).head? := by
  obtain ⟨A, B, e, _, _, _, hA, _⟩ := kid_place hO hS hk
  have hn := kid_ne hO h1 hk
  rw [e, hA rfl, List.nil_append, List.head?_append]
  show _ = ((flat h k).head?).or B.head?
  cases hh : flat h k with
  | nil => exact absurd hh hn
  | cons y l => rfl
theorem last_down {mn mx h : Nat} {t k : Tr} (hO : Ok mn mx (h + 1) t) (hS : Srt (flat (h + 1) t)) (h1 : 1 ≤ mn) (hk : t.kids[t.its.length]? = some k) : (flat h k).getLast? = (flat (h + 1) t).getLast? := by
  obtain ⟨A, B, e, _, _, _, _, hB⟩ := kid_place hO hS hk
  have hn := kid_ne hO h1 hk
  rw [e, hB rfl, List.append_nil, List.getLast?_append]
  show _ = ((flat h k).getLast?).or A.getLast?
  cases hh : (flat h k).getLast? with
  | none => exact absurd (List.getLast?_eq_none_iff.1 hh) hn
  | some y => rfl
end Go.Proofs.Ytnnembkganlbpaa
/- The walks of looking: a key in a tree, the least, the greatest. -/
namespace Go.Proofs.Ytnnembkganlbpaa
open Go Go.Sl Go.Net Go.Wk Go.Bt Go.RowKit

/-- the answer of a search: an item and whether there is one -/
def ans (o : Option It) : Value := .tuple #[itV (o.getD zero), .bool o.isSome]
theorem f72_step (c fl mn mx h b : Nat) (x : It) (t : Tr) (hO : Ok mn mx h t) (hl : t.its.length < 100000) (hS : Srt (flat h t))
    (hkid : ∀ (i : Nat) (k : Tr) (xb : Nat), t.kids[i]? = some k → Tri Try.prog 72 #[ptr xb, itV x] (Tq c h k xb * Ctx c fl) fun v => pu (v = ans (get (flk h k) x.key)) * (Tq c h k xb * Ctx c fl)) :
    Tri Try.prog 72 #[ptr b, itV x] (Tp c h t b * Ctx c fl) fun v => pu (v = ans (get (flat h t) x.key)) * (Tp c h t b * Ctx c fl) := by
  have hSi := srt_its hO hS
  intro w0 F w hs
  simp only [mul_assoc'] at hs
  obtain ⟨bs, hlen, hs⟩ := St.tree hs
  obtain ⟨⟨v1, v2⟩, hs⟩ := hs.ex
  unfold Ctx CowP at hs
  simp only [mul_assoc'] at hs
  obtain ⟨a2, c2, rfl, hc2, hcm2⟩ := (hs.foc (PArr v2 bs)).arr_form
  refine calls_WP 49 #[.cell 4 45, .tmp 5] Try.func72 rfl Try.ntmps72 rfl (Nat.le_of_ble_eq_true rfl) ?_
  refine WP_seq ?_
  -- R0
  refine WP_seqr [⟨0, 2, []⟩, ⟨1, 2, []⟩, ⟨2, 0, []⟩] (by kernel_rfl) ?_
  refine ns_box (#[.int .i64 x.key, .int .i64 x.val]) hs rfl rfl rfl rfl ?_
  intro b3 w hs
  refine ns_alloc zc_45 hs rfl rfl ?_
  intro b4 w hs
  refine ns_asg rfl rfl ?_
  refine ns_done ?_
  refine WP_seq ?_
  -- R1
  refine WP_net hs mix [0, 1, 3, 7, 0, 0, 32, 96, 224, 480, 992, 2016, 4095, 8191, 16383, 16383, 32767, 131071] [⟨0, 0, []⟩, ⟨1, 0, []⟩, ⟨2, 0, []⟩, ⟨3, 1, []⟩, ⟨4, 1, []⟩, ⟨5, 0, []⟩, ⟨6, 0, []⟩, ⟨7, 0, []⟩, ⟨8, 1, []⟩, ⟨9, 0, []⟩, ⟨10, 0, []⟩, ⟨11, 1, []⟩, ⟨12, 2, []⟩, ⟨13, 0, []⟩, ⟨14, 0, []⟩, ⟨15, 0, []⟩, ⟨16, 0, []⟩, ⟨17, 0, []⟩] (by kernel_rfl) ?_
  intro w hs
  refine ns_move rfl rfl ?_
  refine ns_nil rfl rfl rfl ?_
  refine ns_fld fo_103_0 rfl rfl rfl ?_
  refine ns_ldB pl_100 hs rfl rfl rfl (by rfl) ?_
  refine ns_ldAB [.int .i64 x.key, .int .i64 x.val] ag_45 hs rfl rfl rfl (by rfl) (by rfl) (by decide) ?_
  refine ns_move rfl rfl ?_
  refine ns_nil rfl rfl rfl ?_
  refine ns_fld fo_103_2 rfl rfl rfl ?_
  refine ns_ldB pl_82 hs rfl rfl rfl (by rfl) ?_
  refine ns_nil rfl rfl rfl ?_
  refine ns_fld fo_84_1 rfl rfl rfl ?_
  refine ns_ldB pl_69 hs rfl rfl rfl (by rfl) ?_
  refine ns_call (f83_ok v1 t.its x hSi (by omega)) ck_83 (hs.foc (IArr v1 t.its)) rfl rfl rfl rfl ?_
  intro v21 w hs
  replace hs := hs.pu
  obtain ⟨rfl, hs⟩ := hs
  refine ns_move rfl rfl ?_
  refine ns_ext rfl rfl rfl rfl ?_
  refine ns_ext rfl rfl rfl rfl ?_
  refine ns_asg rfl rfl ?_
  refine ns_asg rfl rfl ?_
  refine ns_done ?_
  refine WP_seq ?_ -- S1
  refine WP_seq ?_
  -- R2
  refine WP_seqr [⟨0, 0, []⟩] (by kernel_rfl) ?_
  refine ns_move rfl rfl ?_
  refine ns_done ?_
  refine WP_if rfl (fun hif1 => ?_) (fun hif1 => ?_)
  · refine WP_seq ?_
    obtain ⟨y, hy, hyk⟩ := fnd_at hif1
    have hlt : lb t.its x.key < t.its.length := (List.getElem?_eq_some_iff.1 hy).1
    obtain ⟨_, hz, _⟩ | ⟨g, cap, cur, hv, hc, hcm, hsz, htk, hs⟩ := (hs.foc (IArr (v1) (t.its))).arr
    · omega
    cases hv
    -- R3
    refine WP_seqr [⟨0, 0, []⟩, ⟨1, 0, []⟩, ⟨2, 0, []⟩, ⟨3, 1, []⟩, ⟨4, 0, []⟩, ⟨5, 0, []⟩, ⟨6, 1, []⟩, ⟨7, 2, []⟩, ⟨8, 0, []⟩] (by kernel_rfl) ?_
    refine ns_move rfl rfl ?_
    refine ns_nil rfl rfl rfl ?_
    refine ns_fld fo_103_0 rfl rfl rfl ?_
    refine ns_ldB pl_100 hs rfl rfl rfl (by rfl) ?_
    refine ns_move rfl rfl ?_
    refine ns_idx (lb t.its x.key) sl_100 rfl rfl rfl rfl rfl hlt ?_
    refine ns_ldA [.int .i64 y.key, .int .i64 y.val] ag_45 rfl rfl rfl rfl (by decide) (it_cells hs htk _ hy) ?_
    refine ns_stA (#[.int .i64 y.key, .int .i64 y.val]) ag_45 rfl (by decide) hs rfl rfl rfl rfl (by intro u hu; simp at hu; rcases hu with rfl | rfl <;> rfl) (by simp) ?_
    refine fun w hs => ⟨trivial, ?_⟩
    refine ns_asg rfl rfl ?_
    refine ns_done ?_
    refine WP_ret ?_
    have hload := run_loadVarA (P := Try.prog) (t := 45) (n := 2) (ad := ⟨b4, 0, none⟩) (vs := [.int .i64 y.key, .int .i64 y.val]) ag_45 rfl (by decide) w (St.cells (n := 2) hs (by rfl))
    have hs := (hs.foc (pts g (.cells cur 45 (0, 0)))).mk_arr' hc hcm hsz htk
    have hs := hs.fold (node_fold c b (.slice (some ⟨g, 0, none⟩) t.its.length cap) (.slice a2 bs.length c2) t.its bs)
    have hs := hs.fold (tree_fold (c := c) (h := h) (b := b) (its := t.its) (kids := t.kids) hlen)
    rw [Tr.eta] at hs
    have hs := hs.fold (ctx_fold c fl)
    rw [get_found hO hS hy hyk]
    exact ⟨_, resCT 4 45 5 rfl hload, St.mk_pu rfl hs.out⟩
  refine WP_seq ?_
  -- R4
  refine WP_seqr [⟨0, 0, []⟩, ⟨1, 0, []⟩, ⟨2, 0, []⟩, ⟨3, 1, []⟩, ⟨4, 0, []⟩, ⟨5, 0, []⟩] (by kernel_rfl) ?_
  refine ns_move rfl rfl ?_
  refine ns_nil rfl rfl rfl ?_
  refine ns_fld fo_103_1 rfl rfl rfl ?_
  refine ns_ldB pl_101 hs rfl rfl rfl (by rfl) ?_
  refine ns_len sl_101 rfl rfl rfl ?_
  refine ns_cmp _ rfl rfl rfl rfl rfl ?_
  refine ns_done ?_
  refine WP_if rfl (fun hif2 => ?_) (fun hif2 => ?_)
  · refine WP_seq ?_
    have hb0 : t.kids.length ≠ 0 := by simp at hif2; omega
    have hkl := kids_len hO hb0
    have hle := lb_le t.its x.key
    obtain ⟨k, hk⟩ : ∃ k, t.kids[lb t.its x.key]? = some k := ⟨t.kids[lb t.its x.key]'(by omega), List.getElem?_eq_getElem (by omega)⟩
    obtain ⟨xb, hxb⟩ : ∃ xb, bs[lb t.its x.key]? = some xb := ⟨bs[lb t.its x.key]'(by omega), List.getElem?_eq_getElem (by omega)⟩
    have hs := hs.fold (ctx_fold c fl)
    rw [Ks_at hk hxb] at hs
    simp only [mul_assoc'] at hs
    obtain ⟨_, hz, _⟩ | ⟨g, cap, cur, hv, hc, hcm, hsz, htk, hs⟩ := (hs.foc (PArr (.slice a2 bs.length c2) (bs))).arr
    · omega
    cases hv
    -- R5
    refine WP_net hs mix [0, 1, 3, 7, 0, 31, 63, 0, 255, 511, 511, 2047, 4095] [⟨0, 0, []⟩, ⟨1, 0, []⟩, ⟨2, 0, []⟩, ⟨3, 1, []⟩, ⟨4, 0, []⟩, ⟨5, 0, []⟩, ⟨6, 1, []⟩, ⟨7, 1, []⟩, ⟨8, 2, []⟩, ⟨9, 0, []⟩, ⟨10, 0, []⟩, ⟨11, 2, []⟩, ⟨12, 0, []⟩] (by kernel_rfl) ?_
    intro w hs
    refine ns_move rfl rfl ?_
    refine ns_nil rfl rfl rfl ?_
    refine ns_fld fo_103_1 rfl rfl rfl ?_
    refine ns_ldB pl_101 hs rfl rfl rfl (by rfl) ?_
    refine ns_move rfl rfl ?_
    refine ns_idx (lb t.its x.key) sl_101 rfl rfl rfl rfl rfl (by omega) ?_
    refine ns_ld pl_85 rfl rfl rfl (ptr_cell hs htk _ hxb) ?_
    refine ns_ldAB [.int .i64 x.key, .int .i64 x.val] ag_45 hs rfl rfl rfl (by rfl) (by rfl) (by decide) ?_
    refine ns_call (hkid _ k xb hk) ck_72 (hs.foc (Tq c h k xb * Ctx c fl)) rfl rfl rfl rfl ?_
    intro v46 w hs
    replace hs := hs.pu
    obtain ⟨rfl, hs⟩ := hs
    simp only [mul_assoc'] at hs
    refine ns_ext rfl rfl rfl rfl ?_
    refine ns_ext rfl rfl rfl rfl ?_
    refine ns_stA (#[.int .i64 ((get (flk h k) x.key).getD zero).key, .int .i64 ((get (flk h k) x.key).getD zero).val]) ag_45 rfl (by decide) hs rfl rfl rfl rfl (by intro u hu; simp at hu; rcases hu with rfl | rfl <;> rfl) (by simp) ?_
    refine fun w hs => ⟨trivial, ?_⟩
    refine ns_asg rfl rfl ?_
    refine ns_done ?_
    refine WP_ret ?_
    have hload := run_loadVarA (P := Try.prog) (t := 45) (n := 2) (ad := ⟨b4, 0, none⟩) (vs := [.int .i64 ((get (flk h k) x.key).getD zero).key, .int .i64 ((get (flk h k) x.key).getD zero).val]) ag_45 rfl (by decide) w (St.cells (n := 2) hs (by rfl))
    have hs := (hs.foc (pts g (.cells cur 85 (0, 0)))).mk_arr' hc hcm hsz htk
    have hs := hs.fold (Ent.of_eq (Ks_at (c := c) (h := h) hk hxb).symm)
    have hs := hs.fold (node_fold c b v1 (.slice (some ⟨g, 0, none⟩) bs.length c2) t.its bs)
    have hs := hs.fold (tree_fold (c := c) (h := h) (b := b) (its := t.its) (kids := t.kids) hlen)
    rw [Tr.eta] at hs
    rw [get_down hO hS hif1 hk]
    exact ⟨_, resCT 4 45 5 rfl hload, St.mk_pu rfl hs.out⟩
  refine WP_skip ?_
  refine WP_ret ?_
  have hb0 : t.kids.length = 0 := by simp at hif2; rw [← hlen, hif2]; rfl
  obtain rfl := kids_zero hO hb0
  have hload := run_loadVarA (P := Try.prog) (t := 45) (n := 2) (ad := ⟨b4, 0, none⟩) (vs := [.int .i64 zero.key, .int .i64 zero.val]) ag_45 rfl (by decide) w (St.cells (n := 2) hs (by rfl))
  have hs := hs.fold (node_fold c b v1 (.slice a2 bs.length c2) t.its bs)
  have hs := hs.fold (tree_fold (c := c) (h := 0) (b := b) (its := t.its) (kids := t.kids) hlen)
  rw [Tr.eta] at hs
  have hs := hs.fold (ctx_fold c fl)
  rw [get_leaf hSi hif1]
  exact ⟨_, resCT 4 45 5 rfl hload, St.mk_pu rfl hs.out⟩
theorem f72_ok (c fl mn mx : Nat) (x : It) (hmx : mx < 100000) : ∀ (h b : Nat) (t : Tr), Ok mn mx h t → t.its.length ≤ mx → Srt (flat h t) →
    Tri Try.prog 72 #[ptr b, itV x] (Tp c h t b * Ctx c fl) fun v => pu (v = ans (get (flat h t) x.key)) * (Tp c h t b * Ctx c fl) := by
  intro h
  induction h with
  | zero => exact fun b t hO hl hS => f72_step c fl mn mx 0 b x t hO (by omega) hS fun i k xb hk => by rw [show t.kids = [] from hO] at hk; simp at hk
  | succ h ih => exact fun b t hO hl hS => f72_step c fl mn mx (h + 1) b x t hO (by omega) hS fun i k xb hk => ih xb k (kid_ok hO hk).2.2 (kid_ok hO hk).2.1 (kid_srt hO hS hk)
theorem f74_nil : Tri Try.prog 74 #[.pointer none] 1 fun v => pu (v = ans none) := by
  intro w0 F w hs
  rw [one_mul'] at hs
  refine calls_WP 30 #[.cell 2 45, .tmp 3] Try.func74 rfl Try.ntmps74 rfl (Nat.le_of_ble_eq_true rfl) ?_
  refine WP_seq ?_
  -- R0
  refine WP_seqr [⟨0, 2, []⟩, ⟨1, 0, []⟩] (by kernel_rfl) ?_
  refine ns_alloc zc_45 hs rfl rfl ?_
  intro b2 w hs
  refine ns_asg rfl rfl ?_
  refine ns_done ?_
  refine WP_seq ?_ -- S1
  refine WP_seq ?_
  -- R1
  refine WP_seqr [⟨0, 0, []⟩, ⟨1, 0, []⟩] (by kernel_rfl) ?_
  refine ns_move rfl rfl ?_
  refine ns_peq true pt_85 rfl rfl rfl rfl rfl ?_
  refine ns_done ?_
  refine WP_true rfl ?_ -- if1
  refine WP_ret ?_
  have hload := run_loadVarA (P := Try.prog) (t := 45) (n := 2) (ad := ⟨b2, 0, none⟩) (vs := [.int .i64 zero.key, .int .i64 zero.val]) ag_45 rfl (by decide) w (St.cells (n := 2) hs (by rfl))
  exact ⟨_, resCT 2 45 3 rfl hload, St.mk_pure rfl (hs.out (P := F))⟩
theorem f75_nil : Tri Try.prog 75 #[.pointer none] 1 fun v => pu (v = ans none) := by
  intro w0 F w hs
  rw [one_mul'] at hs
  refine calls_WP 42 #[.cell 2 45, .tmp 3] Try.func75 rfl Try.ntmps75 rfl (Nat.le_of_ble_eq_true rfl) ?_
  refine WP_seq ?_
  -- R0
  refine WP_seqr [⟨0, 2, []⟩, ⟨1, 0, []⟩] (by kernel_rfl) ?_
  refine ns_alloc zc_45 hs rfl rfl ?_
  intro b2 w hs
  refine ns_asg rfl rfl ?_
  refine ns_done ?_
  refine WP_seq ?_ -- S1
  refine WP_seq ?_
  -- R1
  refine WP_seqr [⟨0, 0, []⟩, ⟨1, 0, []⟩] (by kernel_rfl) ?_
  refine ns_move rfl rfl ?_
  refine ns_peq true pt_85 rfl rfl rfl rfl rfl ?_
  refine ns_done ?_
  refine WP_true rfl ?_ -- if1
  refine WP_ret ?_
  have hload := run_loadVarA (P := Try.prog) (t := 45) (n := 2) (ad := ⟨b2, 0, none⟩) (vs := [.int .i64 zero.key, .int .i64 zero.val]) ag_45 rfl (by decide) w (St.cells (n := 2) hs (by rfl))
  exact ⟨_, resCT 2 45 3 rfl hload, St.mk_pure rfl (hs.out (P := F))⟩
theorem f74_ok (c mn mx h b : Nat) (t : Tr) (h1 : 1 ≤ mn) (hO : Ok mn mx h t) (hl : t.its.length ≤ mx) (hS : Srt (flat h t)) :
    Tri Try.prog 74 #[ptr b] (Tp c h t b) fun v => pu (v = ans (flat h t).head?) * Tp c h t b := by
  intro w0 F w hs
  refine calls_WP 30 #[.cell 2 45, .tmp 3] Try.func74 rfl Try.ntmps74 rfl (Nat.le_of_ble_eq_true rfl) ?_
  refine WP_seq ?_
  -- R0
  refine WP_seqr [⟨0, 2, []⟩, ⟨1, 0, []⟩] (by kernel_rfl) ?_
  refine ns_alloc zc_45 hs rfl rfl ?_
  intro b2 w hs
  refine ns_asg rfl rfl ?_
  refine ns_done ?_
  refine WP_seq ?_ -- S1
  refine WP_seq ?_
  -- R1
  refine WP_seqr [⟨0, 0, []⟩, ⟨1, 0, []⟩] (by kernel_rfl) ?_
  refine ns_move rfl rfl ?_
  refine ns_peq false pt_85 rfl rfl rfl rfl (by simp [cmpP]) ?_
  refine ns_done ?_
  refine WP_false rfl ?_ -- if1
  refine WP_skip ?_
  refine WP_seq_cut (fun σ w => ∃ (t1 : Tr) (b1 : Nat) (R : HProp), σ 0 = ptr b1 ∧ σ 2 = .pointer (some ⟨b2, 0, none⟩) ∧ σ 3 = .bool false ∧ t1.kids = [] ∧ t1.its.length ≤ mx ∧ t1.its.head? = (flat h t).head? ∧ Ent (Tp c 0 t1 b1 * R) (Tp c h t b * F) ∧ St w0 (pts b2 (.cells #[.int .i64 0, .int .i64 0] 45 (0, 0)) * (Tp c 0 t1 b1 * R)) w) ?_ ?_ -- S2
  · refine WP_block ?_
    refine WP_loop (fun m σ w => ∃ (t1 : Tr) (b1 : Nat) (R : HProp), σ 0 = ptr b1 ∧ σ 2 = .pointer (some ⟨b2, 0, none⟩) ∧ σ 3 = .bool false ∧ Ok mn mx m t1 ∧ t1.its.length ≤ mx ∧ Srt (flat m t1) ∧ (flat m t1).head? = (flat h t).head? ∧ Ent (Tp c m t1 b1 * R) (Tp c h t b * F) ∧ St w0 (pts b2 (.cells #[.int .i64 0, .int .i64 0] 45 (0, 0)) * (Tp c m t1 b1 * R)) w) h ?_ ?_ -- L1
    · exact ⟨t, b, F, rfl, rfl, rfl, hO, hl, hS, rfl, Ent.refl _, hs⟩
    rintro m σ w ⟨t1, b1, R, g0, g2, g3, kO, kl, kS, kh, kE, hs⟩
    obtain ⟨σ, rfl⟩ := rebase g0
    obtain ⟨σ, rfl⟩ := rebase (σ := σ) g2
    obtain ⟨σ, rfl⟩ := rebase (σ := σ) g3
    clear g0 g2 g3
    obtain ⟨bs, hlen, hs⟩ := St.tree (hs.foc (Tp c m t1 b1))
    obtain ⟨⟨v1, v2⟩, hs⟩ := hs.ex
    simp only [mul_assoc'] at hs
    obtain ⟨a2, c2, rfl, hc2, hcm2⟩ := (hs.foc (PArr v2 bs)).arr_form
    have hm2 := hcm2
    simp only [maxLen] at hm2
    refine WP_seq ?_ -- S3
    refine WP_seq ?_
    -- R2
    refine WP_seqr [⟨0, 0, []⟩, ⟨1, 0, []⟩, ⟨2, 0, []⟩, ⟨3, 1, []⟩, ⟨4, 0, []⟩, ⟨5, 0, []⟩] (by kernel_rfl) ?_
    refine ns_move rfl rfl ?_
    refine ns_nil rfl rfl rfl ?_
    refine ns_fld fo_103_1 rfl rfl rfl ?_
    refine ns_ldB pl_101 hs rfl rfl rfl (by rfl) ?_
    refine ns_len sl_101 rfl rfl rfl ?_
    refine ns_cmp _ rfl rfl rfl rfl rfl ?_
    refine ns_done ?_
    refine WP_if' rfl (fun hif2 => ?_) (fun hif2 => ?_)
    · refine WP_exit ?_
      have hb0 : t1.kids.length = 0 := by simp at hif2; rw [← hlen, hif2]; rfl
      obtain rfl := kids_zero kO hb0
      have hs := hs.fold (node_fold c b1 v1 (.slice a2 bs.length c2) t1.its bs)
      have hs := hs.fold (tree_fold (c := c) (h := 0) (b := b1) (its := t1.its) (kids := t1.kids) hlen)
      rw [Tr.eta] at hs
      exact ⟨t1, b1, R, rfl, rfl, rfl, kO, kl, kh, kE, hs.out⟩
    refine WP_skip ?_
    refine WP_block ?_
    have hb0 : t1.kids.length ≠ 0 := by simp at hif2; omega
    obtain ⟨m, rfl⟩ : ∃ m', m = m' + 1 := by
      cases m with
      | zero => rw [show t1.kids = [] from kO] at hb0; exact absurd rfl hb0
      | succ m => exact ⟨m, rfl⟩
    have hkl := kids_len kO hb0
    obtain ⟨k, hk⟩ : ∃ k, t1.kids[0]? = some k := ⟨t1.kids[0]'(by omega), List.getElem?_eq_getElem (by omega)⟩
    obtain ⟨xb, hxb⟩ : ∃ xb, bs[0]? = some xb := ⟨bs[0]'(by omega), List.getElem?_eq_getElem (by omega)⟩
    rw [Ks_at hk hxb] at hs
    simp only [mul_assoc'] at hs
    obtain ⟨_, hz, _⟩ | ⟨g, cap, cur, hv, hc, hcm, hsz, htk, hs⟩ := (hs.foc (PArr (.slice a2 bs.length c2) (bs))).arr
    · omega
    cases hv
    -- R3
    refine WP_seqr [⟨0, 0, []⟩, ⟨1, 0, []⟩, ⟨2, 0, []⟩, ⟨3, 1, []⟩, ⟨4, 0, []⟩, ⟨5, 1, []⟩, ⟨6, 0, []⟩] (by kernel_rfl) ?_
    refine ns_move rfl rfl ?_
    refine ns_nil rfl rfl rfl ?_
    refine ns_fld fo_103_1 rfl rfl rfl ?_
    refine ns_ldB pl_101 hs rfl rfl rfl (by rfl) ?_
    refine ns_idx (0) sl_101 rfl rfl rfl rfl rfl (by omega) ?_
    refine ns_ld pl_85 rfl rfl rfl (ptr_cell hs htk _ hxb) ?_
    refine ns_asg rfl rfl ?_
    refine ns_done ?_
    have hs := (hs.foc (pts g (.cells cur 85 (0, 0)))).mk_arr' hc hcm hsz htk
    have hs := hs.fold (node_fold c b1 v1 (.slice (some ⟨g, 0, none⟩) bs.length c2) t1.its bs)
    have hko := kid_ok kO hk
    rw [show Tq c (m + 1) k xb = Tp c m k xb from rfl] at hs
    exact ⟨m, Nat.lt_succ_self m, k, xb, NodeP c b1 t1.its bs * (Ks c (m + 1) (t1.kids.eraseIdx (0)) (bs.eraseIdx (0)) * R), rfl, rfl, rfl, hko.2.2, hko.2.1, kid_srt kO kS hk, (head_down kO kS h1 hk).trans kh, (tree_step hlen hk hxb).trans kE, hs.out⟩
    
  rintro σ w ⟨t1, b1, R, g0, g2, g3, kO, kl, kh, kE, hs⟩
  obtain ⟨σ, rfl⟩ := rebase g0
  obtain ⟨σ, rfl⟩ := rebase (σ := σ) g2
  obtain ⟨σ, rfl⟩ := rebase (σ := σ) g3
  clear g0 g2 g3
  obtain ⟨bs, hlen, hs⟩ := St.tree (hs.foc (Tp c 0 t1 b1))
  obtain ⟨⟨v1, v2⟩, hs⟩ := hs.ex
  simp only [mul_assoc'] at hs
  obtain ⟨a1, c1, rfl, hc1, hcm1⟩ := (hs.foc (IArr v1 t1.its)).arr_form
  have hm1 := hcm1
  simp only [maxLen] at hm1
  refine WP_seq ?_ -- S4
  refine WP_seq ?_
  -- R4
  refine WP_seqr [⟨0, 0, []⟩, ⟨1, 0, []⟩, ⟨2, 0, []⟩, ⟨3, 1, []⟩, ⟨4, 0, []⟩, ⟨5, 0, []⟩] (by kernel_rfl) ?_
  refine ns_move rfl rfl ?_
  refine ns_nil rfl rfl rfl ?_
  refine ns_fld fo_103_0 rfl rfl rfl ?_
  refine ns_ldB pl_100 hs rfl rfl rfl (by rfl) ?_
  refine ns_len sl_100 rfl rfl rfl ?_
  refine ns_cmp _ rfl rfl rfl rfl rfl ?_
  refine ns_done ?_
  refine WP_if rfl (fun hif3 => ?_) (fun hif3 => ?_)
  · refine WP_ret ?_
    have hn : t1.its = [] := List.eq_nil_of_length_eq_zero (by simpa using hif3)
    have hload := run_loadVarA (P := Try.prog) (t := 45) (n := 2) (ad := ⟨b2, 0, none⟩) (vs := [.int .i64 zero.key, .int .i64 zero.val]) ag_45 rfl (by decide) w (St.cells (n := 2) hs (by rfl))
    have hs := hs.fold (node_fold c b1 (.slice a1 t1.its.length c1) v2 t1.its bs)
    have hs := hs.fold (tree_fold (c := c) (h := 0) (b := b1) (its := t1.its) (kids := t1.kids) hlen)
    rw [Tr.eta] at hs
    rw [← kh, hn]
    exact ⟨_, resCT 2 45 3 rfl hload, St.mk_pu rfl ((hs.out (P := Tp c 0 t1 b1 * R)).mono kE)⟩
  refine WP_skip ?_
  refine WP_seq ?_
  have hn : t1.its.length ≠ 0 := by intro e; simp [e] at hif3
  obtain ⟨y, hy⟩ : ∃ y, t1.its[0]? = some y := ⟨t1.its[0]'(by omega), List.getElem?_eq_getElem (by omega)⟩
  rw [List.head?_eq_getElem?, hy] at kh
  obtain ⟨_, hz, _⟩ | ⟨g, cap, cur, hv, hc, hcm, hsz, htk, hs⟩ := (hs.foc (IArr (.slice a1 t1.its.length c1) (t1.its))).arr
  · omega
  cases hv
  -- R5
  refine WP_seqr [⟨0, 0, []⟩, ⟨1, 0, []⟩, ⟨2, 0, []⟩, ⟨3, 1, []⟩, ⟨4, 0, []⟩, ⟨5, 1, []⟩, ⟨6, 2, []⟩, ⟨7, 0, []⟩] (by kernel_rfl) ?_
  refine ns_move rfl rfl ?_
  refine ns_nil rfl rfl rfl ?_
  refine ns_fld fo_103_0 rfl rfl rfl ?_
  refine ns_ldB pl_100 hs rfl rfl rfl (by rfl) ?_
  refine ns_idx (0) sl_100 rfl rfl rfl rfl rfl (by omega) ?_
  refine ns_ldA [.int .i64 y.key, .int .i64 y.val] ag_45 rfl rfl rfl rfl (by decide) (it_cells hs htk _ hy) ?_
  refine ns_stA (#[.int .i64 y.key, .int .i64 y.val]) ag_45 rfl (by decide) hs rfl rfl rfl rfl (by intro u hu; simp at hu; rcases hu with rfl | rfl <;> rfl) (by simp) ?_
  refine fun w hs => ⟨trivial, ?_⟩
  refine ns_asg rfl rfl ?_
  refine ns_done ?_
  refine WP_ret ?_
  have hload := run_loadVarA (P := Try.prog) (t := 45) (n := 2) (ad := ⟨b2, 0, none⟩) (vs := [.int .i64 y.key, .int .i64 y.val]) ag_45 rfl (by decide) w (St.cells (n := 2) hs (by rfl))
  have hs := (hs.foc (pts g (.cells cur 45 (0, 0)))).mk_arr' hc hcm hsz htk
  have hs := hs.fold (node_fold c b1 (.slice (some ⟨g, 0, none⟩) t1.its.length c1) v2 t1.its bs)
  have hs := hs.fold (tree_fold (c := c) (h := 0) (b := b1) (its := t1.its) (kids := t1.kids) hlen)
  rw [Tr.eta] at hs
  rw [← kh]
  exact ⟨_, resCT 2 45 3 rfl hload, St.mk_pu rfl ((hs.out (P := Tp c 0 t1 b1 * R)).mono kE)⟩
theorem f75_ok (c mn mx h b : Nat) (t : Tr) (h1 : 1 ≤ mn) (hO : Ok mn mx h t) (hl : t.its.length ≤ mx) (hS : Srt (flat h t)) :
    Tri Try.prog 75 #[ptr b] (Tp c h t b) fun v => pu (v = ans (flat h t).getLast?) * Tp c h t b := by
  intro w0 F w hs
  refine calls_WP 42 #[.cell 2 45, .tmp 3] Try.func75 rfl Try.ntmps75 rfl (Nat.le_of_ble_eq_true rfl) ?_
  refine WP_seq ?_
  -- R0
  refine WP_seqr [⟨0, 2, []⟩, ⟨1, 0, []⟩] (by kernel_rfl) ?_
  refine ns_alloc zc_45 hs rfl rfl ?_
  intro b2 w hs
  refine ns_asg rfl rfl ?_
  refine ns_done ?_
  refine WP_seq ?_ -- S1
  refine WP_seq ?_
  -- R1
  refine WP_seqr [⟨0, 0, []⟩, ⟨1, 0, []⟩] (by kernel_rfl) ?_
  refine ns_move rfl rfl ?_
  refine ns_peq false pt_85 rfl rfl rfl rfl (by simp [cmpP]) ?_
  refine ns_done ?_
  refine WP_false rfl ?_ -- if1
  refine WP_skip ?_
  refine WP_seq_cut (fun σ w => ∃ (t1 : Tr) (b1 : Nat) (R : HProp), σ 0 = ptr b1 ∧ σ 2 = .pointer (some ⟨b2, 0, none⟩) ∧ σ 3 = .bool false ∧ t1.kids = [] ∧ t1.its.length ≤ mx ∧ t1.its.getLast? = (flat h t).getLast? ∧ Ent (Tp c 0 t1 b1 * R) (Tp c h t b * F) ∧ St w0 (pts b2 (.cells #[.int .i64 0, .int .i64 0] 45 (0, 0)) * (Tp c 0 t1 b1 * R)) w) ?_ ?_ -- S2
  · refine WP_block ?_
    refine WP_loop (fun m σ w => ∃ (t1 : Tr) (b1 : Nat) (R : HProp), σ 0 = ptr b1 ∧ σ 2 = .pointer (some ⟨b2, 0, none⟩) ∧ σ 3 = .bool false ∧ Ok mn mx m t1 ∧ t1.its.length ≤ mx ∧ Srt (flat m t1) ∧ (flat m t1).getLast? = (flat h t).getLast? ∧ Ent (Tp c m t1 b1 * R) (Tp c h t b * F) ∧ St w0 (pts b2 (.cells #[.int .i64 0, .int .i64 0] 45 (0, 0)) * (Tp c m t1 b1 * R)) w) h ?_ ?_ -- L1
    · exact ⟨t, b, F, rfl, rfl, rfl, hO, hl, hS, rfl, Ent.refl _, hs⟩
    rintro m σ w ⟨t1, b1, R, g0, g2, g3, kO, kl, kS, kh, kE, hs⟩
    obtain ⟨σ, rfl⟩ := rebase g0
    obtain ⟨σ, rfl⟩ := rebase (σ := σ) g2
    obtain ⟨σ, rfl⟩ := rebase (σ := σ) g3
    clear g0 g2 g3
    obtain ⟨bs, hlen, hs⟩ := St.tree (hs.foc (Tp c m t1 b1))
    obtain ⟨⟨v1, v2⟩, hs⟩ := hs.ex
    simp only [mul_assoc'] at hs
    obtain ⟨a2, c2, rfl, hc2, hcm2⟩ := (hs.foc (PArr v2 bs)).arr_form
    have hm2 := hcm2
    simp only [maxLen] at hm2
    refine WP_seq ?_ -- S3
    refine WP_seq ?_
    -- R2
    refine WP_seqr [⟨0, 0, []⟩, ⟨1, 0, []⟩, ⟨2, 0, []⟩, ⟨3, 1, []⟩, ⟨4, 0, []⟩, ⟨5, 0, []⟩] (by kernel_rfl) ?_
    refine ns_move rfl rfl ?_
    refine ns_nil rfl rfl rfl ?_
    refine ns_fld fo_103_1 rfl rfl rfl ?_
    refine ns_ldB pl_101 hs rfl rfl rfl (by rfl) ?_
    refine ns_len sl_101 rfl rfl rfl ?_
    refine ns_cmp _ rfl rfl rfl rfl rfl ?_
    refine ns_done ?_
    refine WP_if' rfl (fun hif2 => ?_) (fun hif2 => ?_)
    · refine WP_exit ?_
      have hb0 : t1.kids.length = 0 := by simp at hif2; rw [← hlen, hif2]; rfl
      obtain rfl := kids_zero kO hb0
      have hs := hs.fold (node_fold c b1 v1 (.slice a2 bs.length c2) t1.its bs)
      have hs := hs.fold (tree_fold (c := c) (h := 0) (b := b1) (its := t1.its) (kids := t1.kids) hlen)
      rw [Tr.eta] at hs
      exact ⟨t1, b1, R, rfl, rfl, rfl, kO, kl, kh, kE, hs.out⟩
    refine WP_skip ?_
    refine WP_block ?_
    have hb0 : t1.kids.length ≠ 0 := by simp at hif2; omega
    obtain ⟨m, rfl⟩ : ∃ m', m = m' + 1 := by
      cases m with
      | zero => rw [show t1.kids = [] from kO] at hb0; exact absurd rfl hb0
      | succ m => exact ⟨m, rfl⟩
    have hkl := kids_len kO hb0
    obtain ⟨k, hk⟩ : ∃ k, t1.kids[t1.its.length]? = some k := ⟨t1.kids[t1.its.length]'(by omega), List.getElem?_eq_getElem (by omega)⟩
    obtain ⟨xb, hxb⟩ : ∃ xb, bs[t1.its.length]? = some xb := ⟨bs[t1.its.length]'(by omega), List.getElem?_eq_getElem (by omega)⟩
    rw [Ks_at hk hxb] at hs
    simp only [mul_assoc'] at hs
    obtain ⟨_, hz, _⟩ | ⟨g, cap, cur, hv, hc, hcm, hsz, htk, hs⟩ := (hs.foc (PArr (.slice a2 bs.length c2) (bs))).arr
    · omega
    cases hv
    -- R3
    refine WP_net hs mix [0, 1, 3, 7, 0, 16, 48, 112, 240, 496, 1023, 2047, 4095] [⟨0, 0, []⟩, ⟨1, 0, []⟩, ⟨2, 0, []⟩, ⟨3, 1, []⟩, ⟨4, 0, []⟩, ⟨5, 0, []⟩, ⟨6, 0, []⟩, ⟨7, 1, []⟩, ⟨8, 0, []⟩, ⟨9, 0, []⟩, ⟨10, 0, []⟩, ⟨11, 1, []⟩, ⟨12, 0, []⟩] (by kernel_rfl) ?_
    intro w hs
    refine ns_move rfl rfl ?_
    refine ns_nil rfl rfl rfl ?_
    refine ns_fld fo_103_1 rfl rfl rfl ?_
    refine ns_ldB pl_101 hs rfl rfl rfl (by rfl) ?_
    refine ns_move rfl rfl ?_
    refine ns_nil rfl rfl rfl ?_
    refine ns_fld fo_103_1 rfl rfl rfl ?_
    refine ns_ldB pl_101 hs rfl rfl rfl (by rfl) ?_
    refine ns_len sl_101 rfl rfl rfl ?_
    refine ns_sub rfl rfl rfl rfl (by omega) (by omega) ?_
    refine ns_idx (t1.its.length) sl_101 rfl rfl rfl rfl (by omega) (by omega) ?_
    refine ns_ld pl_85 rfl rfl rfl (ptr_cell hs htk _ hxb) ?_
    refine ns_asg rfl rfl ?_
    refine ns_done ?_
    have hs := (hs.foc (pts g (.cells cur 85 (0, 0)))).mk_arr' hc hcm hsz htk
    have hs := hs.fold (node_fold c b1 v1 (.slice (some ⟨g, 0, none⟩) bs.length c2) t1.its bs)
    have hko := kid_ok kO hk
    rw [show Tq c (m + 1) k xb = Tp c m k xb from rfl] at hs
    exact ⟨m, Nat.lt_succ_self m, k, xb, NodeP c b1 t1.its bs * (Ks c (m + 1) (t1.kids.eraseIdx (t1.its.length)) (bs.eraseIdx (t1.its.length)) * R), rfl, rfl, rfl, hko.2.2, hko.2.1, kid_srt kO kS hk, (last_down kO kS h1 hk).trans kh, (tree_step hlen hk hxb).trans kE, hs.out⟩
    
  rintro σ w ⟨t1, b1, R, g0, g2, g3, kO, kl, kh, kE, hs⟩
  obtain ⟨σ, rfl⟩ := rebase g0
  obtain ⟨σ, rfl⟩ := rebase (σ := σ) g2
  obtain ⟨σ, rfl⟩ := rebase (σ := σ) g3
  clear g0 g2 g3
  obtain ⟨bs, hlen, hs⟩ := St.tree (hs.foc (Tp c 0 t1 b1))
  obtain ⟨⟨v1, v2⟩, hs⟩ := hs.ex
  simp only [mul_assoc'] at hs
  obtain ⟨a1, c1, rfl, hc1, hcm1⟩ := (hs.foc (IArr v1 t1.its)).arr_form
  have hm1 := hcm1
  simp only [maxLen] at hm1
  refine WP_seq ?_ -- S4
  refine WP_seq ?_
  -- R4
  refine WP_seqr [⟨0, 0, []⟩, ⟨1, 0, []⟩, ⟨2, 0, []⟩, ⟨3, 1, []⟩, ⟨4, 0, []⟩, ⟨5, 0, []⟩] (by kernel_rfl) ?_
  refine ns_move rfl rfl ?_
  refine ns_nil rfl rfl rfl ?_
  refine ns_fld fo_103_0 rfl rfl rfl ?_
  refine ns_ldB pl_100 hs rfl rfl rfl (by rfl) ?_
  refine ns_len sl_100 rfl rfl rfl ?_
  refine ns_cmp _ rfl rfl rfl rfl rfl ?_
  refine ns_done ?_
  refine WP_if rfl (fun hif3 => ?_) (fun hif3 => ?_)
  · refine WP_ret ?_
    have hn : t1.its = [] := List.eq_nil_of_length_eq_zero (by simpa using hif3)
    have hload := run_loadVarA (P := Try.prog) (t := 45) (n := 2) (ad := ⟨b2, 0, none⟩) (vs := [.int .i64 zero.key, .int .i64 zero.val]) ag_45 rfl (by decide) w (St.cells (n := 2) hs (by rfl))
    have hs := hs.fold (node_fold c b1 (.slice a1 t1.its.length c1) v2 t1.its bs)
    have hs := hs.fold (tree_fold (c := c) (h := 0) (b := b1) (its := t1.its) (kids := t1.kids) hlen)
    rw [Tr.eta] at hs
    rw [← kh, hn]
    exact ⟨_, resCT 2 45 3 rfl hload, St.mk_pu rfl ((hs.out (P := Tp c 0 t1 b1 * R)).mono kE)⟩
  refine WP_skip ?_
  refine WP_seq ?_
  have hn : t1.its.length ≠ 0 := by intro e; simp [e] at hif3
  obtain ⟨y, hy⟩ : ∃ y, t1.its[t1.its.length - 1]? = some y := ⟨t1.its[t1.its.length - 1]'(by omega), List.getElem?_eq_getElem (by omega)⟩
  rw [List.getLast?_eq_getElem?, hy] at kh
  obtain ⟨_, hz, _⟩ | ⟨g, cap, cur, hv, hc, hcm, hsz, htk, hs⟩ := (hs.foc (IArr (.slice a1 t1.its.length c1) (t1.its))).arr
  · omega
  cases hv
  -- R5
  refine WP_net hs mix [0, 1, 3, 7, 0, 16, 48, 112, 240, 496, 1023, 2047, 4095, 8191] [⟨0, 0, []⟩, ⟨1, 0, []⟩, ⟨2, 0, []⟩, ⟨3, 1, []⟩, ⟨4, 0, []⟩, ⟨5, 0, []⟩, ⟨6, 0, []⟩, ⟨7, 1, []⟩, ⟨8, 0, []⟩, ⟨9, 0, []⟩, ⟨10, 0, []⟩, ⟨11, 1, []⟩, ⟨12, 2, []⟩, ⟨13, 0, []⟩] (by kernel_rfl) ?_
  intro w hs
  refine ns_move rfl rfl ?_
  refine ns_nil rfl rfl rfl ?_
  refine ns_fld fo_103_0 rfl rfl rfl ?_
  refine ns_ldB pl_100 hs rfl rfl rfl (by rfl) ?_
  refine ns_move rfl rfl ?_
  refine ns_nil rfl rfl rfl ?_
  refine ns_fld fo_103_0 rfl rfl rfl ?_
  refine ns_ldB pl_100 hs rfl rfl rfl (by rfl) ?_
  refine ns_len sl_100 rfl rfl rfl ?_
  refine ns_sub rfl rfl rfl rfl (by omega) (by omega) ?_
  refine ns_idx (t1.its.length - 1) sl_100 rfl rfl rfl rfl (by omega) (by omega) ?_
  refine ns_ldA [.int .i64 y.key, .int .i64 y.val] ag_45 rfl rfl rfl rfl (by decide) (it_cells hs htk _ hy) ?_
  refine ns_stA (#[.int .i64 y.key, .int .i64 y.val]) ag_45 rfl (by decide) hs rfl rfl rfl rfl (by intro u hu; simp at hu; rcases hu with rfl | rfl <;> rfl) (by simp) ?_
  refine fun w hs => ⟨trivial, ?_⟩
  refine ns_asg rfl rfl ?_
  refine ns_done ?_
  refine WP_ret ?_
  have hload := run_loadVarA (P := Try.prog) (t := 45) (n := 2) (ad := ⟨b2, 0, none⟩) (vs := [.int .i64 y.key, .int .i64 y.val]) ag_45 rfl (by decide) w (St.cells (n := 2) hs (by rfl))
  have hs := (hs.foc (pts g (.cells cur 45 (0, 0)))).mk_arr' hc hcm hsz htk
  have hs := hs.fold (node_fold c b1 (.slice (some ⟨g, 0, none⟩) t1.its.length c1) v2 t1.its bs)
  have hs := hs.fold (tree_fold (c := c) (h := 0) (b := b1) (its := t1.its) (kids := t1.kids) hlen)
  rw [Tr.eta] at hs
  rw [← kh]
  exact ⟨_, resCT 2 45 3 rfl hload, St.mk_pu rfl ((hs.out (P := Tp c 0 t1 b1 * R)).mono kE)⟩
end Go.Proofs.Ytnnembkganlbpaa
/- Putting an item into a tree: what each step leaves of the tree's list and of its bounds. Plain lists. -/
namespace Go.Proofs.Ytnnembkganlbpaa
open Go Go.Bt

section
variable {mn mx h i : Nat} {t k : Tr} {x y : It}
theorem map_ins {α β : Type} (f : α → β) (l : List α) (i : Nat) (a : α) (hi : i ≤ l.length) : (l.insertIdx i a).map f = (l.map f).insertIdx i (f a) := by
  rw [insertIdx_eq _ _ _ hi, insertIdx_eq _ _ _ (by rw [List.length_map]; exact hi)]; simp
theorem mem_ins {α : Type} {l : List α} {i : Nat} {a q : α} (hi : i ≤ l.length) (h : q ∈ l.insertIdx i a) : q = a ∨ q ∈ l := by
  rw [insertIdx_eq _ _ _ hi] at h
  rcases List.mem_append.1 h with h | h
  · exact .inr (List.mem_of_mem_take h)
  · rcases List.mem_cons.1 h with h | h
    · exact .inl h
    · exact .inr (List.mem_of_mem_drop h)
theorem item_place (hO : Ok mn mx h t) (hy : t.its[i]? = some y) : ∃ A B, flat h t = A ++ y :: B ∧ (∀ x, flat h (.mk (t.its.set i x) t.kids) = A ++ x :: B) := by
  have hi : i < t.its.length := (List.getElem?_eq_some_iff.1 hy).1
  cases h with
  | zero =>
    refine ⟨t.its.take i, t.its.drop (i + 1), ?_, fun x => ?_⟩
    · have := set_eq t.its i y hi
      rw [show flat 0 t = t.its from rfl, ← this]
      apply List.ext_getElem?
      intro j
      rw [List.getElem?_set]
      split
      · rename_i e; subst e; rw [hy]
      · rfl
    · rw [flat_mk0, set_eq _ _ _ hi]
  | succ h =>
    have hl : (t.kids.map (flat h)).length = t.its.length + 1 := by rw [List.length_map]; exact hO.1
    refine ⟨_, _, weave_item hl hy, fun x => ?_⟩
    rw [flat_mk, weave_item (its := t.its.set i x) (i := i) (x := x) (by rw [List.length_set]; exact hl) (by simp [hi]), List.take_set_of_le (Nat.le_refl _), List.drop_set_of_lt (Nat.lt_succ_self _)]
theorem put_here (hO : Ok mn mx h t) (hS : Srt (flat h t)) (hy : t.its[i]? = some y) (hk : y.key = x.key) : flat h (.mk (t.its.set i x) t.kids) = put (flat h t) x := by
  obtain ⟨A, B, e, e2⟩ := item_place hO hy
  rw [e2, e, put_mid _ hk]
  intro a ha
  rw [e] at hS
  have := (srt_append.1 hS).2.2 a ha y (by simp)
  omega
theorem ok_here (hO : Ok mn mx h t) : Ok mn mx h (.mk (t.its.set i x) t.kids) := by
  cases h with
  | zero => exact hO
  | succ h => exact ⟨by show t.kids.length = (t.its.set i x).length + 1; rw [List.length_set]; exact hO.1, hO.2⟩
theorem ins_leaf {l : List It} (hf : fnd l x.key = false) : l.insertIdx (lb l x.key) x = put l x := by
  rw [put, hf, insertIdx_eq _ _ _ (lb_le _ _)]; rfl
theorem ok_set (hO : Ok mn mx (h + 1) t) {k' : Tr} (hk' : Ok mn mx h k') (h1 : mn ≤ k'.its.length) (h2 : k'.its.length ≤ mx) : Ok mn mx (h + 1) (.mk t.its (t.kids.set i k')) := by
  refine ⟨by show (t.kids.set i k').length = _; rw [List.length_set]; exact hO.1, fun q hq => ?_⟩
  rcases List.mem_or_eq_of_mem_set hq with hq | rfl
  · exact hO.2 q hq
  · exact ⟨h1, h2, hk'⟩
/-- the kid at i is where the key belongs -/
def Bel (t : Tr) (i : Nat) (k : Int) : Prop := (∀ j y, j < i → t.its[j]? = some y → y.key < k) ∧ ∀ y, t.its[i]? = some y → k < y.key
theorem bel_lb (hS : Srt t.its) {q : Int} (hf : fnd t.its q = false) : Bel t (lb t.its q) q := ⟨fun _ _ hj hy => lb_below hS hj hy, fun _ hy => lb_gt hS hf hy⟩
theorem put_down (hO : Ok mn mx (h + 1) t) (hS : Srt (flat (h + 1) t)) (hk : t.kids[i]? = some k) (hB : Bel t i x.key) {k' : Tr} (hp : flat h k' = put (flat h k) x) :
    flat (h + 1) (.mk t.its (t.kids.set i k')) = put (flat (h + 1) t) x := by
  obtain ⟨A, B, e, e2, h1, h2, _⟩ := kid_place hO hS hk
  rw [e2, e, put_kid (h1 _ hB.1) (h2 _ hB.2)]
  show A ++ (flat h k' ++ B) = _
  rw [hp]; rfl
theorem get_bel (hO : Ok mn mx (h + 1) t) (hS : Srt (flat (h + 1) t)) (hk : t.kids[i]? = some k) {q : Int} (hB : Bel t i q) : get (flat (h + 1) t) q = get (flat h k) q := by
  obtain ⟨A, B, e, _, h1, h2, _⟩ := kid_place hO hS hk
  rw [e, get_kid (h1 _ hB.1) (h2 _ hB.2)]; rfl
theorem rem_bel (hO : Ok mn mx (h + 1) t) (hS : Srt (flat (h + 1) t)) (hk : t.kids[i]? = some k) {q : Int} (hB : Bel t i q) {k' : Tr} (hp : flat h k' = rem (flat h k) q) :
    flat (h + 1) (.mk t.its (t.kids.set i k')) = rem (flat (h + 1) t) q := by
  obtain ⟨A, B, e, e2, h1, h2, _⟩ := kid_place hO hS hk
  rw [e2, e, rem_kid (h1 _ hB.1) (h2 _ hB.2)]
  show A ++ (flat h k' ++ B) = _
  rw [hp]; rfl
def cutL (k : Tr) (m : Nat) : Tr := .mk (k.its.take m) (k.kids.take (m + 1))
def cutR (k : Tr) (m : Nat) : Tr := .mk (k.its.drop (m + 1)) (k.kids.drop (m + 1))
theorem cut_flat {m : Nat} (hO : Ok mn mx h k) (hy : k.its[m]? = some y) : flat h k = flat h (cutL k m) ++ y :: flat h (cutR k m) := by
  cases h with
  | zero =>
    have hi : m < k.its.length := (List.getElem?_eq_some_iff.1 hy).1
    show k.its = k.its.take m ++ y :: k.its.drop (m + 1)
    rw [← set_eq _ _ _ hi]
    apply List.ext_getElem?
    intro j
    rw [List.getElem?_set]
    split
    · rename_i e; subst e; rw [hy]
    · rfl
  | succ h =>
    have hl : (k.kids.map (flat h)).length = k.its.length + 1 := by rw [List.length_map]; exact hO.1
    show weave k.its (k.kids.map (flat h)) = _
    rw [weave_item hl hy, ← List.map_take, ← List.map_drop]; rfl
theorem cut_ok {m : Nat} (hO : Ok mn mx h k) (hm : m < k.its.length) : Ok mn mx h (cutL k m) ∧ Ok mn mx h (cutR k m) := by
  cases h with
  | zero => exact ⟨by show k.kids.take _ = []; rw [show k.kids = [] from hO]; rfl, by show k.kids.drop _ = []; rw [show k.kids = [] from hO]; rfl⟩
  | succ h =>
    have h0 := hO.1
    refine ⟨⟨?_, fun q hq => hO.2 q (List.mem_of_mem_take hq)⟩, ?_, fun q hq => hO.2 q (List.mem_of_mem_drop hq)⟩
    · show (k.kids.take (m + 1)).length = (k.its.take m).length + 1
      rw [List.length_take, List.length_take]; omega
    · show (k.kids.drop (m + 1)).length = (k.its.drop (m + 1)).length + 1
      rw [List.length_drop, List.length_drop]; omega
def cutT (t k : Tr) (i m : Nat) (y : It) : Tr := .mk (t.its.insertIdx i y) ((t.kids.set i (cutL k m)).insertIdx (i + 1) (cutR k m))
theorem cutT_eq (t k : Tr) (i m : Nat) (y : It) : Tr.mk (t.its.insertIdx i y) ((t.kids.set i (cutL k m)).insertIdx (i + 1) (cutR k m)) = cutT t k i m y := rfl
theorem cutT_flat {m : Nat} (hO : Ok mn mx (h + 1) t) (hk : t.kids[i]? = some k) (hy : k.its[m]? = some y) : flat (h + 1) (cutT t k i m y) = flat (h + 1) t := by
  have hl : (t.kids.map (flat h)).length = t.its.length + 1 := by rw [List.length_map]; exact hO.1
  have hc := weave_cut hl (i := i) (f1 := flat h (cutL k m)) (f2 := flat h (cutR k m)) (y := y) (by rw [List.getElem?_map, hk]; exact congrArg some (cut_flat (kid_ok hO hk).2.2 hy))
  rw [← List.map_set, ← map_ins _ _ _ _ (by rw [List.length_set]; have := (List.getElem?_eq_some_iff.1 hk).1; omega)] at hc
  exact hc
theorem cutT_ok {m : Nat} (hO : Ok mn mx (h + 1) t) (hk : t.kids[i]? = some k) (hm : k.its.length = 2 * m + 1) (h1 : mn ≤ m) (h2 : m ≤ mx) : Ok mn mx (h + 1) (cutT t k i m y) := by
  have hi : i < t.kids.length := (List.getElem?_eq_some_iff.1 hk).1
  have h0 := hO.1
  have hc := cut_ok (kid_ok hO hk).2.2 (show m < k.its.length by omega)
  refine ⟨?_, fun q hq => ?_⟩
  · show ((t.kids.set i (cutL k m)).insertIdx (i + 1) (cutR k m)).length = (t.its.insertIdx i y).length + 1
    rw [List.length_insertIdx_of_le_length (by rw [List.length_set]; omega), List.length_insertIdx_of_le_length (by omega), List.length_set]; omega
  · have hq : q ∈ (t.kids.set i (cutL k m)).insertIdx (i + 1) (cutR k m) := hq
    rcases mem_ins (by rw [List.length_set]; omega) hq with rfl | hq
    · have : (cutR k m).its.length = m := by show (k.its.drop (m + 1)).length = m; rw [List.length_drop]; omega
      exact ⟨by omega, by omega, hc.2⟩
    · rcases List.mem_or_eq_of_mem_set hq with hq | rfl
      · exact hO.2 q hq
      · have : (cutL k m).its.length = m := by show (k.its.take m).length = m; rw [List.length_take]; omega
        exact ⟨by omega, by omega, hc.1⟩
theorem cutT_kidL {m : Nat} (hk : t.kids[i]? = some k) : (cutT t k i m y).kids[i]? = some (cutL k m) := by
  have hi : i < t.kids.length := (List.getElem?_eq_some_iff.1 hk).1
  show ((t.kids.set i (cutL k m)).insertIdx (i + 1) (cutR k m))[i]? = _
  rw [List.getElem?_insertIdx_of_lt (Nat.lt_succ_self i)]; simp [hi]
theorem cutT_kidR {m : Nat} (hk : t.kids[i]? = some k) : (cutT t k i m y).kids[i + 1]? = some (cutR k m) := by
  have hi : i < t.kids.length := (List.getElem?_eq_some_iff.1 hk).1
  show ((t.kids.set i (cutL k m)).insertIdx (i + 1) (cutR k m))[i + 1]? = _
  rw [List.getElem?_insertIdx_self, if_pos (by rw [List.length_set]; omega)]
theorem cutT_bel {m : Nat} {q : Int} (hB : Bel t i q) (hi : i ≤ t.its.length) : (q < y.key → Bel (cutT t k i m y) i q) ∧ (y.key < q → Bel (cutT t k i m y) (i + 1) q) := by
  have e1 : (t.its.insertIdx i y)[i]? = some y := by rw [List.getElem?_insertIdx_self, if_pos hi]
  have e0 : ∀ j z, j < i → (t.its.insertIdx i y)[j]? = some z → z.key < q := fun j z hj hz => by
    rw [List.getElem?_insertIdx_of_lt hj] at hz; exact hB.1 j z hj hz
  refine ⟨fun hq => ⟨e0, fun z hz => ?_⟩, fun hq => ⟨fun j z hj hz => ?_, fun z hz => ?_⟩⟩
  · have hz : (t.its.insertIdx i y)[i]? = some z := hz
    rw [e1] at hz; cases hz; exact hq
  · have hz : (t.its.insertIdx i y)[j]? = some z := hz
    rcases Nat.lt_or_ge j i with hh | hh
    · exact e0 j z hh hz
    · have : j = i := by omega
      subst this; rw [e1] at hz; cases hz; exact hq
  · have hz : (t.its.insertIdx i y)[i + 1]? = some z := hz
    rw [List.getElem?_insertIdx_of_gt (Nat.lt_succ_self i)] at hz
    exact hB.2 z hz
end

open Go.Sl in
theorem Ks_cut {c h m : Nat} {kids : List Tr} {bs : List Nat} (hl : bs.length = kids.length) : Ks c h kids bs = Ks c h (kids.take m) (bs.take m) * Ks c h (kids.drop m) (bs.drop m) := by
  rw [← Ks_append (by rw [List.length_take, List.length_take, hl]), List.take_append_drop, List.take_append_drop]
open Go.Sl in
theorem cut_fold {c h b m i xb r : Nat} {t k : Tr} {bs bs1 : List Nat} (its1 : List It) (hlen : bs.length = t.kids.length) (hlen1 : bs1.length = k.kids.length) (hk : t.kids[i]? = some k) (hxb : bs[i]? = some xb) :
    Ent (NodeP c b its1 (bs.insertIdx (i + 1) r) * (NodeP c xb (k.its.take m) (bs1.take (m + 1)) * (NodeP c r (k.its.drop (m + 1)) (bs1.drop (m + 1)) * (Ks c h k.kids bs1 * Ks c (h + 1) (t.kids.eraseIdx i) (bs.eraseIdx i)))))
      (Tp c (h + 1) (.mk its1 ((t.kids.set i (cutL k m)).insertIdx (i + 1) (cutR k m))) b) := by
  have hi : i < t.kids.length := (List.getElem?_eq_some_iff.1 hk).1
  have f1 : Ent (NodeP c xb (k.its.take m) (bs1.take (m + 1)) * Ks c h (k.kids.take (m + 1)) (bs1.take (m + 1))) (Tq c (h + 1) (cutL k m) xb) := tree_fold (by rw [List.length_take, List.length_take, hlen1])
  have f2 : Ent (NodeP c r (k.its.drop (m + 1)) (bs1.drop (m + 1)) * Ks c h (k.kids.drop (m + 1)) (bs1.drop (m + 1))) (Tq c (h + 1) (cutR k m) r) := tree_fold (by rw [List.length_drop, List.length_drop, hlen1])
  have f3 : Ent (NodeP c b its1 (bs.insertIdx (i + 1) r) * Ks c (h + 1) ((t.kids.set i (cutL k m)).insertIdx (i + 1) (cutR k m)) (bs.insertIdx (i + 1) r)) (Tp c (h + 1) (.mk its1 ((t.kids.set i (cutL k m)).insertIdx (i + 1) (cutR k m))) b) :=
    tree_fold (by rw [List.length_insertIdx_of_le_length (by omega), List.length_insertIdx_of_le_length (by rw [List.length_set]; omega), List.length_set, hlen])
  rw [Ks_ins (cutR k m) r (by rw [List.length_set]; omega) (by omega), Ks_set (cutL k m) hi hxb] at f3
  refine Ent.trans ?_ f3
  rw [Ks_cut (m := m + 1) hlen1]
  refine Ent.trans (Ent.of_eq (Q := NodeP c b its1 (bs.insertIdx (i + 1) r) * ((NodeP c r (k.its.drop (m + 1)) (bs1.drop (m + 1)) * Ks c h (k.kids.drop (m + 1)) (bs1.drop (m + 1))) * ((NodeP c xb (k.its.take m) (bs1.take (m + 1)) * Ks c h (k.kids.take (m + 1)) (bs1.take (m + 1))) * Ks c (h + 1) (t.kids.eraseIdx i) (bs.eraseIdx i)))) ?_) (Ent.mul (Ent.refl _) (Ent.mul f2 (Ent.mul f1 (Ent.refl _))))
  ac_rfl
open Go.Sl in
theorem set_fold {c h b i xb : Nat} {t : Tr} {bs : List Nat} (its1 : List It) (k' : Tr) (hlen : bs.length = t.kids.length) (hi : i < t.kids.length) (hxb : bs[i]? = some xb) :
    Ent (NodeP c b its1 bs * (Tp c h k' xb * Ks c (h + 1) (t.kids.eraseIdx i) (bs.eraseIdx i))) (Tp c (h + 1) (.mk its1 (t.kids.set i k')) b) := by
  have f3 : Ent (NodeP c b its1 bs * Ks c (h + 1) (t.kids.set i k') bs) (Tp c (h + 1) (.mk its1 (t.kids.set i k')) b) := tree_fold (by rw [List.length_set, hlen])
  rw [Ks_set k' hi hxb] at f3
  exact f3
end Go.Proofs.Ytnnembkganlbpaa
/- The walk of putting an item into a tree. -/
namespace Go.Proofs.Ytnnembkganlbpaa
open Go Go.Sl Go.Net Go.Wk Go.Bt Go.RowKit

/-- what putting x into the tree t leaves: a tree that holds put's list, and the item that was there -/
def InsP (c fl mn mx h b : Nat) (t : Tr) (x : It) (v : Value) : HProp := ex fun t2 : Tr =>
  pu (v = ans (get (flat h t) x.key) ∧ Ok mn mx h t2 ∧ t.its.length ≤ t2.its.length ∧ t2.its.length ≤ mx ∧ flat h t2 = put (flat h t) x) * (Tp c h t2 b * Ctx c fl)
set_option maxHeartbeats 3200000 in
theorem f71_step (c fl mn mx h b : Nat) (x : It) (t : Tr) (hmn : 1 ≤ mn) (hmx : mx = 2 * mn + 1) (hm : mx < 10000) (hO : Ok mn mx h t) (hl : t.its.length < mx) (hS : Srt (flat h t))
    (hkid : ∀ (h' : Nat) (k : Tr) (xb : Nat), h = h' + 1 → Ok mn mx h' k → k.its.length < mx → Srt (flat h' k) → Tri Try.prog 71 #[ptr xb, itV x, .int .i64 mx] (Tp c h' k xb * Ctx c fl) (InsP c fl mn mx h' xb k x)) :
    Tri Try.prog 71 #[ptr b, itV x, .int .i64 mx] (Tp c h t b * Ctx c fl) (InsP c fl mn mx h b t x) := by
  have hSi := srt_its hO hS
  have hle := lb_le t.its x.key
  intro w0 F w hs
  simp only [mul_assoc'] at hs
  obtain ⟨bs, hlen, hs⟩ := St.tree hs
  obtain ⟨⟨v1, v2⟩, hs⟩ := hs.ex
  unfold Ctx CowP at hs
  simp only [mul_assoc'] at hs
  obtain ⟨a2, c2, rfl, hc2, hcm2⟩ := (hs.foc (PArr v2 bs)).arr_form
  refine calls_WP 115 #[.cell 6 45, .tmp 7] Try.func71 rfl Try.ntmps71 rfl (Nat.le_of_ble_eq_true rfl) ?_
  refine WP_seq ?_
  -- R0
  refine WP_seqr [⟨0, 2, []⟩, ⟨1, 2, []⟩, ⟨2, 0, []⟩] (by kernel_rfl) ?_
  refine ns_box (#[.int .i64 x.key, .int .i64 x.val]) hs rfl rfl rfl rfl ?_
  intro b4 w hs
  refine ns_alloc zc_45 hs rfl rfl ?_
  intro b6 w hs
  refine ns_asg rfl rfl ?_
  refine ns_done ?_
  refine WP_seq ?_
  -- R1
  refine WP_net hs mix [0, 1, 3, 7, 0, 0, 32, 96, 224, 480, 992, 2016, 4095, 8191, 16383, 16383, 32767, 131071] [⟨0, 0, []⟩, ⟨1, 0, []⟩, ⟨2, 0, []⟩, ⟨3, 1, []⟩, ⟨4, 1, []⟩, ⟨5, 0, []⟩, ⟨6, 0, []⟩, ⟨7, 0, []⟩, ⟨8, 1, []⟩, ⟨9, 0, []⟩, ⟨10, 0, []⟩, ⟨11, 1, []⟩, ⟨12, 2, []⟩, ⟨13, 0, []⟩, ⟨14, 0, []⟩, ⟨15, 0, []⟩, ⟨16, 0, []⟩, ⟨17, 0, []⟩] (by kernel_rfl) ?_
  intro w hs
  refine ns_move rfl rfl ?_
  refine ns_nil rfl rfl rfl ?_
  refine ns_fld fo_103_0 rfl rfl rfl ?_
  refine ns_ldB pl_100 hs rfl rfl rfl (by rfl) ?_
  refine ns_ldAB [.int .i64 x.key, .int .i64 x.val] ag_45 hs rfl rfl rfl (by rfl) (by rfl) (by decide) ?_
  refine ns_move rfl rfl ?_
  refine ns_nil rfl rfl rfl ?_
  refine ns_fld fo_103_2 rfl rfl rfl ?_
  refine ns_ldB pl_82 hs rfl rfl rfl (by rfl) ?_
  refine ns_nil rfl rfl rfl ?_
  refine ns_fld fo_84_1 rfl rfl rfl ?_
  refine ns_ldB pl_69 hs rfl rfl rfl (by rfl) ?_
  refine ns_call (f83_ok v1 t.its x hSi (by omega)) ck_83 (hs.foc (IArr v1 t.its)) rfl rfl rfl rfl ?_
  intro v26 w hs
  replace hs := hs.pu
  obtain ⟨rfl, hs⟩ := hs
  refine ns_move rfl rfl ?_
  refine ns_ext rfl rfl rfl rfl ?_
  refine ns_ext rfl rfl rfl rfl ?_
  refine ns_asg rfl rfl ?_
  refine ns_asg rfl rfl ?_
  refine ns_done ?_
  refine WP_seq ?_ -- S1
  refine WP_seq ?_
  -- R2
  refine WP_seqr [⟨0, 0, []⟩] (by kernel_rfl) ?_
  refine ns_move rfl rfl ?_
  refine ns_done ?_
  refine WP_if rfl (fun hif1 => ?_) (fun hif1 => ?_)
  · refine WP_seq ?_
    obtain ⟨y, hy, hyk⟩ := fnd_at hif1
    have hlt : lb t.its x.key < t.its.length := (List.getElem?_eq_some_iff.1 hy).1
    obtain ⟨_, hz, _⟩ | ⟨g, cap, cur, hv, hc, hcm, hsz, htk, hs⟩ := (hs.foc (IArr (v1) (t.its))).arr
    · omega
    cases hv
    -- R3
    refine WP_seqr [⟨0, 0, []⟩, ⟨1, 0, []⟩, ⟨2, 0, []⟩, ⟨3, 1, []⟩, ⟨4, 0, []⟩, ⟨5, 0, []⟩, ⟨6, 1, []⟩, ⟨7, 2, []⟩, ⟨8, 2, []⟩] (by kernel_rfl) ?_
    refine ns_move rfl rfl ?_
    refine ns_nil rfl rfl rfl ?_
    refine ns_fld fo_103_0 rfl rfl rfl ?_
    refine ns_ldB pl_100 hs rfl rfl rfl (by rfl) ?_
    refine ns_move rfl rfl ?_
    refine ns_idx (lb t.its x.key) sl_100 rfl rfl rfl rfl rfl hlt ?_
    refine ns_ldA [.int .i64 y.key, .int .i64 y.val] ag_45 rfl rfl rfl rfl (by decide) (it_cells hs htk _ hy) ?_
    refine ns_alloc zc_45 hs rfl rfl ?_
    intro b10 w hs
    refine ns_stA (#[.int .i64 y.key, .int .i64 y.val]) ag_45 rfl (by decide) hs rfl rfl rfl rfl (by intro u hu; simp at hu; rcases hu with rfl | rfl <;> rfl) (by simp) ?_
    refine fun w hs => ⟨trivial, ?_⟩
    refine ns_done ?_
    refine WP_seq ?_
    -- R4
    refine WP_net hs mix [0, 1, 3, 7, 0, 0, 63, 127] [⟨0, 0, []⟩, ⟨1, 0, []⟩, ⟨2, 0, []⟩, ⟨3, 1, []⟩, ⟨4, 0, []⟩, ⟨5, 1, []⟩, ⟨6, 0, []⟩, ⟨7, 2, []⟩] (by kernel_rfl) ?_
    intro w hs
    refine ns_move rfl rfl ?_
    refine ns_nil rfl rfl rfl ?_
    refine ns_fld fo_103_0 rfl rfl rfl ?_
    refine ns_ldB pl_100 hs rfl rfl rfl (by rfl) ?_
    refine ns_move rfl rfl ?_
    refine ns_ldAB [.int .i64 x.key, .int .i64 x.val] ag_45 hs rfl rfl rfl (by rfl) (by rfl) (by decide) ?_
    refine ns_idx (lb t.its x.key) sl_100 rfl rfl rfl rfl rfl hlt ?_
    refine ns_stA (#[.int .i64 x.key, .int .i64 x.val]) ag_45 rfl (by decide) hs rfl rfl rfl rfl (by intro u hu; simp at hu; rcases hu with rfl | rfl <;> rfl) (by rw [hsz]; omega) ?_
    refine fun w hs => ⟨trivial, ?_⟩
    rw [Nat.zero_add] at hs
    refine ns_done ?_
    refine WP_seq ?_
    -- R5
    refine WP_seqr [⟨0, 1, []⟩, ⟨1, 2, []⟩, ⟨2, 0, []⟩] (by kernel_rfl) ?_
    refine ns_ldAB _ ag_45 hs rfl rfl rfl (by rfl) (by rfl) (by decide) ?_
    refine ns_stA (#[.int .i64 y.key, .int .i64 y.val]) ag_45 rfl (by decide) hs rfl rfl rfl rfl (by intro u hu; simp at hu; rcases hu with rfl | rfl <;> rfl) (by simp) ?_
    refine fun w hs => ⟨trivial, ?_⟩
    refine ns_asg rfl rfl ?_
    refine ns_done ?_
    refine WP_ret ?_
    have hload := run_loadVarA (P := Try.prog) (t := 45) (n := 2) (ad := ⟨b6, 0, none⟩) (vs := [.int .i64 y.key, .int .i64 y.val]) ag_45 rfl (by decide) w (St.cells (n := 2) hs (by rfl))
    have hset := set_cells (i := lb t.its x.key) (c := enc x) hsz (encs_len t.its) rfl hc hlt htk
    rw [← encs_set t.its (lb t.its x.key) x hlt] at hset
    have hs := (hs.foc (pts g (.cells (splice cur (lb t.its x.key * 2) #[.int .i64 x.key, .int .i64 x.val].toList) 45 (0, 0)))).mk_arr' (n := t.its.length) (cap := cap) hc hcm (by rw [splice_size (by rw [hsz]; simp; omega), hsz]) hset
    have e : t.its.length = (t.its.set (lb t.its x.key) x).length := by rw [List.length_set]
    rw [e] at hs
    have hs := hs.fold (node_fold c b (.slice (some ⟨g, 0, none⟩) (t.its.set (lb t.its x.key) x).length cap) (.slice a2 bs.length c2) (t.its.set (lb t.its x.key) x) bs)
    have hs := hs.fold (tree_fold (c := c) (h := h) (b := b) (its := t.its.set (lb t.its x.key) x) (kids := t.kids) hlen)
    have hs := hs.fold (ctx_fold c fl)
    exact ⟨_, resCT 6 45 7 rfl hload, St.mk_ex (.mk (t.its.set (lb t.its x.key) x) t.kids) (St.mk_pu ⟨(congrArg ans (get_found hO hS hy hyk)).symm, ok_here hO, by show _ ≤ (t.its.set (lb t.its x.key) x).length; omega, by show (t.its.set (lb t.its x.key) x).length ≤ _; omega, put_here hO hS hy hyk⟩ hs.out)⟩
  refine WP_skip ?_
  refine WP_seq ?_ -- S2
  refine WP_seq ?_
  -- R6
  refine WP_seqr [⟨0, 0, []⟩, ⟨1, 0, []⟩, ⟨2, 0, []⟩, ⟨3, 1, []⟩, ⟨4, 0, []⟩, ⟨5, 0, []⟩] (by kernel_rfl) ?_
  refine ns_move rfl rfl ?_
  refine ns_nil rfl rfl rfl ?_
  refine ns_fld fo_103_1 rfl rfl rfl ?_
  refine ns_ldB pl_101 hs rfl rfl rfl (by rfl) ?_
  refine ns_len sl_101 rfl rfl rfl ?_
  refine ns_cmp _ rfl rfl rfl rfl rfl ?_
  refine ns_done ?_
  refine WP_if rfl (fun hif2 => ?_) (fun hif2 => ?_)
  · refine WP_seq ?_
    have hs := hs.fold (node_fold c b v1 (.slice a2 bs.length c2) t.its bs)
    -- R7
    refine WP_net hs mix [0, 1, 3, 0, 0, 31] [⟨0, 0, []⟩, ⟨1, 0, []⟩, ⟨2, 0, []⟩, ⟨3, 0, []⟩, ⟨4, 1, []⟩, ⟨5, 2, []⟩] (by kernel_rfl) ?_
    intro w hs
    refine ns_move rfl rfl ?_
    refine ns_nil rfl rfl rfl ?_
    refine ns_fld fo_103_0 rfl rfl rfl ?_
    refine ns_move rfl rfl ?_
    refine ns_ldAB [.int .i64 x.key, .int .i64 x.val] ag_45 hs rfl rfl rfl (by rfl) (by rfl) (by decide) ?_
    refine ns_call (f84_ok c b (lb t.its x.key) x t.its bs hle (by omega)) ck_84 (hs.foc (NodeP c b t.its bs)) rfl rfl rfl rfl ?_
    intro v56 w hs
    refine ns_done ?_
    refine WP_ret ?_
    have hb0 : t.kids.length = 0 := by rw [← hlen]; simpa using hif2
    obtain rfl := kids_zero hO hb0
    have hload := run_loadVarA (P := Try.prog) (t := 45) (n := 2) (ad := ⟨b6, 0, none⟩) (vs := [.int .i64 zero.key, .int .i64 zero.val]) ag_45 rfl (by decide) w (St.cells (n := 2) hs (by rfl))
    have hs := hs.fold (tree_fold (c := c) (h := 0) (b := b) (its := t.its.insertIdx (lb t.its x.key) x) (kids := t.kids) hlen)
    have hs := hs.fold (ctx_fold c fl)
    have hln := List.length_insertIdx_of_le_length (a := x) hle
    exact ⟨_, resCT 6 45 7 rfl hload, St.mk_ex (.mk (t.its.insertIdx (lb t.its x.key) x) t.kids) (St.mk_pu ⟨(congrArg ans (get_leaf hSi hif1)).symm, hO, by show _ ≤ (t.its.insertIdx (lb t.its x.key) x).length; omega, by show (t.its.insertIdx (lb t.its x.key) x).length ≤ _; omega, ins_leaf hif1⟩ hs.out)⟩
  refine WP_skip ?_
  refine WP_seq_cut (fun σ w => ∃ (t1 : Tr) (i : Nat) (k : Tr), σ 0 = ptr b ∧ σ 2 = .int .i64 mx ∧ σ 4 = .pointer (some ⟨b4, 0, none⟩) ∧ σ 6 = .pointer (some ⟨b6, 0, none⟩) ∧ σ 8 = .int .i64 i ∧ Ok mn mx h t1 ∧ t.its.length ≤ t1.its.length ∧ t1.its.length ≤ mx ∧ flat h t1 = flat h t ∧ t1.kids[i]? = some k ∧ k.its.length < mx ∧ Bel t1 i x.key ∧ St w0 (pts b4 (.cells #[.int .i64 x.key, .int .i64 x.val] 45 (0, 0)) * (pts b6 (.cells #[.int .i64 0, .int .i64 0] 45 (0, 0)) * (Tp c h t1 b * (Ctx c fl * F)))) w) ?_ ?_ -- S3
  · have hb0 : t.kids.length ≠ 0 := by intro e; rw [← hlen] at e; simp [e] at hif2
    obtain ⟨h, rfl⟩ : ∃ h', h = h' + 1 := by
      cases h with
      | zero => rw [show t.kids = [] from hO] at hb0; exact absurd rfl hb0
      | succ h => exact ⟨h, rfl⟩
    have hkl := kids_len hO hb0
    obtain ⟨k, hk⟩ : ∃ k, t.kids[lb t.its x.key]? = some k := ⟨t.kids[lb t.its x.key]'(by omega), List.getElem?_eq_getElem (by omega)⟩
    obtain ⟨xb, hxb⟩ : ∃ xb, bs[lb t.its x.key]? = some xb := ⟨bs[lb t.its x.key]'(by omega), List.getElem?_eq_getElem (by omega)⟩
    have hko := kid_ok hO hk
    have hBel := bel_lb hSi hif1
    have hs := hs.fold (node_fold c b v1 (.slice a2 bs.length c2) t.its bs)
    have hs := hs.fold (ctx_fold c fl)
    rw [Ks_at hk hxb] at hs
    simp only [mul_assoc'] at hs
    obtain ⟨bs1, hlen1, hs⟩ := St.tree (hs.foc (Tq c (h + 1) k xb))
    rcases Nat.lt_or_ge k.its.length mx with hlt | hge
    · refine WP_seq ?_
      -- R8
      refine WP_seqr [⟨0, 0, []⟩, ⟨1, 0, []⟩, ⟨2, 0, []⟩, ⟨3, 2, []⟩] (by kernel_rfl) ?_
      refine ns_move rfl rfl ?_
      refine ns_move rfl rfl ?_
      refine ns_move rfl rfl ?_
      refine ns_call (f85_no c b (lb t.its x.key) xb mx t.its k.its bs bs1 hxb hlt) ck_85 (hs.foc (NodeP c b t.its bs * NodeP c xb k.its bs1)) rfl rfl rfl rfl ?_
      intro v60 w hs
      replace hs := hs.pu
      obtain ⟨rfl, hs⟩ := hs
      simp only [mul_assoc'] at hs
      refine ns_done ?_
      refine WP_false rfl ?_ -- if3
      refine WP_skip ?_
      have hs := hs.fold (tree_fold (c := c) (h := h) (b := xb) (its := k.its) (kids := k.kids) hlen1)
      rw [Tr.eta, show Tp c h k xb = Tq c (h + 1) k xb from rfl] at hs
      have hs := hs.fold (Ent.of_eq (Ks_at (c := c) (h := h + 1) hk hxb).symm)
      have hs := hs.fold (tree_fold (c := c) (h := h + 1) (b := b) (its := t.its) (kids := t.kids) hlen)
      rw [Tr.eta] at hs
      exact ⟨t, lb t.its x.key, k, rfl, rfl, rfl, rfl, rfl, hO, Nat.le_refl _, by omega, rfl, hk, hlt, hBel, hs.out⟩
    · refine WP_seq ?_
      have hmid : mx / 2 = mn := by omega
      have hkm : k.its.length = mx := by omega
      obtain ⟨y, hy⟩ : ∃ y, k.its[mx / 2]? = some y := ⟨k.its[mx / 2]'(by omega), List.getElem?_eq_getElem (by omega)⟩
      have hln := List.length_insertIdx_of_le_length (a := y) hle
      have hO1 : Ok mn mx (h + 1) (cutT t k (lb t.its x.key) (mx / 2) y) := cutT_ok hO hk (by omega) (by omega) (by omega)
      have hF1 : flat (h + 1) (cutT t k (lb t.its x.key) (mx / 2) y) = flat (h + 1) t := cutT_flat hO hk hy
      have hB1 := cutT_bel (k := k) (y := y) (m := mx / 2) hBel hle
      -- R8
      refine WP_seqr [⟨0, 0, []⟩, ⟨1, 0, []⟩, ⟨2, 0, []⟩, ⟨3, 2, []⟩] (by kernel_rfl) ?_
      refine ns_move rfl rfl ?_
      refine ns_move rfl rfl ?_
      refine ns_move rfl rfl ?_
      refine ns_call (f85_yes c fl b (lb t.its x.key) xb mx y t.its k.its bs bs1 hxb hge hy hle (by omega) (by omega) (by omega) (fun h0 => by have := kids_len hko.2.2 (by omega); omega)) ck_85 (hs.foc (NodeP c b t.its bs * (NodeP c xb k.its bs1 * Ctx c fl))) rfl rfl rfl rfl ?_
      intro v60 w hs
      replace hs := hs.ex
      obtain ⟨r, hs⟩ := hs
      replace hs := hs.pu
      obtain ⟨rfl, hs⟩ := hs
      simp only [mul_assoc'] at hs
      refine ns_done ?_
      refine WP_true rfl ?_ -- if3
      refine WP_seq ?_
      obtain ⟨⟨u1, u2⟩, hs⟩ := (hs.foc (NodeP c b (t.its.insertIdx (lb t.its x.key) y) (bs.insertIdx (lb t.its x.key + 1) r))).ex
      simp only [mul_assoc'] at hs
      obtain ⟨aa, ca, rfl, _, _⟩ := (hs.foc (IArr u1 (t.its.insertIdx (lb t.its x.key) y))).arr_form
      obtain ⟨_, hz, _⟩ | ⟨g, cap, cur, hv, hc, hcm, hsz, htk, hs⟩ := (hs.foc (IArr (.slice aa (t.its.insertIdx (lb t.its x.key) y).length ca) (t.its.insertIdx (lb t.its x.key) y))).arr
      · omega
      cases hv
      have hyi : (t.its.insertIdx (lb t.its x.key) y)[lb t.its x.key]? = some y := by rw [List.getElem?_insertIdx_self, if_pos hle]
      -- R9
      refine WP_seqr [⟨0, 0, []⟩, ⟨1, 0, []⟩, ⟨2, 0, []⟩, ⟨3, 1, []⟩, ⟨4, 0, []⟩, ⟨5, 0, []⟩, ⟨6, 1, []⟩, ⟨7, 2, []⟩, ⟨8, 2, []⟩] (by kernel_rfl) ?_
      refine ns_move rfl rfl ?_
      refine ns_nil rfl rfl rfl ?_
      refine ns_fld fo_103_0 rfl rfl rfl ?_
      refine ns_ldB pl_100 hs rfl rfl rfl (by rfl) ?_
      refine ns_move rfl rfl ?_
      refine ns_idx (lb t.its x.key) sl_100 rfl rfl rfl rfl rfl (by omega) ?_
      refine ns_ldA [.int .i64 y.key, .int .i64 y.val] ag_45 rfl rfl rfl rfl (by decide) (it_cells hs htk _ hyi) ?_
      refine ns_alloc zc_45 hs rfl rfl ?_
      intro b11 w hs
      refine ns_stA (#[.int .i64 y.key, .int .i64 y.val]) ag_45 rfl (by decide) hs rfl rfl rfl rfl (by intro u hu; simp at hu; rcases hu with rfl | rfl <;> rfl) (by simp) ?_
      refine fun w hs => ⟨trivial, ?_⟩
      rw [splice2] at hs
      refine ns_done ?_
      unfold Ctx CowP at hs
      simp only [mul_assoc'] at hs
      refine WP_block ?_
      refine WP_seq ?_
      -- R13
      refine WP_net hs mix [0, 1, 3, 7, 15, 31, 63, 0, 0, 511, 1023] [⟨0, 0, []⟩, ⟨1, 0, []⟩, ⟨2, 0, []⟩, ⟨3, 1, []⟩, ⟨4, 0, []⟩, ⟨5, 0, []⟩, ⟨6, 1, []⟩, ⟨7, 1, []⟩, ⟨8, 1, []⟩, ⟨9, 2, []⟩, ⟨10, 0, []⟩] (by kernel_rfl) ?_
      intro w hs
      refine ns_move rfl rfl ?_
      refine ns_nil rfl rfl rfl ?_
      refine ns_fld fo_103_2 rfl rfl rfl ?_
      refine ns_ldB pl_82 hs rfl rfl rfl (by rfl) ?_
      refine ns_nil rfl rfl rfl ?_
      refine ns_fld fo_84_1 rfl rfl rfl ?_
      refine ns_ldB pl_69 hs rfl rfl rfl (by rfl) ?_
      refine ns_ldAB [.int .i64 x.key, .int .i64 x.val] ag_45 hs rfl rfl rfl (by rfl) (by rfl) (by decide) ?_
      refine ns_ldAB [.int .i64 y.key, .int .i64 y.val] ag_45 hs rfl rfl rfl (by rfl) (by rfl) (by decide) ?_
      refine ns_call (f40_ok x y) ck_40 (hs.foc 1) rfl rfl rfl rfl ?_
      intro v93 w hs
      replace hs := hs.pure
      obtain ⟨rfl, hs⟩ := hs
      refine ns_asg rfl rfl ?_
      refine ns_done ?_
      refine WP_if' rfl (fun hif4 => ?_) (fun hif4 => ?_)
      · refine WP_seq ?_
        -- R14
        refine WP_net hs mix [0, 1, 3, 7, 15, 31, 63, 0, 0, 511, 1023] [⟨0, 0, []⟩, ⟨1, 0, []⟩, ⟨2, 0, []⟩, ⟨3, 1, []⟩, ⟨4, 0, []⟩, ⟨5, 0, []⟩, ⟨6, 1, []⟩, ⟨7, 1, []⟩, ⟨8, 1, []⟩, ⟨9, 2, []⟩, ⟨10, 0, []⟩] (by kernel_rfl) ?_
        intro w hs
        refine ns_move rfl rfl ?_
        refine ns_nil rfl rfl rfl ?_
        refine ns_fld fo_103_2 rfl rfl rfl ?_
        refine ns_ldB pl_82 hs rfl rfl rfl (by rfl) ?_
        refine ns_nil rfl rfl rfl ?_
        refine ns_fld fo_84_1 rfl rfl rfl ?_
        refine ns_ldB pl_69 hs rfl rfl rfl (by rfl) ?_
        refine ns_ldAB [.int .i64 y.key, .int .i64 y.val] ag_45 hs rfl rfl rfl (by rfl) (by rfl) (by decide) ?_
        refine ns_ldAB [.int .i64 x.key, .int .i64 x.val] ag_45 hs rfl rfl rfl (by rfl) (by rfl) (by decide) ?_
        refine ns_call (f40_ok y x) ck_40 (hs.foc 1) rfl rfl rfl rfl ?_
        intro v104 w hs
        replace hs := hs.pure
        obtain ⟨rfl, hs⟩ := hs
        refine ns_asg rfl rfl ?_
        refine ns_done ?_
        refine WP_if rfl (fun hif5 => ?_) (fun hif5 => ?_)
        · -- R15
          refine WP_seqr [⟨0, 0, []⟩, ⟨1, 0, []⟩, ⟨2, 0, []⟩] (by kernel_rfl) ?_
          refine ns_move rfl rfl ?_
          refine ns_add rfl rfl rfl rfl (by omega) (by omega) ?_
          refine ns_asg rfl rfl ?_
          refine ns_done ?_
          have hs := (hs.foc (pts g (.cells cur 45 (0, 0)))).mk_arr' hc hcm hsz htk
          have hs := hs.fold (node_fold c b (.slice (some ⟨g, 0, none⟩) (t.its.insertIdx (lb t.its x.key) y).length ca) u2 (t.its.insertIdx (lb t.its x.key) y) (bs.insertIdx (lb t.its x.key + 1) r))
          have hs := hs.fold (cut_fold (c := c) (h := h) (b := b) (m := mx / 2) (i := lb t.its x.key) (xb := xb) (r := r) (t := t) (k := k) (bs := bs) (bs1 := bs1) (t.its.insertIdx (lb t.its x.key) y) hlen hlen1 hk hxb)
          have hs := hs.fold (ctx_fold c fl)
          rw [cutT_eq] at hs
          have hyx : y.key < x.key := by simpa using hif5
          have hkr : (cutR k (mx / 2)).its.length < mx := by show (k.its.drop (mx / 2 + 1)).length < mx; rw [List.length_drop]; omega
          exact ⟨cutT t k (lb t.its x.key) (mx / 2) y, lb t.its x.key + 1, cutR k (mx / 2), rfl, rfl, rfl, rfl, rfl, hO1, by show _ ≤ (t.its.insertIdx (lb t.its x.key) y).length; omega, by show (t.its.insertIdx (lb t.its x.key) y).length ≤ _; omega, hF1, cutT_kidR hk, hkr, hB1.2 hyx, hs.out⟩
        refine WP_seq ?_
        -- R10
        refine WP_seqr [⟨0, 0, []⟩, ⟨1, 0, []⟩, ⟨2, 0, []⟩, ⟨3, 1, []⟩, ⟨4, 0, []⟩, ⟨5, 0, []⟩, ⟨6, 1, []⟩, ⟨7, 2, []⟩, ⟨8, 2, []⟩] (by kernel_rfl) ?_
        refine ns_move rfl rfl ?_
        refine ns_nil rfl rfl rfl ?_
        refine ns_fld fo_103_0 rfl rfl rfl ?_
        refine ns_ldB pl_100 hs rfl rfl rfl (by rfl) ?_
        refine ns_move rfl rfl ?_
        refine ns_idx (lb t.its x.key) sl_100 rfl rfl rfl rfl rfl (by omega) ?_
        refine ns_ldA [.int .i64 y.key, .int .i64 y.val] ag_45 rfl rfl rfl rfl (by decide) (it_cells hs htk _ hyi) ?_
        refine ns_alloc zc_45 hs rfl rfl ?_
        intro b12 w hs
        refine ns_stA (#[.int .i64 y.key, .int .i64 y.val]) ag_45 rfl (by decide) hs rfl rfl rfl rfl (by intro u hu; simp at hu; rcases hu with rfl | rfl <;> rfl) (by simp) ?_
        refine fun w hs => ⟨trivial, ?_⟩
        refine ns_done ?_
        refine WP_seq ?_
        -- R11
        refine WP_net hs mix [0, 1, 3, 7, 0, 0, 63, 127] [⟨0, 0, []⟩, ⟨1, 0, []⟩, ⟨2, 0, []⟩, ⟨3, 1, []⟩, ⟨4, 0, []⟩, ⟨5, 1, []⟩, ⟨6, 0, []⟩, ⟨7, 2, []⟩] (by kernel_rfl) ?_
        intro w hs
        refine ns_move rfl rfl ?_
        refine ns_nil rfl rfl rfl ?_
        refine ns_fld fo_103_0 rfl rfl rfl ?_
        refine ns_ldB pl_100 hs rfl rfl rfl (by rfl) ?_
        refine ns_move rfl rfl ?_
        refine ns_ldAB [.int .i64 x.key, .int .i64 x.val] ag_45 hs rfl rfl rfl (by rfl) (by rfl) (by decide) ?_
        refine ns_idx (lb t.its x.key) sl_100 rfl rfl rfl rfl rfl (by omega) ?_
        refine ns_stA (#[.int .i64 x.key, .int .i64 x.val]) ag_45 rfl (by decide) hs rfl rfl rfl rfl (by intro u hu; simp at hu; rcases hu with rfl | rfl <;> rfl) (by rw [hsz]; omega) ?_
        refine fun w hs => ⟨trivial, ?_⟩
        rw [Nat.zero_add] at hs
        refine ns_done ?_
        refine WP_seq ?_
        -- R12
        refine WP_seqr [⟨0, 1, []⟩, ⟨1, 2, []⟩, ⟨2, 0, []⟩] (by kernel_rfl) ?_
        refine ns_ldAB _ ag_45 hs rfl rfl rfl (by rfl) (by rfl) (by decide) ?_
        refine ns_stA (#[.int .i64 y.key, .int .i64 y.val]) ag_45 rfl (by decide) hs rfl rfl rfl rfl (by intro u hu; simp at hu; rcases hu with rfl | rfl <;> rfl) (by simp) ?_
        refine fun w hs => ⟨trivial, ?_⟩
        refine ns_asg rfl rfl ?_
        refine ns_done ?_
        refine WP_ret ?_
        have hload := run_loadVarA (P := Try.prog) (t := 45) (n := 2) (ad := ⟨b6, 0, none⟩) (vs := [.int .i64 y.key, .int .i64 y.val]) ag_45 rfl (by decide) w (St.cells (n := 2) hs (by rfl))
        have hyx : y.key = x.key := by have := of_decide_eq_false hif4; have := of_decide_eq_false hif5; omega
        have hset := set_cells (i := lb t.its x.key) (c := enc x) hsz (encs_len _) rfl hc (by omega) htk
        rw [← encs_set _ (lb t.its x.key) x (by omega)] at hset
        have hs := (hs.foc (pts g (.cells (splice cur (lb t.its x.key * 2) #[.int .i64 x.key, .int .i64 x.val].toList) 45 (0, 0)))).mk_arr' (n := (t.its.insertIdx (lb t.its x.key) y).length) (cap := ca) hc hcm (by rw [splice_size (by rw [hsz]; simp; omega), hsz]) hset
        have e : (t.its.insertIdx (lb t.its x.key) y).length = ((t.its.insertIdx (lb t.its x.key) y).set (lb t.its x.key) x).length := by rw [List.length_set]
        rw [e] at hs
        have hs := hs.fold (node_fold c b (.slice (some ⟨g, 0, none⟩) ((t.its.insertIdx (lb t.its x.key) y).set (lb t.its x.key) x).length ca) u2 ((t.its.insertIdx (lb t.its x.key) y).set (lb t.its x.key) x) (bs.insertIdx (lb t.its x.key + 1) r))
        have hs := hs.fold (cut_fold (c := c) (h := h) (b := b) (m := mx / 2) (i := lb t.its x.key) (xb := xb) (r := r) (t := t) (k := k) (bs := bs) (bs1 := bs1) ((t.its.insertIdx (lb t.its x.key) y).set (lb t.its x.key) x) hlen hlen1 hk hxb)
        have hs := hs.fold (ctx_fold c fl)
        have hS1 := hS
        rw [← hF1] at hS1
        have hyi2 : (cutT t k (lb t.its x.key) (mx / 2) y).its[lb t.its x.key]? = some y := hyi
        have hg : get (flat (h + 1) t) x.key = some y := hF1 ▸ get_found hO1 hS1 hyi2 hyx
        have hp := put_here (x := x) hO1 hS1 hyi2 hyx
        rw [hF1] at hp
        have hok := ok_here (i := lb t.its x.key) (x := x) hO1
        refine ⟨_, resCT 6 45 7 rfl hload, St.mk_ex (.mk ((t.its.insertIdx (lb t.its x.key) y).set (lb t.its x.key) x) ((t.kids.set (lb t.its x.key) (cutL k (mx / 2))).insertIdx (lb t.its x.key + 1) (cutR k (mx / 2)))) (St.mk_pu ⟨(congrArg ans hg).symm, hok, ?_, ?_, hp⟩ hs.out)⟩
        · show _ ≤ ((t.its.insertIdx (lb t.its x.key) y).set (lb t.its x.key) x).length
          omega
        · show ((t.its.insertIdx (lb t.its x.key) y).set (lb t.its x.key) x).length ≤ _
          omega
      refine WP_skip ?_
      have hs := (hs.foc (pts g (.cells cur 45 (0, 0)))).mk_arr' hc hcm hsz htk
      have hs := hs.fold (node_fold c b (.slice (some ⟨g, 0, none⟩) (t.its.insertIdx (lb t.its x.key) y).length ca) u2 (t.its.insertIdx (lb t.its x.key) y) (bs.insertIdx (lb t.its x.key + 1) r))
      have hs := hs.fold (cut_fold (c := c) (h := h) (b := b) (m := mx / 2) (i := lb t.its x.key) (xb := xb) (r := r) (t := t) (k := k) (bs := bs) (bs1 := bs1) (t.its.insertIdx (lb t.its x.key) y) hlen hlen1 hk hxb)
      have hs := hs.fold (ctx_fold c fl)
      rw [cutT_eq] at hs
      have hyx : x.key < y.key := by simpa using hif4
      have hkr : (cutL k (mx / 2)).its.length < mx := by show (k.its.take (mx / 2)).length < mx; rw [List.length_take]; omega
      exact ⟨cutT t k (lb t.its x.key) (mx / 2) y, lb t.its x.key, cutL k (mx / 2), rfl, rfl, rfl, rfl, rfl, hO1, by show _ ≤ (t.its.insertIdx (lb t.its x.key) y).length; omega, by show (t.its.insertIdx (lb t.its x.key) y).length ≤ _; omega, hF1, cutT_kidL hk, hkr, hB1.1 hyx, hs.out⟩
  rintro σ w ⟨t1, i, k, g0, g2, g4, g6, g8, hO1, hl1, hl2, hF1, hk, hkl, hB, hs⟩
  obtain ⟨σ, rfl⟩ := rebase g0
  obtain ⟨σ, rfl⟩ := rebase (σ := σ) g2
  obtain ⟨σ, rfl⟩ := rebase (σ := σ) g4
  obtain ⟨σ, rfl⟩ := rebase (σ := σ) g6
  obtain ⟨σ, rfl⟩ := rebase (σ := σ) g8
  clear g0 g2 g4 g6 g8
  have hi : i < t1.kids.length := (List.getElem?_eq_some_iff.1 hk).1
  have hS1 := hS
  rw [← hF1] at hS1
  obtain ⟨h, rfl⟩ : ∃ h', h = h' + 1 := by
    cases h with
    | zero => rw [show t1.kids = [] from hO1] at hi; simp at hi
    | succ h => exact ⟨h, rfl⟩
  have hko := kid_ok hO1 hk
  obtain ⟨bs, hlen, hs⟩ := St.tree (hs.foc (Tp c (h + 1) t1 b))
  obtain ⟨xb, hxb⟩ : ∃ xb, bs[i]? = some xb := ⟨bs[i]'(by omega), List.getElem?_eq_getElem (by omega)⟩
  rw [Ks_at hk hxb] at hs
  simp only [mul_assoc'] at hs
  obtain ⟨bs1, hlen1, hs⟩ := St.tree (hs.foc (Tq c (h + 1) k xb))
  refine WP_seq ?_
  -- R16
  refine WP_net hs mix [0, 0, 3, 0, 0, 31, 63, 63, 255, 511] [⟨0, 0, []⟩, ⟨1, 0, []⟩, ⟨3, 1, []⟩, ⟨4, 0, []⟩, ⟨2, 2, [3]⟩, ⟨5, 2, []⟩, ⟨6, 0, []⟩, ⟨7, 0, []⟩, ⟨8, 2, []⟩, ⟨9, 0, []⟩] (by kernel_rfl) ?_
  intro w hs
  refine ns_move rfl rfl ?_
  refine ns_move rfl rfl ?_
  refine ns_ldAB [.int .i64 x.key, .int .i64 x.val] ag_45 hs rfl rfl rfl (by rfl) (by rfl) (by decide) ?_
  refine ns_move rfl rfl ?_
  refine ns_callK (f86_ok c b i xb t1.its k.its bs bs1 hxb) ck_86 (hs.foc (NodeP c b t1.its bs * NodeP c xb k.its bs1)) rfl rfl rfl rfl ?_
  refine fun v109 w hs => ⟨⟨St.cells (n := 2) hs (by rfl), trivial⟩, ?_⟩
  replace hs := hs.pu
  obtain ⟨rfl, hs⟩ := hs
  simp only [mul_assoc'] at hs
  have hs := hs.fold (tree_fold (c := c) (h := h) (b := xb) (its := k.its) (kids := k.kids) hlen1)
  rw [Tr.eta] at hs
  refine ns_call (hkid h k xb rfl hko.2.2 hkl (kid_srt hO1 hS1 hk)) ck_71 (hs.foc (Tp c h k xb * Ctx c fl)) rfl rfl rfl rfl ?_
  intro v112 w hs
  unfold InsP at hs
  replace hs := hs.ex
  obtain ⟨k2, hs⟩ := hs
  replace hs := hs.pu
  obtain ⟨⟨rfl, q1, q2, q3, q4⟩, hs⟩ := hs
  simp only [mul_assoc'] at hs
  refine ns_ext rfl rfl rfl rfl ?_
  refine ns_ext rfl rfl rfl rfl ?_
  refine ns_stA (#[.int .i64 ((get (flat h k) x.key).getD zero).key, .int .i64 ((get (flat h k) x.key).getD zero).val]) ag_45 rfl (by decide) hs rfl rfl rfl rfl (by intro u hu; simp at hu; rcases hu with rfl | rfl <;> rfl) (by simp) ?_
  refine fun w hs => ⟨trivial, ?_⟩
  refine ns_asg rfl rfl ?_
  refine ns_done ?_
  refine WP_ret ?_
  have hload := run_loadVarA (P := Try.prog) (t := 45) (n := 2) (ad := ⟨b6, 0, none⟩) (vs := [.int .i64 ((get (flat h k) x.key).getD zero).key, .int .i64 ((get (flat h k) x.key).getD zero).val]) ag_45 rfl (by decide) w (St.cells (n := 2) hs (by rfl))
  have hs := hs.fold (set_fold (c := c) (h := h) (b := b) (i := i) (xb := xb) (t := t1) (bs := bs) t1.its k2 hlen hi hxb)
  exact ⟨_, resCT 6 45 7 rfl hload, St.mk_ex (.mk t1.its (t1.kids.set i k2)) (St.mk_pu ⟨(congrArg ans (hF1 ▸ get_bel hO1 hS1 hk hB)).symm, ok_set hO1 q1 (by omega) q3, hl1, hl2, by rw [put_down hO1 hS1 hk hB q4, hF1]⟩ hs.out)⟩
theorem f71_ok (c fl mn mx : Nat) (x : It) (hmn : 1 ≤ mn) (hmx : mx = 2 * mn + 1) (hm : mx < 10000) : ∀ (h b : Nat) (t : Tr), Ok mn mx h t → t.its.length < mx → Srt (flat h t) →
    Tri Try.prog 71 #[ptr b, itV x, .int .i64 mx] (Tp c h t b * Ctx c fl) (InsP c fl mn mx h b t x) := by
  intro h
  induction h with
  | zero => exact fun b t hO hl hS => f71_step c fl mn mx 0 b x t hmn hmx hm hO hl hS fun h' k xb e => by cases e
  | succ h ih => exact fun b t hO hl hS => f71_step c fl mn mx (h + 1) b x t hmn hmx hm hO hl hS fun h' k xb e hO' hl' hS' => by cases e; exact ih xb k hO' hl' hS'
end Go.Proofs.Ytnnembkganlbpaa
/- Taking an item out of a tree: what each step leaves of the tree's list and of its bounds. Plain lists. -/
namespace Go.Proofs.Ytnnembkganlbpaa
open Go Go.Bt

/-- what is left of a list, and what was taken: the item with x's key (0), the first (1), the last (2) -/
def rml (ty : Nat) (l : List It) (x : It) : List It := if ty = 0 then rem l x.key else if ty = 1 then l.tail else l.dropLast
def rmo (ty : Nat) (l : List It) (x : It) : Option It := if ty = 0 then get l x.key else if ty = 1 then l.head? else l.getLast?
def plc (ty : Nat) (t : Tr) (x : It) : Nat := if ty = 0 then lb t.its x.key else if ty = 1 then 0 else t.its.length
def fou (ty : Nat) (t : Tr) (x : It) : Bool := if ty = 0 then fnd t.its x.key else false
theorem plc_le (ty : Nat) (t : Tr) (x : It) : plc ty t x ≤ t.its.length := by
  unfold plc
  split
  · exact lb_le _ _
  · split <;> omega
theorem lb_unique {l : List It} (hS : Srt l) {k : Int} {i : Nat} (hi : i ≤ l.length) (h1 : ∀ j y, j < i → l[j]? = some y → y.key < k) (h2 : ∀ y, l[i]? = some y → k ≤ y.key) : lb l k = i := by
  have hle := lb_le l k
  rcases Nat.lt_trichotomy (lb l k) i with h | h | h
  · obtain ⟨y, hy⟩ : ∃ y, l[lb l k]? = some y := ⟨l[lb l k]'(by omega), List.getElem?_eq_getElem (by omega)⟩
    have := (lb_lt hS hy).1 (h1 _ y h hy)
    omega
  · exact h
  · obtain ⟨y, hy⟩ : ∃ y, l[i]? = some y := ⟨l[i]'(by omega), List.getElem?_eq_getElem (by omega)⟩
    have := (lb_lt hS hy).2 h
    have := h2 y hy
    omega
theorem map_erase {α β : Type} (f : α → β) (l : List α) (i : Nat) : (l.eraseIdx i).map f = (l.map f).eraseIdx i := by
  rw [eraseIdx_eq, eraseIdx_eq]; simp
theorem tail_app {a b : List It} (h : a ≠ []) : (a ++ b).tail = a.tail ++ b := by
  cases a with
  | nil => exact absurd rfl h
  | cons x a => rfl
theorem dropLast_app {a b : List It} (h : b ≠ []) : (a ++ b).dropLast = a ++ b.dropLast := List.dropLast_append_of_ne_nil h
section
variable {mn mx h i ty : Nat} {t k : Tr} {x y z : It}
/-- the kid at plc holds what is to be taken, if the node does not -/
theorem rm_down (hO : Ok mn mx (h + 1) t) (hS : Srt (flat (h + 1) t)) (h1 : 1 ≤ mn) (hf : fou ty t x = false) (hk : t.kids[plc ty t x]? = some k) :
    rmo ty (flat (h + 1) t) x = rmo ty (flat h k) x ∧ ∀ k', flat h k' = rml ty (flat h k) x → flat (h + 1) (.mk t.its (t.kids.set (plc ty t x) k')) = rml ty (flat (h + 1) t) x := by
  have hn := kid_ne hO h1 hk
  obtain ⟨A, B, e, e2, g1, g2, g3, g4⟩ := kid_place hO hS hk
  have e : flat (h + 1) t = A ++ (flat h k ++ B) := e
  by_cases t0 : ty = 0
  · subst t0
    have hB : Bel t (plc 0 t x) x.key := bel_lb (srt_its hO hS) hf
    exact ⟨get_bel hO hS hk hB, fun k' hk' => rem_bel hO hS hk hB hk'⟩
  · by_cases t1 : ty = 1
    · subst t1
      have hA := g3 rfl
      subst hA
      refine ⟨?_, fun k' hk' => ?_⟩
      · show (flat (h + 1) t).head? = (flat h k).head?
        rw [e]
        cases hh : flat h k with
        | nil => exact absurd hh hn
        | cons y l => rfl
      · rw [e2, e]
        show [] ++ (flat h k' ++ B) = ([] ++ (flat h k ++ B)).tail
        have hk' : flat h k' = (flat h k).tail := hk'
        rw [hk', List.nil_append, List.nil_append, tail_app hn]
    · have hB := g4 (by unfold plc; rw [if_neg t0, if_neg t1])
      subst hB
      have er : ∀ l, rml ty l x = l.dropLast := fun l => by unfold rml; rw [if_neg t0, if_neg t1]
      have eo : ∀ l, rmo ty l x = l.getLast? := fun l => by unfold rmo; rw [if_neg t0, if_neg t1]
      refine ⟨?_, fun k' hk' => ?_⟩
      · rw [eo, eo, e, List.append_nil, List.getLast?_append]
        cases hh : (flat h k).getLast? with
        | none => exact absurd (List.getLast?_eq_none_iff.1 hh) hn
        | some y => rfl
      · rw [er] at hk' ⊢
        rw [e2, e]
        show A ++ (flat h k' ++ []) = _
        rw [hk', List.append_nil, List.append_nil, dropLast_app hn]
theorem weave_here {its : List It} {fs : List (List It)} (hl : fs.length = its.length + 1) {i : Nat} {y z : It} {l : List It} (hy : its[i]? = some y) (hf : fs[i]? = some (l ++ [z])) :
    ∃ A B, weave its fs = A ++ y :: B ∧ weave (its.set i z) (fs.set i l) = A ++ B := by
  induction its generalizing fs i with
  | nil => simp at hy
  | cons x its ih =>
    match fs, hl with
    | g :: fs, hl =>
      have hl' : fs.length = its.length + 1 := by simpa using hl
      have hne := ne_nil_of_len hl'
      cases i with
      | zero =>
        simp at hy hf; subst hy; subst hf
        refine ⟨l ++ [z], weave its fs, by rw [weave_cons _ _ _ hne], ?_⟩
        rw [List.set_cons_zero, List.set_cons_zero, weave_cons _ _ _ hne]; simp
      | succ i =>
        simp at hy hf
        obtain ⟨A, B, e1, e2⟩ := ih hl' hy hf
        refine ⟨g ++ x :: A, B, by rw [weave_cons _ _ _ hne, e1]; simp, ?_⟩
        rw [List.set_cons_succ, List.set_cons_succ, weave_cons _ _ _ (ne_of_len (by rw [List.length_set]; omega)), e2]; simp
/-- the item of a node gives way to the last of the kid before it -/
theorem rm_here (hO : Ok mn mx (h + 1) t) (hS : Srt (flat (h + 1) t)) (hy : t.its[i]? = some y) (hyk : y.key = x.key) (hk : t.kids[i]? = some k) (hz : (flat h k).getLast? = some z) {k' : Tr} (hk' : flat h k' = (flat h k).dropLast) :
    flat (h + 1) (.mk (t.its.set i z) (t.kids.set i k')) = rem (flat (h + 1) t) x.key := by
  have hl : (t.kids.map (flat h)).length = t.its.length + 1 := by rw [List.length_map]; exact hO.1
  have ek : flat h k = (flat h k).dropLast ++ [z] := by
    have hn : flat h k ≠ [] := by intro e; rw [e] at hz; cases hz
    have := List.dropLast_concat_getLast hn
    rw [List.getLast?_eq_some_getLast hn] at hz
    cases hz
    exact this.symm
  obtain ⟨A, B, e1, e2⟩ := weave_here (l := (flat h k).dropLast) (z := z) hl hy (by rw [List.getElem?_map, hk]; exact congrArg some ek)
  have e1 : flat (h + 1) t = A ++ y :: B := e1
  rw [flat_mk, List.map_set, hk', e2, e1, rem_mid (by rw [← e1]; exact hS) hyk]
/-- the leaf -/
theorem rm_leaf {its : List It} (hS : Srt its) : (fnd its x.key = true → rem its x.key = its.eraseIdx (lb its x.key)) ∧ (fnd its x.key = false → rem its x.key = its) := by
  rw [rem_eq hS]
  exact ⟨fun h => by rw [if_pos h], fun h => by rw [h]; rfl⟩
theorem ok_setk (hO : Ok mn mx (h + 1) t) {k' : Tr} (hk' : Ok mn mx h k') (h1 : mn ≤ k'.its.length) (h2 : k'.its.length ≤ mx) (z : It) (j : Nat) : Ok mn mx (h + 1) (.mk (t.its.set j z) (t.kids.set i k')) := by
  have := ok_set (i := i) hO hk' h1 h2
  exact ⟨by show (t.kids.set i k').length = (t.its.set j z).length + 1; rw [List.length_set, List.length_set]; exact hO.1, this.2⟩
/-- what growing a kid leaves -/
def Grown (mn mx h ty : Nat) (x : It) (t t1 : Tr) : Prop := Ok mn mx (h + 1) t1 ∧ flat (h + 1) t1 = flat (h + 1) t ∧ t.its.length ≤ t1.its.length + 1 ∧ t1.its.length ≤ t.its.length ∧ ∀ k, t1.kids[plc ty t1 x]? = some k → mn < k.its.length
theorem ok_pair (hO : Ok mn mx (h + 1) t) {a b : Tr} (ha : Ok mn mx h a) (hb : Ok mn mx h b) (a1 : mn ≤ a.its.length) (a2 : a.its.length ≤ mx) (b1 : mn ≤ b.its.length) (b2 : b.its.length ≤ mx) (z : It) (p : Nat) :
    Ok mn mx (h + 1) (.mk (t.its.set p z) ((t.kids.set p a).set (p + 1) b)) := by
  refine ⟨by show ((t.kids.set p a).set (p + 1) b).length = (t.its.set p z).length + 1; rw [List.length_set, List.length_set, List.length_set]; exact hO.1, fun q hq => ?_⟩
  have hq : q ∈ (t.kids.set p a).set (p + 1) b := hq
  rcases List.mem_or_eq_of_mem_set hq with hq | rfl
  · rcases List.mem_or_eq_of_mem_set hq with hq | rfl
    · exact hO.2 q hq
    · exact ⟨a1, a2, ha⟩
  · exact ⟨b1, b2, hb⟩
theorem pair_flat (hO : Ok mn mx (h + 1) t) {p : Nat} {a b a' b' : Tr} {x' : It} (hx : t.its[p]? = some x) (ha : t.kids[p]? = some a) (hb : t.kids[p + 1]? = some b)
    (he : flat h a' ++ x' :: flat h b' = flat h a ++ x :: flat h b) : flat (h + 1) (.mk (t.its.set p x') ((t.kids.set p a').set (p + 1) b')) = flat (h + 1) t := by
  have hl : (t.kids.map (flat h)).length = t.its.length + 1 := by rw [List.length_map]; exact hO.1
  have := weave_pair hl hx (a := flat h a) (b := flat h b) (by rw [List.getElem?_map, ha]; rfl) (by rw [List.getElem?_map, hb]; rfl) he
  rw [flat_mk, List.map_set, List.map_set]
  exact this
theorem merge_flat (hO : Ok mn mx (h + 1) t) {p : Nat} {a b m : Tr} (hx : t.its[p]? = some x) (ha : t.kids[p]? = some a) (hb : t.kids[p + 1]? = some b)
    (he : flat h m = flat h a ++ x :: flat h b) : flat (h + 1) (.mk (t.its.eraseIdx p) ((t.kids.set p m).eraseIdx (p + 1))) = flat (h + 1) t := by
  have hl : (t.kids.map (flat h)).length = t.its.length + 1 := by rw [List.length_map]; exact hO.1
  have := weave_merge hl hx (a := flat h a) (b := flat h b) (by rw [List.getElem?_map, ha]; rfl) (by rw [List.getElem?_map, hb]; rfl)
  rw [← he] at this
  rw [flat_mk, map_erase, List.map_set]
  exact this
theorem weave_two {its : List It} {fs : List (List It)} (hl : fs.length = its.length + 1) {i : Nat} {a b : List It} {x : It} (hx : its[i]? = some x) (ha : fs[i]? = some a) (hb : fs[i + 1]? = some b) :
    ∃ A B, weave its fs = A ++ ((a ++ x :: b) ++ B) := by
  induction its generalizing fs i with
  | nil => simp at hx
  | cons y its ih =>
    match fs, hl with
    | g :: fs, hl =>
      have hl' : fs.length = its.length + 1 := by simpa using hl
      have hne := ne_nil_of_len hl'
      rw [weave_cons y its g hne]
      cases i with
      | zero =>
        simp at hx ha hb
        subst hx; subst ha
        match fs, hne with
        | g2 :: fs, _ =>
          simp at hb; subst hb
          exact ⟨[], post its fs, by simp [weave]⟩
      | succ i =>
        simp at hx ha hb
        obtain ⟨A, B, e⟩ := ih hl' hx ha (by simpa using hb)
        exact ⟨g ++ y :: A, B, by rw [e]; simp⟩
theorem pair_lt (hO : Ok mn mx (h + 1) t) (hS : Srt (flat (h + 1) t)) {p : Nat} {a b : Tr} (hx : t.its[p]? = some x) (ha : t.kids[p]? = some a) (hb : t.kids[p + 1]? = some b) :
    (∀ z ∈ flat h a, z.key < x.key) ∧ ∀ z ∈ flat h b, x.key < z.key := by
  have hl : (t.kids.map (flat h)).length = t.its.length + 1 := by rw [List.length_map]; exact hO.1
  obtain ⟨A, B, e⟩ := weave_two hl hx (a := flat h a) (b := flat h b) (by rw [List.getElem?_map, ha]; rfl) (by rw [List.getElem?_map, hb]; rfl)
  have hS : Srt (weave t.its (t.kids.map (flat h))) := hS
  rw [e] at hS
  have h1 := (srt_append.1 (srt_append.1 hS).2.1).1
  have h2 := srt_append.1 h1
  exact ⟨fun z hz => h2.2.2 z hz x (by simp), fun z hz => h2.2.1.head z hz⟩

/-! ### a neighbour gives -/
def giveL (L : Tr) (l : List It) : Tr := .mk l L.kids.dropLast
def takeL (L R : Tr) (x : It) : Tr := .mk (x :: R.its) (L.kids.getLast?.toList ++ R.kids)
def giveR (R : Tr) (r : List It) : Tr := .mk r R.kids.tail
def takeR (L R : Tr) (x : It) : Tr := .mk (L.its ++ [x]) (L.kids ++ R.kids.head?.toList)
def joinT (L R : Tr) (x : It) : Tr := .mk (L.its ++ x :: R.its) (L.kids ++ R.kids)
theorem stealL {L R : Tr} {l : List It} (hL : Ok mn mx h L) (hR : Ok mn mx h R) (e : L.its = l ++ [z]) (x : It) :
    flat h (giveL L l) ++ z :: flat h (takeL L R x) = flat h L ++ x :: flat h R ∧ Ok mn mx h (giveL L l) ∧ Ok mn mx h (takeL L R x) ∧ z ∈ flat h L := by
  have hz : z ∈ flat h L := (flat_sub hL).subset (by rw [e]; simp)
  cases h with
  | zero =>
    have e1 : L.kids = [] := hL
    have e2 : R.kids = [] := hR
    refine ⟨?_, by show L.kids.dropLast = []; rw [e1]; rfl, by show L.kids.getLast?.toList ++ R.kids = []; rw [e1, e2]; rfl, hz⟩
    show l ++ z :: (x :: R.its) = L.its ++ x :: R.its
    rw [e]; simp
  | succ h =>
    have h1 := hL.1
    have h2 := hR.1
    rw [e] at h1
    simp at h1
    obtain ⟨ks, q, hk⟩ : ∃ ks q, L.kids = ks ++ [q] := ⟨L.kids.dropLast, L.kids.getLast (ne_of_len (by omega)), (List.dropLast_concat_getLast _).symm⟩
    have h3 : ks.length = l.length + 1 := by rw [hk] at h1; simp at h1; omega
    have eg : giveL L l = .mk l ks := by unfold giveL; rw [hk]; simp
    have et : takeL L R x = .mk (x :: R.its) (q :: R.kids) := by unfold takeL; rw [hk]; simp
    rw [eg, et]
    have fL : flat (h + 1) L = weave l (ks.map (flat h)) ++ z :: flat h q := by
      show weave L.its (L.kids.map (flat h)) = _
      rw [e, hk, List.map_append]
      show weave (l ++ z :: []) (ks.map (flat h) ++ [flat h q]) = _
      rw [weave_join z (by rw [List.length_map]; exact h3) rfl, weave_one]
    have fR : flat (h + 1) (.mk (x :: R.its) (q :: R.kids)) = flat h q ++ x :: flat (h + 1) R := by
      rw [flat_mk, List.map_cons, weave_cons _ _ _ (ne_of_len (by rw [List.length_map]; omega))]; rfl
    refine ⟨?_, ⟨h3, fun k hk' => hL.2 k (by rw [hk]; exact List.mem_append_left _ hk')⟩, ⟨by show (q :: R.kids).length = (x :: R.its).length + 1; simp; exact h2, fun k hk' => ?_⟩, hz⟩
    · rw [fR, fL, flat_mk]; simp
    · rcases List.mem_cons.1 (show k ∈ q :: R.kids from hk') with rfl | hk'
      · exact hL.2 k (by rw [hk]; simp)
      · exact hR.2 k hk'
theorem stealR {L R : Tr} {r : List It} (hL : Ok mn mx h L) (hR : Ok mn mx h R) (e : R.its = z :: r) (x : It) :
    flat h (takeR L R x) ++ z :: flat h (giveR R r) = flat h L ++ x :: flat h R ∧ Ok mn mx h (takeR L R x) ∧ Ok mn mx h (giveR R r) ∧ z ∈ flat h R := by
  have hz : z ∈ flat h R := (flat_sub hR).subset (by rw [e]; simp)
  cases h with
  | zero =>
    have e1 : L.kids = [] := hL
    have e2 : R.kids = [] := hR
    refine ⟨?_, by show L.kids ++ R.kids.head?.toList = []; rw [e1, e2]; rfl, by show R.kids.tail = []; rw [e2]; rfl, hz⟩
    show (L.its ++ [x]) ++ z :: r = L.its ++ x :: R.its
    rw [e]; simp
  | succ h =>
    have h1 := hL.1
    have h2 := hR.1
    rw [e] at h2
    simp at h2
    obtain ⟨q, ks, hk⟩ : ∃ q ks, R.kids = q :: ks := by
      cases hh : R.kids with
      | nil => rw [hh] at h2; simp at h2
      | cons q ks => exact ⟨q, ks, rfl⟩
    have h3 : ks.length = r.length + 1 := by rw [hk] at h2; simp at h2; omega
    have eg : giveR R r = .mk r ks := by unfold giveR; rw [hk]; rfl
    have et : takeR L R x = .mk (L.its ++ [x]) (L.kids ++ [q]) := by unfold takeR; rw [hk]; rfl
    rw [eg, et]
    have fL : flat (h + 1) (.mk (L.its ++ [x]) (L.kids ++ [q])) = flat (h + 1) L ++ x :: flat h q := by
      rw [flat_mk, List.map_append]
      show weave (L.its ++ x :: []) (L.kids.map (flat h) ++ [flat h q]) = _
      rw [weave_join x (by rw [List.length_map]; exact h1) rfl, weave_one]; rfl
    have fR : flat (h + 1) R = flat h q ++ z :: weave r (ks.map (flat h)) := by
      show weave R.its (R.kids.map (flat h)) = _
      rw [e, hk, List.map_cons, weave_cons _ _ _ (ne_of_len (by rw [List.length_map]; omega))]
    refine ⟨?_, ⟨by show (L.kids ++ [q]).length = (L.its ++ [x]).length + 1; simp; exact h1, fun k hk' => ?_⟩, ⟨h3, fun k hk' => hR.2 k (by rw [hk]; exact List.mem_cons_of_mem _ hk')⟩, hz⟩
    · rw [fR, fL, flat_mk]; simp
    · rcases List.mem_append.1 (show k ∈ L.kids ++ [q] from hk') with hk' | hk'
      · exact hL.2 k hk'
      · have : k = q := by simpa using hk'
        subst this
        exact hR.2 k (by rw [hk]; simp)
theorem joinT_ok {L R : Tr} (hL : Ok mn mx h L) (hR : Ok mn mx h R) (x : It) : flat h (joinT L R x) = flat h L ++ x :: flat h R ∧ Ok mn mx h (joinT L R x) := by
  cases h with
  | zero =>
    have e1 : L.kids = [] := hL
    have e2 : R.kids = [] := hR
    exact ⟨rfl, by show L.kids ++ R.kids = []; rw [e1, e2]; rfl⟩
  | succ h =>
    have h1 := hL.1
    have h2 := hR.1
    refine ⟨?_, by show (L.kids ++ R.kids).length = (L.its ++ x :: R.its).length + 1; simp; omega, fun k hk => ?_⟩
    · show weave (L.its ++ x :: R.its) ((L.kids ++ R.kids).map (flat h)) = _
      rw [List.map_append, weave_join x (by rw [List.length_map]; exact h1) (by rw [List.length_map]; exact h2)]; rfl
    · rcases List.mem_append.1 (show k ∈ L.kids ++ R.kids from hk) with hk | hk
      · exact hL.2 k hk
      · exact hR.2 k hk

/-! ### the kid has grown -/
theorem set_pair {α : Type} {l : List α} {p : Nat} {a b : α} (hp : p + 1 < l.length) : ((l.set p a).set (p + 1) b)[p]? = some a ∧ ((l.set p a).set (p + 1) b)[p + 1]? = some b := by
  constructor
  · rw [List.getElem?_set_ne (show p + 1 ≠ p by omega), List.getElem?_set_self (by omega)]
  · rw [List.getElem?_set_self (by rw [List.length_set]; exact hp)]
theorem grown_left {p : Nat} {L R : Tr} {l : List It} {w : It} (hO : Ok mn mx (h + 1) t) (hS : Srt (flat (h + 1) t)) (hmx : mx = 2 * mn + 1) (hp : plc ty t x = p + 1) (hw : t.its[p]? = some w) (hL : t.kids[p]? = some L) (hR : t.kids[p + 1]? = some R)
    (e : L.its = l ++ [z]) (hbig : mn < L.its.length) (hsm : R.its.length ≤ mn) : Grown mn mx h ty x t (.mk (t.its.set p z) ((t.kids.set p (giveL L l)).set (p + 1) (takeL L R w))) := by
  have kL := kid_ok hO hL
  have kR := kid_ok hO hR
  obtain ⟨s1, s2, s3, s4⟩ := stealL kL.2.2 kR.2.2 e w
  have hlen : L.its.length = l.length + 1 := by rw [e]; simp
  have hpl : p < t.its.length := (List.getElem?_eq_some_iff.1 hw).1
  have hpk : p + 1 < t.kids.length := (List.getElem?_eq_some_iff.1 hR).1
  have hO1 : Ok mn mx (h + 1) (.mk (t.its.set p z) ((t.kids.set p (giveL L l)).set (p + 1) (takeL L R w))) :=
    ok_pair hO s2 s3 (by show mn ≤ l.length; omega) (by show l.length ≤ mx; omega) (by show mn ≤ (w :: R.its).length; simp; omega) (by show (w :: R.its).length ≤ mx; simp; omega) z p
  have hF := pair_flat hO hw hL hR s1
  have hlt := (pair_lt hO hS hw hL hR).1 z s4
  refine ⟨hO1, hF, by show _ ≤ (t.its.set p z).length + 1; rw [List.length_set]; omega, by show (t.its.set p z).length ≤ _; rw [List.length_set]; omega, fun k hk => ?_⟩
  have hpl1 : plc ty (.mk (t.its.set p z) ((t.kids.set p (giveL L l)).set (p + 1) (takeL L R w))) x = p + 1 := by
    unfold plc at hp ⊢
    by_cases t0 : ty = 0
    · rw [if_pos t0] at hp ⊢
      have hSi := srt_its hO hS
      have hSi1 : Srt (t.its.set p z) := srt_its hO1 (by rw [hF]; exact hS)
      have hwk : w.key < x.key := (lb_lt hSi hw).2 (by omega)
      refine lb_unique hSi1 (by rw [List.length_set]; omega) (fun j y hj hy => ?_) (fun y hy => ?_)
      · rw [List.getElem?_set] at hy
        split at hy
        · cases hy; omega
        · exact (lb_lt hSi hy).2 (by omega)
      · rw [List.getElem?_set_ne (by omega)] at hy
        have : ¬ y.key < x.key := by rw [lb_lt hSi hy]; omega
        omega
    · rw [if_neg t0] at hp ⊢
      split at hp
      · omega
      · rename_i t1
        rw [if_neg t1]
        show (t.its.set p z).length = p + 1
        rw [List.length_set]; exact hp
  rw [hpl1] at hk
  have hk2 : ((t.kids.set p (giveL L l)).set (p + 1) (takeL L R w))[p + 1]? = some k := hk
  rw [(set_pair hpk).2] at hk2
  cases hk2
  show mn < (w :: R.its).length
  simp; omega
theorem grown_right {p : Nat} {L R : Tr} {r : List It} {w : It} (hO : Ok mn mx (h + 1) t) (hS : Srt (flat (h + 1) t)) (hmx : mx = 2 * mn + 1) (hp : plc ty t x = p) (hw : t.its[p]? = some w) (hL : t.kids[p]? = some L) (hR : t.kids[p + 1]? = some R)
    (e : R.its = z :: r) (hbig : mn < R.its.length) (hsm : L.its.length ≤ mn) : Grown mn mx h ty x t (.mk (t.its.set p z) ((t.kids.set p (takeR L R w)).set (p + 1) (giveR R r))) := by
  have kL := kid_ok hO hL
  have kR := kid_ok hO hR
  obtain ⟨s1, s2, s3, s4⟩ := stealR kL.2.2 kR.2.2 e w
  have hlen : R.its.length = r.length + 1 := by rw [e]; simp
  have hpl : p < t.its.length := (List.getElem?_eq_some_iff.1 hw).1
  have hpk : p + 1 < t.kids.length := (List.getElem?_eq_some_iff.1 hR).1
  have hO1 : Ok mn mx (h + 1) (.mk (t.its.set p z) ((t.kids.set p (takeR L R w)).set (p + 1) (giveR R r))) :=
    ok_pair hO s2 s3 (by show mn ≤ (L.its ++ [w]).length; simp; omega) (by show (L.its ++ [w]).length ≤ mx; simp; omega) (by show mn ≤ r.length; omega) (by show r.length ≤ mx; omega) z p
  have hF := pair_flat hO hw hL hR s1
  have hlt := (pair_lt hO hS hw hL hR).2 z s4
  refine ⟨hO1, hF, by show _ ≤ (t.its.set p z).length + 1; rw [List.length_set]; omega, by show (t.its.set p z).length ≤ _; rw [List.length_set]; omega, fun k hk => ?_⟩
  have hpl1 : plc ty (.mk (t.its.set p z) ((t.kids.set p (takeR L R w)).set (p + 1) (giveR R r))) x = p := by
    unfold plc at hp ⊢
    by_cases t0 : ty = 0
    · rw [if_pos t0] at hp ⊢
      have hSi := srt_its hO hS
      have hSi1 : Srt (t.its.set p z) := srt_its hO1 (by rw [hF]; exact hS)
      have hwk : ¬ w.key < x.key := by rw [lb_lt hSi hw]; omega
      refine lb_unique hSi1 (by rw [List.length_set]; omega) (fun j y hj hy => ?_) (fun y hy => ?_)
      · rw [List.getElem?_set_ne (by omega)] at hy
        exact (lb_lt hSi hy).2 (by omega)
      · simp [hpl] at hy
        subst hy; omega
    · rw [if_neg t0] at hp ⊢
      split at hp
      · rename_i t1; rw [if_pos t1]; exact hp
      · omega
  rw [hpl1] at hk
  have hk2 : ((t.kids.set p (takeR L R w)).set (p + 1) (giveR R r))[p]? = some k := hk
  rw [(set_pair hpk).1] at hk2
  cases hk2
  have : (takeR L R w).its.length = L.its.length + 1 := by show (L.its ++ [w]).length = _; simp
  have := kL.1
  omega
theorem grown_join {p : Nat} {L R : Tr} {w : It} (hO : Ok mn mx (h + 1) t) (hS : Srt (flat (h + 1) t)) (hmx : mx = 2 * mn + 1) (hp : plc ty t x = p ∨ (plc ty t x = p + 1 ∧ t.its.length = p + 1)) (hw : t.its[p]? = some w) (hL : t.kids[p]? = some L) (hR : t.kids[p + 1]? = some R)
    (hsL : L.its.length ≤ mn) (hsR : R.its.length ≤ mn) : Grown mn mx h ty x t (.mk (t.its.eraseIdx p) ((t.kids.set p (joinT L R w)).eraseIdx (p + 1))) := by
  have kL := kid_ok hO hL
  have kR := kid_ok hO hR
  obtain ⟨s1, s2⟩ := joinT_ok kL.2.2 kR.2.2 w
  have hpl : p < t.its.length := (List.getElem?_eq_some_iff.1 hw).1
  have hpk : p + 1 < t.kids.length := (List.getElem?_eq_some_iff.1 hR).1
  have hjl : (joinT L R w).its.length = L.its.length + R.its.length + 1 := by show (L.its ++ w :: R.its).length = _; simp; omega
  have h0 := hO.1
  have le1 : (t.its.eraseIdx p).length = t.its.length - 1 := by rw [List.length_eraseIdx, if_pos hpl]
  have le2 : ((t.kids.set p (joinT L R w)).eraseIdx (p + 1)).length = t.kids.length - 1 := by rw [List.length_eraseIdx, List.length_set, if_pos hpk]
  have hO1 : Ok mn mx (h + 1) (.mk (t.its.eraseIdx p) ((t.kids.set p (joinT L R w)).eraseIdx (p + 1))) := by
    refine ⟨by show ((t.kids.set p (joinT L R w)).eraseIdx (p + 1)).length = (t.its.eraseIdx p).length + 1; omega, fun k hk => ?_⟩
    have hk : k ∈ (t.kids.set p (joinT L R w)).eraseIdx (p + 1) := hk
    rcases List.mem_or_eq_of_mem_set (List.mem_of_mem_eraseIdx hk) with hk | rfl
    · exact hO.2 k hk
    · exact ⟨by omega, by omega, s2⟩
  have hF := merge_flat hO hw hL hR s1
  refine ⟨hO1, hF, by show _ ≤ (t.its.eraseIdx p).length + 1; omega, by show (t.its.eraseIdx p).length ≤ _; omega, fun k hk => ?_⟩
  have hpl1 : plc ty (.mk (t.its.eraseIdx p) ((t.kids.set p (joinT L R w)).eraseIdx (p + 1))) x = p := by
    unfold plc at hp ⊢
    by_cases t0 : ty = 0
    · rw [if_pos t0] at hp ⊢
      have hSi := srt_its hO hS
      have hSi1 : Srt (t.its.eraseIdx p) := srt_its hO1 (by rw [hF]; exact hS)
      refine lb_unique hSi1 (by omega) (fun j y hj hy => ?_) (fun y hy => ?_)
      · rw [List.getElem?_eraseIdx_of_lt hj] at hy
        exact (lb_lt hSi hy).2 (by omega)
      · rw [List.getElem?_eraseIdx_of_ge (Nat.le_refl p)] at hy
        have hlt := (List.getElem?_eq_some_iff.1 hy).1
        have : ¬ y.key < x.key := by rw [lb_lt hSi hy]; omega
        omega
    · rw [if_neg t0] at hp ⊢
      split at hp
      · rename_i t1; rw [if_pos t1]; omega
      · rename_i t1; rw [if_neg t1]
        show (t.its.eraseIdx p).length = p
        omega
  rw [hpl1] at hk
  have hk2 : ((t.kids.set p (joinT L R w)).eraseIdx (p + 1))[p]? = some k := hk
  rw [List.getElem?_eraseIdx_of_lt (Nat.lt_succ_self p)] at hk2
  have hpk2 : p < t.kids.length := by omega
  simp [hpk2] at hk2
  subst hk2
  have := kL.1
  have := kR.1
  omega
end
end Go.Proofs.Ytnnembkganlbpaa
