/- Slices that are read: whoever holds R can read them; rows of steps and of answers. -/
import Derived.Test.YtnnembkganlbpaaW20
import Derived.Test.YtnnembkganlbpaaRq
namespace Go.Proofs.Ytnnembkganlbpaa
open Go Go.Sl Go.Net Go.Wk Go.Bt Go.RowKit

/-- at block g, from cell o on, whoever holds R reads xs -/
def At (R : HProp) (g o : Nat) (xs : List Value) : Prop := ∀ (w0 w : World) (F : HProp), St w0 (R * F) w → ∀ j u, xs[j]? = some u → w.cell? ⟨g, o + j, none⟩ = some u
/-- whoever holds R reads the slice v of n elements, sz cells each: xs -/
def Rd (sz : Nat) (R : HProp) (v : Value) (n : Nat) (xs : List Value) : Prop :=
  xs.length = n * sz ∧ ∃ a c, v = .slice a n c ∧ n ≤ c ∧ (n ≠ 0 → ∃ g o, a = some ⟨g, o, none⟩ ∧ At R g o xs)
theorem At.up {R R' G : HProp} {g o : Nat} {xs : List Value} [h : Foc R R' G] (hr : At R g o xs) : At R' g o xs :=
  fun w0 w F hs => hr w0 w (G * F) (hs.eq (by rw [h.out, mul_assoc']))
theorem Rd.up {sz : Nat} {R R' G : HProp} {v : Value} {n : Nat} {xs : List Value} [h : Foc R R' G] (hr : Rd sz R v n xs) : Rd sz R' v n xs := by
  obtain ⟨h1, a, c, h2, h3, h4⟩ := hr
  exact ⟨h1, a, c, h2, h3, fun hn => by obtain ⟨g, o, e, h⟩ := h4 hn; exact ⟨g, o, e, h.up⟩⟩
theorem Arr.rd {w0 w : World} {E : TypeId} {sz : Nat} {v : Value} {n : Nat} {xs : List Value} {F : HProp} (hs : St w0 (Arr E sz v n xs * F) w) : Rd sz (Arr E sz v n xs) v n xs := by
  have hl := hs.arr_len
  rcases hs.arr with ⟨rfl, rfl, rfl, _⟩ | ⟨g, cap, cur, rfl, h1, h2, h3, h4, h5⟩
  · exact ⟨by simp, none, 0, rfl, Nat.le_refl _, fun h => absurd rfl h⟩
  · refine ⟨hl, some ⟨g, 0, none⟩, cap, rfl, h1, fun hn => ⟨g, 0, rfl, fun w0 w F hs j u hj => ?_⟩⟩
    obtain ⟨g', c', e, _, _, hc⟩ := hs.arr_slice hn
    cases e
    rw [Nat.zero_add]; exact hc j u hj
theorem pts_at (b : Nat) (cs : Array Value) (E : TypeId) (fr : Nat × Nat) : At (pts b (.cells cs E fr)) b 0 cs.toList := fun w0 w F hs j u hj => by
  rw [Nat.zero_add, hs.cell]; simpa using hj
theorem pts_rd (b : Nat) (cs : Array Value) (E : TypeId) (fr : Nat × Nat) (sz n c : Nat) (h : cs.size = n * sz) (hc : n ≤ c) : Rd sz (pts b (.cells cs E fr)) (.slice (some ⟨b, 0, none⟩) n c) n cs.toList :=
  ⟨by simpa using h, _, _, rfl, hc, fun _ => ⟨b, 0, rfl, pts_at b cs E fr⟩⟩
theorem nil_rd (sz : Nat) (R : HProp) : Rd sz R (.slice none 0 0) 0 [] := ⟨by simp, _, _, rfl, Nat.le_refl _, fun h => absurd rfl h⟩
theorem Rd.part {sz : Nat} {R : HProp} {a : Option Addr} {n c : Nat} {xs : List Value} (hr : Rd sz R (.slice a n c) n xs) (i j : Nat) (hij : i ≤ j) (hj : j ≤ n) :
    Rd sz R (.slice (if c = i then a else a.map (·.add (i * sz))) (j - i) (c - i)) (j - i) ((xs.drop (i * sz)).take ((j - i) * sz)) := by
  obtain ⟨h1, a', c', e, h3, h4⟩ := hr
  cases e
  have e1 : j * sz ≤ n * sz := Nat.mul_le_mul_right _ hj
  have e2 : (j - i) * sz = j * sz - i * sz := Nat.sub_mul j i sz
  have e3 : i * sz ≤ j * sz := Nat.mul_le_mul_right _ hij
  refine ⟨by rw [List.length_take, List.length_drop, h1]; omega, _, _, rfl, by omega, fun hn => ?_⟩
  obtain ⟨g, o, rfl, h⟩ := h4 (by omega)
  refine ⟨g, o + i * sz, by rw [if_neg (by omega), Option.map_some, add_plain], fun w0 w F hs k u hk => ?_⟩
  rw [List.getElem?_take] at hk
  split at hk
  · rw [List.getElem?_drop] at hk
    rw [Nat.add_assoc]; exact h w0 w F hs _ u hk
  · cases hk
theorem Rd.head {sz : Nat} {R : HProp} {a : Option Addr} {n c : Nat} {xs : List Value} (hr : Rd sz R (.slice a n c) n xs) (j : Nat) (hj : j ≤ n) : Rd sz R (.slice a j c) j (xs.take (j * sz)) := by
  obtain ⟨h1, a', c', e, h3, h4⟩ := hr
  cases e
  have e1 : j * sz ≤ n * sz := Nat.mul_le_mul_right _ hj
  refine ⟨by rw [List.length_take, h1]; omega, _, _, rfl, by omega, fun hn => ?_⟩
  obtain ⟨g, o, rfl, h⟩ := h4 (by omega)
  refine ⟨g, o, rfl, fun w0 w F hs k u hk => h w0 w F hs k u ?_⟩
  rw [List.getElem?_take] at hk
  split at hk
  · exact hk
  · cases hk
theorem Rd.tail {sz : Nat} {R : HProp} {a : Option Addr} {n c : Nat} {xs : List Value} (hr : Rd sz R (.slice a n c) n xs) (i : Nat) (hi : i ≤ n) :
    Rd sz R (.slice (if c = i then a else a.map (·.add (i * sz))) (n - i) (c - i)) (n - i) (xs.drop (i * sz)) := by
  have h := hr.part i n hi (Nat.le_refl _)
  have h1 := hr.1
  rw [List.take_of_length_le (by rw [List.length_drop, h1, Nat.sub_mul]; omega)] at h
  exact h

/- rows of a known width -/
theorem row_at {α : Type} (f : α → List Value) (k : Nat) (hf : ∀ x, (f x).length = k) (l : List α) (i : Nat) (x : α) (h : l[i]? = some x) : ((l.flatMap f).drop (i * k)).take k = f x := by
  induction l generalizing i with
  | nil => simp at h
  | cons y l ih =>
    cases i with
    | zero =>
      simp at h; subst h
      rw [Nat.zero_mul, List.drop_zero, List.flatMap_cons, ← hf y, List.take_left]
    | succ i =>
      simp at h
      rw [List.flatMap_cons, Nat.succ_mul, Nat.add_comm, ← List.drop_drop]
      have : List.drop k (f y ++ List.flatMap f l) = List.flatMap f l := by rw [← hf y]; exact List.drop_left
      rw [this]; exact ih i h
theorem row_len {α : Type} (f : α → List Value) (k : Nat) (hf : ∀ x, (f x).length = k) (l : List α) : (l.flatMap f).length = l.length * k := by
  induction l with
  | nil => simp
  | cons y l ih => rw [List.flatMap_cons, List.length_append, hf, ih, List.length_cons, Nat.succ_mul]; omega
theorem row_take {α : Type} (f : α → List Value) (k : Nat) (hf : ∀ x, (f x).length = k) (l : List α) (i : Nat) : (l.take i).flatMap f = (l.flatMap f).take (i * k) := by
  induction l generalizing i with
  | nil => simp
  | cons y l ih =>
    cases i with
    | zero => simp
    | succ i =>
      rw [List.take_succ_cons, List.flatMap_cons, List.flatMap_cons, ih, Nat.succ_mul, Nat.add_comm, ← hf y, List.take_length_add_append]
theorem row_drop {α : Type} (f : α → List Value) (k : Nat) (hf : ∀ x, (f x).length = k) (l : List α) (i : Nat) : (l.drop i).flatMap f = (l.flatMap f).drop (i * k) := by
  induction l generalizing i with
  | nil => simp
  | cons y l ih =>
    cases i with
    | zero => simp
    | succ i =>
      rw [List.drop_succ_cons, List.flatMap_cons, ih, Nat.succ_mul, Nat.add_comm, ← List.drop_drop]
      congr 1
      rw [← hf y]; exact List.drop_left.symm
theorem at_row {α : Type} (f : α → List Value) (k : Nat) (hf : ∀ x, (f x).length = k) {l : List α} {R F : HProp} {g o i : Nat} {x : α} {w0 w : World} (ha : At R g o (l.flatMap f)) (hs : St w0 (R * F) w) (h : l[i]? = some x) : Cells w ⟨g, o + i * k, none⟩ (f x) := by
  intro j u hj
  have e := row_at f k hf l i x h
  rw [add_plain, Nat.add_assoc]
  refine ha w0 w F hs _ u ?_
  rw [← e, List.getElem?_take] at hj
  split at hj
  · rw [List.getElem?_drop] at hj; exact hj
  · cases hj
def encO (l : List Sop) : List Value := l.flatMap fun o => (opC o).toList
theorem encO_len (l : List Sop) : (encO l).length = l.length * 6 := row_len _ 6 (fun _ => rfl) l
theorem encO_append (a b : List Sop) : encO (a ++ b) = encO a ++ encO b := by simp [encO]
def RdO (R : HProp) (v : Value) (l : List Sop) : Prop := Rd 6 R v l.length (encO l)
def RdI (R : HProp) (v : Value) (l : List It) : Prop := Rd 2 R v l.length (encs l)
def encK (l : List Int) : List Value := l.flatMap fun k => [.int .i64 k]
def RdK (R : HProp) (v : Value) (l : List Int) : Prop := Rd 1 R v l.length (encK l)
abbrev OArr (v : Value) (l : List Sop) : HProp := Arr 26 6 v l.length (encO l)
theorem op_cells {R F : HProp} {g o i : Nat} {l : List Sop} {x : Sop} {w0 w : World} (ha : At R g o (encO l)) (hs : St w0 (R * F) w) (h : l[i]? = some x) : Cells w ⟨g, o + i * 6, none⟩ [.int .i64 x.kind, .int .i64 x.tree, .int .i64 x.key, .int .i64 x.to, .int .i64 x.val, .int .i64 x.cnt] :=
  at_row (fun o => (opC o).toList) 6 (fun _ => rfl) ha hs h
theorem item_cells {R F : HProp} {g o i : Nat} {l : List It} {x : It} {w0 w : World} (ha : At R g o (encs l)) (hs : St w0 (R * F) w) (h : l[i]? = some x) : Cells w ⟨g, o + i * 2, none⟩ [.int .i64 x.key, .int .i64 x.val] :=
  at_row enc 2 (fun _ => rfl) ha hs h
theorem key_cell {R F : HProp} {g o i : Nat} {l : List Int} {x : Int} {w0 w : World} (ha : At R g o (encK l)) (hs : St w0 (R * F) w) (h : l[i]? = some x) : w.cell? ⟨g, o + i * 1, none⟩ = some (.int .i64 x) := by
  have := at_row (fun k => [.int .i64 k]) 1 (fun _ => rfl) ha hs h 0 (.int .i64 x) rfl
  rwa [add_plain] at this
/-- rows of answers; ss: their slices of items -/
def encA (al : List An) (ss : List Value) : List Value := (al.zip ss).flatMap fun p => [.bool p.1.ok, .int .i64 p.1.n, p.2]
def RdA (R : HProp) (v : Value) (al : List An) : Prop := ∃ ss : List Value, ss.length = al.length ∧ Rd 3 R v al.length (encA al ss) ∧ ∀ (i : Nat) (a : An) (s : Value), al[i]? = some a → ss[i]? = some s → RdI R s a.items
def itsS (al : List An) (ss : List Value) : HProp := stars ((al.zip ss).map fun p => IArr p.2 p.1.items)
def AArr (v : Value) (al : List An) : HProp := ex fun ss : List Value => pu (ss.length = al.length) * (Arr 36 3 v al.length (encA al ss) * itsS al ss)
theorem RdA.up {R R' G : HProp} {v : Value} {al : List An} [h : Foc R R' G] (hr : RdA R v al) : RdA R' v al := by
  obtain ⟨ss, h1, h2, h3⟩ := hr
  exact ⟨ss, h1, h2.up, fun i a s ha hs => (h3 i a s ha hs).up⟩
theorem ans_cells {R F : HProp} {g o i : Nat} {al : List An} {ss : List Value} {a : An} {s : Value} {w0 w : World} (ha : At R g o (encA al ss)) (hs : St w0 (R * F) w) (h : al[i]? = some a) (h2 : ss[i]? = some s) : Cells w ⟨g, o + i * 3, none⟩ [.bool a.ok, .int .i64 a.n, s] :=
  at_row (fun p : An × Value => [.bool p.1.ok, .int .i64 p.1.n, p.2]) 3 (fun _ => rfl) ha hs (x := (a, s)) (by rw [List.getElem?_zip_eq_some]; exact ⟨h, h2⟩)
theorem itsS_snoc (al : List An) (ss : List Value) (a : An) (s : Value) (h : ss.length = al.length) : itsS (al ++ [a]) (ss ++ [s]) = itsS al ss * IArr s a.items := by
  unfold itsS
  rw [List.zip_append h.symm, List.map_append, stars_append]
  show _ * stars [IArr s a.items] = _
  rw [show stars [IArr s a.items] = IArr s a.items * 1 from rfl, mul_one']
theorem encA_snoc (al : List An) (ss : List Value) (a : An) (s : Value) (h : ss.length = al.length) : encA (al ++ [a]) (ss ++ [s]) = encA al ss ++ [.bool a.ok, .int .i64 a.n, s] := by
  unfold encA
  rw [List.zip_append h.symm, List.flatMap_append]; rfl
/-- answers that are owned are read -/
theorem aarr_rd {w0 w : World} {v : Value} {al : List An} {ss : List Value} {F : HProp} (hl : ss.length = al.length) (hs : St w0 (Arr 36 3 v al.length (encA al ss) * itsS al ss * F) w) : RdA (Arr 36 3 v al.length (encA al ss) * itsS al ss) v al := by
  refine ⟨ss, hl, ?_, fun i a s ha hss => ?_⟩
  · rw [mul_assoc'] at hs
    exact (Arr.rd hs).up
  · have hz : ((al.zip ss).map fun p => IArr p.2 p.1.items)[i]? = some (IArr s a.items) := by
      rw [List.getElem?_map, (List.getElem?_zip_eq_some (z := (a, s))).2 ⟨ha, hss⟩]; rfl
    have e := stars_at hz
    have e2 : Arr 36 3 v al.length (encA al ss) * itsS al ss = IArr s a.items * (stars (((al.zip ss).map fun p => IArr p.2 p.1.items).eraseIdx i) * Arr 36 3 v al.length (encA al ss)) := by
      rw [← mul_assoc', ← e, mul_comm']; rfl
    have hs2 := hs.eq (by rw [e2, mul_assoc'] : _ = IArr s a.items * (stars (((al.zip ss).map fun p => IArr p.2 p.1.items).eraseIdx i) * Arr 36 3 v al.length (encA al ss) * F))
    have hr : RdI (IArr s a.items) s a.items := Arr.rd hs2
    rw [e2]; exact hr.up
/-- all that is held in the beginning -/
def base (h0 : Hp) : HProp := fun h => h = h0
end Go.Proofs.Ytnnembkganlbpaa
