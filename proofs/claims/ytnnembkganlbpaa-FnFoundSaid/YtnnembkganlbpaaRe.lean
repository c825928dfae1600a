/- Parts of rows that are read; what a script is when its steps are laid upon the first tree. -/
import Derived.Test.YtnnembkganlbpaaW21
namespace Go.Proofs.Ytnnembkganlbpaa
open Go Go.Sl Go.Net Go.Wk Go.Bt Go.RowKit

theorem rd_len {sz : Nat} {R : HProp} {v : Value} {n m : Nat} {xs ys : List Value} (h : Rd sz R v n xs) (hn : n = m) (hx : xs = ys) : Rd sz R v m ys := by subst hn; subst hx; exact h
theorem RdO.part {R : HProp} {a : Option Addr} {c : Nat} {l : List Sop} {n : Nat} (hn : n = l.length) (hr : RdO R (.slice a n c) l) (i j : Nat) (hij : i ≤ j) (hj : j ≤ n) : RdO R (.slice (if c = i then a else a.map (·.add (i * 6))) (j - i) (c - i)) ((l.drop i).take (j - i)) := by
  subst hn
  refine rd_len (Rd.part hr i j hij hj) (by rw [List.length_take, List.length_drop]; omega) ?_
  unfold encO; rw [row_take _ 6 (fun _ => rfl), row_drop _ 6 (fun _ => rfl)]
theorem RdI.part {R : HProp} {a : Option Addr} {c : Nat} {l : List It} {n : Nat} (hn : n = l.length) (hr : RdI R (.slice a n c) l) (i j : Nat) (hij : i ≤ j) (hj : j ≤ n) : RdI R (.slice (if c = i then a else a.map (·.add (i * 2))) (j - i) (c - i)) ((l.drop i).take (j - i)) := by
  subst hn
  refine rd_len (Rd.part hr i j hij hj) (by rw [List.length_take, List.length_drop]; omega) ?_
  rw [encs_take, encs_drop]
theorem zip_drop' {α β : Type} (a : List α) (b : List β) (i : Nat) : (a.zip b).drop i = (a.drop i).zip (b.drop i) := by
  induction a generalizing b i with
  | nil => simp
  | cons x a ih =>
    cases b with
    | nil => simp
    | cons y b => cases i with
      | zero => rfl
      | succ i => exact ih b i
theorem zip_take' {α β : Type} (a : List α) (b : List β) (i : Nat) : (a.zip b).take i = (a.take i).zip (b.take i) := by
  induction a generalizing b i with
  | nil => simp
  | cons x a ih =>
    cases b with
    | nil => simp
    | cons y b => cases i with
      | zero => rfl
      | succ i => exact congrArg ((x, y) :: ·) (ih b i)
theorem encA_drop (al : List An) (ss : List Value) (i : Nat) : encA (al.drop i) (ss.drop i) = (encA al ss).drop (i * 3) := by
  unfold encA; rw [← zip_drop', row_drop _ 3 (fun _ => rfl)]
theorem encA_take (al : List An) (ss : List Value) (i : Nat) : encA (al.take i) (ss.take i) = (encA al ss).take (i * 3) := by
  unfold encA; rw [← zip_take', row_take _ 3 (fun _ => rfl)]
theorem RdA.part {R : HProp} {a : Option Addr} {c : Nat} {al : List An} {n : Nat} (hn : n = al.length) (hr : RdA R (.slice a n c) al) (i j : Nat) (hij : i ≤ j) (hj : j ≤ n) : RdA R (.slice (if c = i then a else a.map (·.add (i * 3))) (j - i) (c - i)) ((al.drop i).take (j - i)) := by
  subst hn
  obtain ⟨ss, h1, h2, h3⟩ := hr
  refine ⟨(ss.drop i).take (j - i), by rw [List.length_take, List.length_take, List.length_drop, List.length_drop, h1], ?_, fun k x s hk hs => ?_⟩
  · refine rd_len (Rd.part h2 i j hij hj) (by rw [List.length_take, List.length_drop]; omega) ?_
    rw [encA_take, encA_drop]
  · rw [List.getElem?_take] at hk hs
    split at hk
    · rename_i hlt
      rw [if_pos hlt] at hs
      rw [List.getElem?_drop] at hk hs
      exact h3 _ x s hk hs
    · cases hk
theorem RdA.tail {R : HProp} {a : Option Addr} {c : Nat} {al : List An} {n : Nat} (hn : n = al.length) (hr : RdA R (.slice a n c) al) (i : Nat) (hi : i ≤ n) : RdA R (.slice (if c = i then a else a.map (·.add (i * 3))) (n - i) (c - i)) (al.drop i) := by
  have h := RdA.part hn hr i n hi (Nat.le_refl _)
  rwa [List.take_of_length_le (by rw [List.length_drop]; omega)] at h
theorem RdA.head {R : HProp} {a : Option Addr} {c : Nat} {al : List An} {n : Nat} (hn : n = al.length) (hr : RdA R (.slice a n c) al) (j : Nat) (hj : j ≤ n) : RdA R (.slice a j c) (al.take j) := by
  subst hn
  obtain ⟨ss, h1, h2, h3⟩ := hr
  refine ⟨ss.take j, by rw [List.length_take, List.length_take, h1], ?_, fun k x s hk hs => ?_⟩
  · refine rd_len (Rd.head h2 j hj) (by rw [List.length_take]; omega) (encA_take ..).symm
  · rw [List.getElem?_take] at hk hs
    split at hk
    · rename_i hlt
      rw [if_pos hlt] at hs
      exact h3 _ x s hk hs
    · cases hk
/-- what is read of an answer's place -/
theorem RdA.form {R : HProp} {v : Value} {al : List An} (hr : RdA R v al) : ∃ a c, v = .slice a al.length c ∧ al.length ≤ c := by
  obtain ⟨ss, h1, ⟨_, a, c, e, h, _⟩, _⟩ := hr
  exact ⟨a, c, e, h⟩
theorem RdA.get {R : HProp} {v : Value} {al : List An} (hr : RdA R v al) {i : Nat} {x : An} (hx : al[i]? = some x) :
    ∃ g o c s, v = .slice (some ⟨g, o, none⟩) al.length c ∧ RdI R s x.items ∧ ∀ (w0 w : World) (F : HProp), St w0 (R * F) w → Cells w ⟨g, o + i * 3, none⟩ [.bool x.ok, .int .i64 x.n, s] := by
  obtain ⟨ss, h1, ⟨_, a, c, rfl, h, h4⟩, h3⟩ := hr
  obtain ⟨hi, _⟩ := List.getElem?_eq_some_iff.1 hx
  obtain ⟨g, o, rfl, hat⟩ := h4 (by omega)
  have hs : ss[i]? = some (ss[i]'(by omega)) := List.getElem?_eq_getElem (by omega)
  exact ⟨g, o, c, ss[i]'(by omega), rfl, h3 i x _ hx hs, fun w0 w F hst => ans_cells hat hst hx hs⟩
/-- the steps that are no clones, laid upon the first tree -/
def onT (l : List Sop) : List Sop := (l.filter fun o => o.kind != 17).map fun o => { o with tree := 0 }
theorem onT_append (a b : List Sop) : onT (a ++ b) = onT a ++ onT b := by simp [onT]
theorem onT_len (l : List Sop) : (onT l).length ≤ l.length := by
  unfold onT; rw [List.length_map]; exact List.length_filter_le ..
theorem onT_one (o : Sop) : onT [o] = if o.kind = 17 then [] else [{ o with tree := 0 }] := by
  by_cases h : o.kind = 17 <;> simp [onT, h]
theorem onT_ok {l : List Sop} : ∀ o ∈ onT l, o.tree = 0 ∧ o.kind ≠ 17 := by
  intro o ho
  simp only [onT, List.mem_map, List.mem_filter] at ho
  obtain ⟨x, ⟨_, hx⟩, rfl⟩ := ho
  exact ⟨rfl, by simpa using hx⟩
/-- a walk over all, and what it tells -/
def allL (k key to : Int) : Sop := ⟨k, 0, key, to, 0, 4000⟩
end Go.Proofs.Ytnnembkganlbpaa
