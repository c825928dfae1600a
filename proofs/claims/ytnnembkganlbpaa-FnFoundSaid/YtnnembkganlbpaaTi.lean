/- Putting an item into a tree: what each step leaves of the tree's list and of its bounds. Plain lists. -/
import Derived.Test.YtnnembkganlbpaaTm
namespace Go.Proofs.Ytnnembkganlbpaa
open Go Go.Bt

section
variable {mn mx h i : Nat} {t k : Tr} {x y : It}
theorem map_ins {α β : Type} (f : α → β) (l : List α) (i : Nat) (a : α) (hi : i ≤ l.length) : (l.insertIdx i a).map f = (l.map f).insertIdx i (f a) := by
  rw [insertIdx_eq _ _ _ hi, insertIdx_eq _ _ _ (by rw [List.length_map]; exact hi)]; simp
theorem mem_ins {α : Type} {l : List α} {i : Nat} {a q : α} (hi : i ≤ l.length) (h : q ∈ l.insertIdx i a) : q = a ∨ q ∈ l := by
  rw [insertIdx_eq _ _ _ hi] at h
  rcases List.mem_append.1 h with h | h
  · exact .inr (List.mem_of_mem_take h)
  · rcases List.mem_cons.1 h with h | h
    · exact .inl h
    · exact .inr (List.mem_of_mem_drop h)
theorem item_place (hO : Ok mn mx h t) (hy : t.its[i]? = some y) : ∃ A B, flat h t = A ++ y :: B ∧ (∀ x, flat h (.mk (t.its.set i x) t.kids) = A ++ x :: B) := by
  have hi : i < t.its.length := (List.getElem?_eq_some_iff.1 hy).1
  cases h with
  | zero =>
    refine ⟨t.its.take i, t.its.drop (i + 1), ?_, fun x => ?_⟩
    · have := set_eq t.its i y hi
      rw [show flat 0 t = t.its from rfl, ← this]
      apply List.ext_getElem?
      intro j
      rw [List.getElem?_set]
      split
      · rename_i e; subst e; rw [hy]
      · rfl
    · rw [flat_mk0, set_eq _ _ _ hi]
  | succ h =>
    have hl : (t.kids.map (flat h)).length = t.its.length + 1 := by rw [List.length_map]; exact hO.1
    refine ⟨_, _, weave_item hl hy, fun x => ?_⟩
    rw [flat_mk, weave_item (its := t.its.set i x) (i := i) (x := x) (by rw [List.length_set]; exact hl) (by simp [hi]), List.take_set_of_le (Nat.le_refl _), List.drop_set_of_lt (Nat.lt_succ_self _)]
theorem put_here (hO : Ok mn mx h t) (hS : Srt (flat h t)) (hy : t.its[i]? = some y) (hk : y.key = x.key) : flat h (.mk (t.its.set i x) t.kids) = put (flat h t) x := by
  obtain ⟨A, B, e, e2⟩ := item_place hO hy
  rw [e2, e, put_mid _ hk]
  intro a ha
  rw [e] at hS
  have := (srt_append.1 hS).2.2 a ha y (by simp)
  omega
theorem ok_here (hO : Ok mn mx h t) : Ok mn mx h (.mk (t.its.set i x) t.kids) := by
  cases h with
  | zero => exact hO
  | succ h => exact ⟨by show t.kids.length = (t.its.set i x).length + 1; rw [List.length_set]; exact hO.1, hO.2⟩
theorem ins_leaf {l : List It} (hf : fnd l x.key = false) : l.insertIdx (lb l x.key) x = put l x := by
  rw [put, hf, insertIdx_eq _ _ _ (lb_le _ _)]; rfl
theorem ok_set (hO : Ok mn mx (h + 1) t) {k' : Tr} (hk' : Ok mn mx h k') (h1 : mn ≤ k'.its.length) (h2 : k'.its.length ≤ mx) : Ok mn mx (h + 1) (.mk t.its (t.kids.set i k')) := by
  refine ⟨by show (t.kids.set i k').length = _; rw [List.length_set]; exact hO.1, fun q hq => ?_⟩
  rcases List.mem_or_eq_of_mem_set hq with hq | rfl
  · exact hO.2 q hq
  · exact ⟨h1, h2, hk'⟩
/-- the kid at i is where the key belongs -/
def Bel (t : Tr) (i : Nat) (k : Int) : Prop := (∀ j y, j < i → t.its[j]? = some y → y.key < k) ∧ ∀ y, t.its[i]? = some y → k < y.key
theorem bel_lb (hS : Srt t.its) {q : Int} (hf : fnd t.its q = false) : Bel t (lb t.its q) q := ⟨fun _ _ hj hy => lb_below hS hj hy, fun _ hy => lb_gt hS hf hy⟩
theorem put_down (hO : Ok mn mx (h + 1) t) (hS : Srt (flat (h + 1) t)) (hk : t.kids[i]? = some k) (hB : Bel t i x.key) {k' : Tr} (hp : flat h k' = put (flat h k) x) :
    flat (h + 1) (.mk t.its (t.kids.set i k')) = put (flat (h + 1) t) x := by
  obtain ⟨A, B, e, e2, h1, h2, _⟩ := kid_place hO hS hk
  rw [e2, e, put_kid (h1 _ hB.1) (h2 _ hB.2)]
  show A ++ (flat h k' ++ B) = _
  rw [hp]; rfl
theorem get_bel (hO : Ok mn mx (h + 1) t) (hS : Srt (flat (h + 1) t)) (hk : t.kids[i]? = some k) {q : Int} (hB : Bel t i q) : get (flat (h + 1) t) q = get (flat h k) q := by
  obtain ⟨A, B, e, _, h1, h2, _⟩ := kid_place hO hS hk
  rw [e, get_kid (h1 _ hB.1) (h2 _ hB.2)]; rfl
theorem rem_bel (hO : Ok mn mx (h + 1) t) (hS : Srt (flat (h + 1) t)) (hk : t.kids[i]? = some k) {q : Int} (hB : Bel t i q) {k' : Tr} (hp : flat h k' = rem (flat h k) q) :
    flat (h + 1) (.mk t.its (t.kids.set i k')) = rem (flat (h + 1) t) q := by
  obtain ⟨A, B, e, e2, h1, h2, _⟩ := kid_place hO hS hk
  rw [e2, e, rem_kid (h1 _ hB.1) (h2 _ hB.2)]
  show A ++ (flat h k' ++ B) = _
  rw [hp]; rfl
def cutL (k : Tr) (m : Nat) : Tr := .mk (k.its.take m) (k.kids.take (m + 1))
def cutR (k : Tr) (m : Nat) : Tr := .mk (k.its.drop (m + 1)) (k.kids.drop (m + 1))
theorem cut_flat {m : Nat} (hO : Ok mn mx h k) (hy : k.its[m]? = some y) : flat h k = flat h (cutL k m) ++ y :: flat h (cutR k m) := by
  cases h with
  | zero =>
    have hi : m < k.its.length := (List.getElem?_eq_some_iff.1 hy).1
    show k.its = k.its.take m ++ y :: k.its.drop (m + 1)
    rw [← set_eq _ _ _ hi]
    apply List.ext_getElem?
    intro j
    rw [List.getElem?_set]
    split
    · rename_i e; subst e; rw [hy]
    · rfl
  | succ h =>
    have hl : (k.kids.map (flat h)).length = k.its.length + 1 := by rw [List.length_map]; exact hO.1
    show weave k.its (k.kids.map (flat h)) = _
    rw [weave_item hl hy, ← List.map_take, ← List.map_drop]; rfl
theorem cut_ok {m : Nat} (hO : Ok mn mx h k) (hm : m < k.its.length) : Ok mn mx h (cutL k m) ∧ Ok mn mx h (cutR k m) := by
  cases h with
  | zero => exact ⟨by show k.kids.take _ = []; rw [show k.kids = [] from hO]; rfl, by show k.kids.drop _ = []; rw [show k.kids = [] from hO]; rfl⟩
  | succ h =>
    have h0 := hO.1
    refine ⟨⟨?_, fun q hq => hO.2 q (List.mem_of_mem_take hq)⟩, ?_, fun q hq => hO.2 q (List.mem_of_mem_drop hq)⟩
    · show (k.kids.take (m + 1)).length = (k.its.take m).length + 1
      rw [List.length_take, List.length_take]; omega
    · show (k.kids.drop (m + 1)).length = (k.its.drop (m + 1)).length + 1
      rw [List.length_drop, List.length_drop]; omega
def cutT (t k : Tr) (i m : Nat) (y : It) : Tr := .mk (t.its.insertIdx i y) ((t.kids.set i (cutL k m)).insertIdx (i + 1) (cutR k m))
theorem cutT_eq (t k : Tr) (i m : Nat) (y : It) : Tr.mk (t.its.insertIdx i y) ((t.kids.set i (cutL k m)).insertIdx (i + 1) (cutR k m)) = cutT t k i m y := rfl
theorem cutT_flat {m : Nat} (hO : Ok mn mx (h + 1) t) (hk : t.kids[i]? = some k) (hy : k.its[m]? = some y) : flat (h + 1) (cutT t k i m y) = flat (h + 1) t := by
  have hl : (t.kids.map (flat h)).length = t.its.length + 1 := by rw [List.length_map]; exact hO.1
  have hc := weave_cut hl (i := i) (f1 := flat h (cutL k m)) (f2 := flat h (cutR k m)) (y := y) (by rw [List.getElem?_map, hk]; exact congrArg some (cut_flat (kid_ok hO hk).2.2 hy))
  rw [← List.map_set, ← map_ins _ _ _ _ (by rw [List.length_set]; have := (List.getElem?_eq_some_iff.1 hk).1; omega)] at hc
  exact hc
theorem cutT_ok {m : Nat} (hO : Ok mn mx (h + 1) t) (hk : t.kids[i]? = some k) (hm : k.its.length = 2 * m + 1) (h1 : mn ≤ m) (h2 : m ≤ mx) : Ok mn mx (h + 1) (cutT t k i m y) := by
  have hi : i < t.kids.length := (List.getElem?_eq_some_iff.1 hk).1
  have h0 := hO.1
  have hc := cut_ok (kid_ok hO hk).2.2 (show m < k.its.length by omega)
  refine ⟨?_, fun q hq => ?_⟩
  · show ((t.kids.set i (cutL k m)).insertIdx (i + 1) (cutR k m)).length = (t.its.insertIdx i y).length + 1
    rw [List.length_insertIdx_of_le_length (by rw [List.length_set]; omega), List.length_insertIdx_of_le_length (by omega), List.length_set]; omega
  · have hq : q ∈ (t.kids.set i (cutL k m)).insertIdx (i + 1) (cutR k m) := hq
    rcases mem_ins (by rw [List.length_set]; omega) hq with rfl | hq
    · have : (cutR k m).its.length = m := by show (k.its.drop (m + 1)).length = m; rw [List.length_drop]; omega
      exact ⟨by omega, by omega, hc.2⟩
    · rcases List.mem_or_eq_of_mem_set hq with hq | rfl
      · exact hO.2 q hq
      · have : (cutL k m).its.length = m := by show (k.its.take m).length = m; rw [List.length_take]; omega
        exact ⟨by omega, by omega, hc.1⟩
theorem cutT_kidL {m : Nat} (hk : t.kids[i]? = some k) : (cutT t k i m y).kids[i]? = some (cutL k m) := by
  have hi : i < t.kids.length := (List.getElem?_eq_some_iff.1 hk).1
  show ((t.kids.set i (cutL k m)).insertIdx (i + 1) (cutR k m))[i]? = _
  rw [List.getElem?_insertIdx_of_lt (Nat.lt_succ_self i)]; simp [hi]
theorem cutT_kidR {m : Nat} (hk : t.kids[i]? = some k) : (cutT t k i m y).kids[i + 1]? = some (cutR k m) := by
  have hi : i < t.kids.length := (List.getElem?_eq_some_iff.1 hk).1
  show ((t.kids.set i (cutL k m)).insertIdx (i + 1) (cutR k m))[i + 1]? = _
  rw [List.getElem?_insertIdx_self, if_pos (by rw [List.length_set]; omega)]
theorem cutT_bel {m : Nat} {q : Int} (hB : Bel t i q) (hi : i ≤ t.its.length) : (q < y.key → Bel (cutT t k i m y) i q) ∧ (y.key < q → Bel (cutT t k i m y) (i + 1) q) := by
  have e1 : (t.its.insertIdx i y)[i]? = some y := by rw [List.getElem?_insertIdx_self, if_pos hi]
  have e0 : ∀ j z, j < i → (t.its.insertIdx i y)[j]? = some z → z.key < q := fun j z hj hz => by
    rw [List.getElem?_insertIdx_of_lt hj] at hz; exact hB.1 j z hj hz
  refine ⟨fun hq => ⟨e0, fun z hz => ?_⟩, fun hq => ⟨fun j z hj hz => ?_, fun z hz => ?_⟩⟩
  · have hz : (t.its.insertIdx i y)[i]? = some z := hz
    rw [e1] at hz; cases hz; exact hq
  · have hz : (t.its.insertIdx i y)[j]? = some z := hz
    rcases Nat.lt_or_ge j i with hh | hh
    · exact e0 j z hh hz
    · have : j = i := by omega
      subst this; rw [e1] at hz; cases hz; exact hq
  · have hz : (t.its.insertIdx i y)[i + 1]? = some z := hz
    rw [List.getElem?_insertIdx_of_gt (Nat.lt_succ_self i)] at hz
    exact hB.2 z hz
end

open Go.Sl in
theorem Ks_cut {c h m : Nat} {kids : List Tr} {bs : List Nat} (hl : bs.length = kids.length) : Ks c h kids bs = Ks c h (kids.take m) (bs.take m) * Ks c h (kids.drop m) (bs.drop m) := by
  rw [← Ks_append (by rw [List.length_take, List.length_take, hl]), List.take_append_drop, List.take_append_drop]
open Go.Sl in
theorem cut_fold {c h b m i xb r : Nat} {t k : Tr} {bs bs1 : List Nat} (its1 : List It) (hlen : bs.length = t.kids.length) (hlen1 : bs1.length = k.kids.length) (hk : t.kids[i]? = some k) (hxb : bs[i]? = some xb) :
    Ent (NodeP c b its1 (bs.insertIdx (i + 1) r) * (NodeP c xb (k.its.take m) (bs1.take (m + 1)) * (NodeP c r (k.its.drop (m + 1)) (bs1.drop (m + 1)) * (Ks c h k.kids bs1 * Ks c (h + 1) (t.kids.eraseIdx i) (bs.eraseIdx i)))))
      (Tp c (h + 1) (.mk its1 ((t.kids.set i (cutL k m)).insertIdx (i + 1) (cutR k m))) b) := by
  have hi : i < t.kids.length := (List.getElem?_eq_some_iff.1 hk).1
  have f1 : Ent (NodeP c xb (k.its.take m) (bs1.take (m + 1)) * Ks c h (k.kids.take (m + 1)) (bs1.take (m + 1))) (Tq c (h + 1) (cutL k m) xb) := tree_fold (by rw [List.length_take, List.length_take, hlen1])
  have f2 : Ent (NodeP c r (k.its.drop (m + 1)) (bs1.drop (m + 1)) * Ks c h (k.kids.drop (m + 1)) (bs1.drop (m + 1))) (Tq c (h + 1) (cutR k m) r) := tree_fold (by rw [List.length_drop, List.length_drop, hlen1])
  have f3 : Ent (NodeP c b its1 (bs.insertIdx (i + 1) r) * Ks c (h + 1) ((t.kids.set i (cutL k m)).insertIdx (i + 1) (cutR k m)) (bs.insertIdx (i + 1) r)) (Tp c (h + 1) (.mk its1 ((t.kids.set i (cutL k m)).insertIdx (i + 1) (cutR k m))) b) :=
    tree_fold (by rw [List.length_insertIdx_of_le_length (by omega), List.length_insertIdx_of_le_length (by rw [List.length_set]; omega), List.length_set, hlen])
  rw [Ks_ins (cutR k m) r (by rw [List.length_set]; omega) (by omega), Ks_set (cutL k m) hi hxb] at f3
  refine Ent.trans ?_ f3
  rw [Ks_cut (m := m + 1) hlen1]
  refine Ent.trans (Ent.of_eq (Q := NodeP c b its1 (bs.insertIdx (i + 1) r) * ((NodeP c r (k.its.drop (m + 1)) (bs1.drop (m + 1)) * Ks c h (k.kids.drop (m + 1)) (bs1.drop (m + 1))) * ((NodeP c xb (k.its.take m) (bs1.take (m + 1)) * Ks c h (k.kids.take (m + 1)) (bs1.take (m + 1))) * Ks c (h + 1) (t.kids.eraseIdx i) (bs.eraseIdx i)))) ?_) (Ent.mul (Ent.refl _) (Ent.mul f2 (Ent.mul f1 (Ent.refl _))))
  ac_rfl
open Go.Sl in
theorem set_fold {c h b i xb : Nat} {t : Tr} {bs : List Nat} (its1 : List It) (k' : Tr) (hlen : bs.length = t.kids.length) (hi : i < t.kids.length) (hxb : bs[i]? = some xb) :
    Ent (NodeP c b its1 bs * (Tp c h k' xb * Ks c (h + 1) (t.kids.eraseIdx i) (bs.eraseIdx i))) (Tp c (h + 1) (.mk its1 (t.kids.set i k')) b) := by
  have f3 : Ent (NodeP c b its1 bs * Ks c (h + 1) (t.kids.set i k') bs) (Tp c (h + 1) (.mk its1 (t.kids.set i k')) b) := tree_fold (by rw [List.length_set, hlen])
  rw [Ks_set k' hi hxb] at f3
  exact f3
end Go.Proofs.Ytnnembkganlbpaa
