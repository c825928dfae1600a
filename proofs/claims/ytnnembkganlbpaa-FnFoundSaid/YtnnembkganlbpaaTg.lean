/- Two neighbouring kids in memory, and what giving, taking and joining make of them. -/
import Derived.Test.YtnnembkganlbpaaTd
namespace Go.Proofs.Ytnnembkganlbpaa
open Go Go.Sl Go.Bt

section
variable {c h b p : Nat} {t L R L2 R2 : Tr} {bs bsL bsR : List Nat} {yb xb qb : Nat}
/-- the kids without the two -/
def Kr (c h : Nat) (kids : List Tr) (bs : List Nat) (p : Nat) : HProp := Ks c h ((kids.eraseIdx (p + 1)).eraseIdx p) ((bs.eraseIdx (p + 1)).eraseIdx p)
theorem Ks_pair {kids : List Tr} (hL : kids[p]? = some L) (hR : kids[p + 1]? = some R) (hy : bs[p]? = some yb) (hx : bs[p + 1]? = some xb) : Ks c h kids bs = Tq c h L yb * (Tq c h R xb * Kr c h kids bs p) := by
  rw [Ks_at hR hx, Ks_at (i := p) (k := L) (x := yb) (by rw [List.getElem?_eraseIdx_of_lt (Nat.lt_succ_self p)]; exact hL) (by rw [List.getElem?_eraseIdx_of_lt (Nat.lt_succ_self p)]; exact hy), mul_left_comm']
  rfl
theorem erase_set2 {α : Type} (l : List α) (p : Nat) (a b : α) : (((l.set p a).set (p + 1) b).eraseIdx (p + 1)).eraseIdx p = (l.eraseIdx (p + 1)).eraseIdx p := by
  induction l generalizing p with
  | nil => rfl
  | cons x l ih =>
    cases p with
    | zero => cases l <;> rfl
    | succ p => simp only [List.set_cons_succ, List.eraseIdx_cons_succ, ih]
theorem erase_set1 {α : Type} (l : List α) (p : Nat) (a : α) : ((l.set p a).eraseIdx (p + 1)).eraseIdx p = (l.eraseIdx (p + 1)).eraseIdx p := by
  induction l generalizing p with
  | nil => rfl
  | cons x l ih =>
    cases p with
    | zero => cases l <;> rfl
    | succ p => simp only [List.set_cons_succ, List.eraseIdx_cons_succ, ih]
theorem pair_fold (its1 : List It) (L2 R2 : Tr) (hlen : bs.length = t.kids.length) (hp : p + 1 < t.kids.length) (hy : bs[p]? = some yb) (hx : bs[p + 1]? = some xb) :
    Ent (NodeP c b its1 bs * (Tp c h L2 yb * (Tp c h R2 xb * Kr c (h + 1) t.kids bs p))) (Tp c (h + 1) (.mk its1 ((t.kids.set p L2).set (p + 1) R2)) b) := by
  have f := tree_fold (c := c) (h := h + 1) (b := b) (its := its1) (kids := (t.kids.set p L2).set (p + 1) R2) (bs := bs) (by rw [List.length_set, List.length_set, hlen])
  rw [Ks_pair (set_pair hp).1 (set_pair hp).2 hy hx] at f
  unfold Kr at f ⊢
  rw [erase_set2] at f
  exact f
theorem merge_fold (its1 : List It) (m : Tr) (hlen : bs.length = t.kids.length) (hp : p + 1 < t.kids.length) (hy : bs[p]? = some yb) :
    Ent (NodeP c b its1 (bs.eraseIdx (p + 1)) * (Tp c h m yb * Kr c (h + 1) t.kids bs p)) (Tp c (h + 1) (.mk its1 ((t.kids.set p m).eraseIdx (p + 1))) b) := by
  have f := tree_fold (c := c) (h := h + 1) (b := b) (its := its1) (kids := (t.kids.set p m).eraseIdx (p + 1)) (bs := bs.eraseIdx (p + 1)) (by rw [List.length_eraseIdx, List.length_eraseIdx, List.length_set, hlen])
  rw [Ks_at (i := p) (k := m) (x := yb) (by rw [List.getElem?_eraseIdx_of_lt (Nat.lt_succ_self p)]; rw [List.getElem?_set_self (by omega)]) (by rw [List.getElem?_eraseIdx_of_lt (Nat.lt_succ_self p)]; exact hy)] at f
  unfold Kr
  rw [erase_set1] at f
  exact f
theorem ks_none (hlen : bsL.length = L.kids.length) (h0 : bsL.length = 0) : L.kids = [] ∧ bsL = [] := ⟨List.eq_nil_of_length_eq_zero (by omega), List.eq_nil_of_length_eq_zero h0⟩
/-- the left one gave its last kid -/
theorem giveL_ks {bl : List Nat} (hlen : (bl ++ [qb]).length = L.kids.length) :
    Ks c h L.kids (bl ++ [qb]) * Ks c h R.kids bsR = Ks c h L.kids.dropLast bl * Ks c h (L.kids.getLast?.toList ++ R.kids) (qb :: bsR) := by
  obtain ⟨ks, q, e⟩ : ∃ ks q, L.kids = ks ++ [q] := ⟨L.kids.dropLast, L.kids.getLast (ne_of_len (by rw [← hlen]; simp)), (List.dropLast_concat_getLast _).symm⟩
  rw [e] at hlen ⊢
  have hl : ks.length = bl.length := by simp at hlen; omega
  have e1 : (ks ++ [q]).dropLast = ks := by simp
  have e2 : (ks ++ [q]).getLast?.toList = [q] := by simp
  rw [e1, e2, Ks_append hl]
  show Ks c h ks bl * (Tq c h q qb * 1) * Ks c h R.kids bsR = Ks c h ks bl * (Tq c h q qb * Ks c h R.kids bsR)
  rw [mul_one', mul_assoc']
/-- the right one gave its first kid -/
theorem giveR_ks {br : List Nat} (hlenL : bsL.length = L.kids.length) (hlen : (qb :: br).length = R.kids.length) :
    Ks c h L.kids bsL * Ks c h R.kids (qb :: br) = Ks c h (L.kids ++ R.kids.head?.toList) (bsL ++ [qb]) * Ks c h R.kids.tail br := by
  obtain ⟨q, ks, e⟩ : ∃ q ks, R.kids = q :: ks := by
    cases hh : R.kids with
    | nil => rw [hh] at hlen; simp at hlen
    | cons q ks => exact ⟨q, ks, rfl⟩
  rw [e]
  show Ks c h L.kids bsL * (Tq c h q qb * Ks c h ks br) = Ks c h (L.kids ++ [q]) (bsL ++ [qb]) * Ks c h ks br
  rw [Ks_append hlenL.symm]
  show _ = Ks c h L.kids bsL * (Tq c h q qb * 1) * Ks c h ks br
  rw [mul_one', mul_assoc']
theorem giveL_fold {bl : List Nat} {l : List It} {w : It} (hlen : (bl ++ [qb]).length = L.kids.length) (hlenR : bsR.length = R.kids.length) :
    Ent (NodeP c yb l bl * (NodeP c xb (w :: R.its) (qb :: bsR) * (Ks c h L.kids (bl ++ [qb]) * Ks c h R.kids bsR))) (Tp c h (giveL L l) yb * Tp c h (takeL L R w) xb) := by
  rw [giveL_ks hlen]
  have f1 : Ent (NodeP c yb l bl * Ks c h L.kids.dropLast bl) (Tp c h (giveL L l) yb) := tree_fold (by simp at hlen ⊢; omega)
  have f2 : Ent (NodeP c xb (w :: R.its) (qb :: bsR) * Ks c h (L.kids.getLast?.toList ++ R.kids) (qb :: bsR)) (Tp c h (takeL L R w) xb) := tree_fold (by
    have : L.kids.getLast?.toList.length = 1 := by
      cases hh : L.kids.getLast? with
      | none => rw [List.getLast?_eq_none_iff.1 hh] at hlen; simp at hlen
      | some q => rfl
    rw [List.length_append, this]; simp; omega)
  exact (Ent.of_eq (by ac_rfl)).trans (Ent.mul f1 f2)
theorem giveL_fold0 {l : List It} {w : It} (hlen : bsL.length = L.kids.length) (hlenR : bsR.length = R.kids.length) (h0 : bsL.length = 0) :
    Ent (NodeP c yb l bsL * (NodeP c xb (w :: R.its) bsR * (Ks c h L.kids bsL * Ks c h R.kids bsR))) (Tp c h (giveL L l) yb * Tp c h (takeL L R w) xb) := by
  obtain ⟨e1, e2⟩ := ks_none hlen h0
  have f1 : Ent (NodeP c yb l bsL * Ks c h L.kids bsL) (Tp c h (giveL L l) yb) := by
    have := tree_fold (c := c) (h := h) (b := yb) (its := l) (kids := L.kids.dropLast) (bs := bsL) (by rw [e1, e2]; rfl)
    rw [e1, e2] at this ⊢
    unfold giveL; rw [e1]; exact this
  have f2 : Ent (NodeP c xb (w :: R.its) bsR * Ks c h R.kids bsR) (Tp c h (takeL L R w) xb) := by
    unfold takeL; rw [e1]; exact tree_fold hlenR
  exact (Ent.of_eq (by ac_rfl)).trans (Ent.mul f1 f2)
theorem giveR_fold {br : List Nat} {r : List It} {w : It} (hlenL : bsL.length = L.kids.length) (hlen : (qb :: br).length = R.kids.length) :
    Ent (NodeP c yb (L.its ++ [w]) (bsL ++ [qb]) * (NodeP c xb r br * (Ks c h L.kids bsL * Ks c h R.kids (qb :: br)))) (Tp c h (takeR L R w) yb * Tp c h (giveR R r) xb) := by
  rw [giveR_ks hlenL hlen]
  have f1 : Ent (NodeP c yb (L.its ++ [w]) (bsL ++ [qb]) * Ks c h (L.kids ++ R.kids.head?.toList) (bsL ++ [qb])) (Tp c h (takeR L R w) yb) := tree_fold (by
    have : R.kids.head?.toList.length = 1 := by
      cases hh : R.kids with
      | nil => rw [hh] at hlen; simp at hlen
      | cons q l => rfl
    rw [List.length_append, List.length_append, this]; simp; omega)
  have f2 : Ent (NodeP c xb r br * Ks c h R.kids.tail br) (Tp c h (giveR R r) xb) := tree_fold (by simp at hlen ⊢; omega)
  exact (Ent.of_eq (by ac_rfl)).trans (Ent.mul f1 f2)
theorem giveR_fold0 {r : List It} {w : It} (hlenL : bsL.length = L.kids.length) (hlen : bsR.length = R.kids.length) (h0 : bsR.length = 0) :
    Ent (NodeP c yb (L.its ++ [w]) bsL * (NodeP c xb r bsR * (Ks c h L.kids bsL * Ks c h R.kids bsR))) (Tp c h (takeR L R w) yb * Tp c h (giveR R r) xb) := by
  obtain ⟨e1, e2⟩ := ks_none hlen h0
  have f1 : Ent (NodeP c yb (L.its ++ [w]) bsL * Ks c h L.kids bsL) (Tp c h (takeR L R w) yb) := by
    unfold takeR; rw [e1]
    show Ent _ (Tp c h (.mk (L.its ++ [w]) (L.kids ++ [])) yb)
    rw [List.append_nil]; exact tree_fold hlenL
  have f2 : Ent (NodeP c xb r bsR * Ks c h R.kids bsR) (Tp c h (giveR R r) xb) := by
    have := tree_fold (c := c) (h := h) (b := xb) (its := r) (kids := R.kids.tail) (bs := bsR) (by rw [e1, e2]; rfl)
    rw [e1, e2] at this ⊢
    unfold giveR; rw [e1]; exact this
  exact (Ent.of_eq (by ac_rfl)).trans (Ent.mul f1 f2)
theorem join_fold {w : It} (hlenL : bsL.length = L.kids.length) (hlenR : bsR.length = R.kids.length) :
    Ent (NodeP c yb (L.its ++ w :: R.its) (bsL ++ bsR) * (Ks c h L.kids bsL * Ks c h R.kids bsR)) (Tp c h (joinT L R w) yb) := by
  rw [← Ks_append hlenL.symm]
  exact tree_fold (by rw [List.length_append, List.length_append, hlenL, hlenR])
end
end Go.Proofs.Ytnnembkganlbpaa
